import JvmDerived
import JvmDerived.Pilot.@@N@@Statement
import JvmDerived.Pilot.@@N@@Code
set_option linter.unusedVariables false
set_option linter.unusedSimpArgs false
namespace Jvm.Pilot.@@N@@
open Jvm Jvm.ClassFile Sem Op Lib Jvm.Free Jvm.Stand Jvm.LawKit Jvm.RoadKit Bundle Jvm.Pilot.@@N@@.Jvm.D
section OwnSteps
variable {p : Program} {l : Launch} {e : Env} {R : Room} {s : State} {m : MethodId} {args : Array Value} {below : List Frame} {meth : Method} {c : Code} {T : State} {locs : List Loc} {cells slots : Nat} {G : State → Outcome → Prop} {B : ByteArray} {pc pc' : Nat} {Ls Ls' : Array Slot} {st : List Value}
/-- from here the run ends as G says -/
def own_E (tb : Tables) (e : Env) (below : List Frame) (G : State → Outcome → Prop) (A : State) : Prop := ∃ s₂ o, Steps tb e below A s₂ ∧ G s₂ o
theorem own_go {tb : Tables} {A A' : State} (h : ∀ t, Steps tb e below A' t → Steps tb e below A t) (k : own_E tb e below G A') : own_E tb e below G A := by
  obtain ⟨s₂, o, h1, h2⟩ := k; exact ⟨s₂, o, h _ h1, h2⟩
theorem own_tr {tb : Tables} {A A' : State} (h : Steps tb e below A A') (k : own_E tb e below G A') : own_E tb e below G A := own_go (fun _ q => h.trans q) k
theorem own_iloadN (X : Stand p l e R s m args below meth c T locs cells slots) (hx : p.tables.exec = Jvm.exec) (hby : c.code = B) {k : Fin 4} {v : Int32} (hd : decode B pc = .ok (.iload_n k, 1)) (hp : pc + 1 = pc') (hl : Ls[k.val]? = some (.val (.int v)))
    (k : own_E p.tables e below G (T.setTop (mkF m pc' Ls (.int v :: st)))) : own_E p.tables e below G (T.setTop (mkF m pc Ls (st))) := by
  subst hp; exact own_go (fun t q => XS.iloadN X.here hx rfl (hb hby hd) hl q) k
theorem own_iload (X : Stand p l e R s m args below meth c T locs cells slots) (hx : p.tables.exec = Jvm.exec) (hby : c.code = B) {k : Nat} {v : Int32} (hd : decode B pc = .ok (.iload k, 2)) (hp : pc + 2 = pc') (hl : Ls[k]? = some (.val (.int v)))
    (k : own_E p.tables e below G (T.setTop (mkF m pc' Ls (.int v :: st)))) : own_E p.tables e below G (T.setTop (mkF m pc Ls (st))) := by
  subst hp; exact own_go (fun t q => XS.iload X.here hx rfl (hb hby hd) hl q) k
theorem own_lloadN (X : Stand p l e R s m args below meth c T locs cells slots) (hx : p.tables.exec = Jvm.exec) (hby : c.code = B) {k : Fin 4} {v : Int64} (hd : decode B pc = .ok (.lload_n k, 1)) (hp : pc + 1 = pc') (hl : Ls[k.val]? = some (.val (.long v)))
    (k : own_E p.tables e below G (T.setTop (mkF m pc' Ls (.long v :: st)))) : own_E p.tables e below G (T.setTop (mkF m pc Ls (st))) := by
  subst hp; exact own_go (fun t q => XS.lloadN X.here hx rfl (hb hby hd) hl q) k
theorem own_aloadN (X : Stand p l e R s m args below meth c T locs cells slots) (hx : p.tables.exec = Jvm.exec) (hby : c.code = B) {k : Fin 4} {v : Value} (hd : decode B pc = .ok (.aload_n k, 1)) (hp : pc + 1 = pc') (hl : Ls[k.val]? = some (.val v)) (hv : v.isRef = true)
    (k : own_E p.tables e below G (T.setTop (mkF m pc' Ls (v :: st)))) : own_E p.tables e below G (T.setTop (mkF m pc Ls (st))) := by
  subst hp; exact own_go (fun t q => XS.aloadN X.here hx rfl (hb hby hd) hl hv q) k
theorem own_aload (X : Stand p l e R s m args below meth c T locs cells slots) (hx : p.tables.exec = Jvm.exec) (hby : c.code = B) {k : Nat} {v : Value} (hd : decode B pc = .ok (.aload k, 2)) (hp : pc + 2 = pc') (hl : Ls[k]? = some (.val v)) (hv : v.isRef = true)
    (k : own_E p.tables e below G (T.setTop (mkF m pc' Ls (v :: st)))) : own_E p.tables e below G (T.setTop (mkF m pc Ls (st))) := by
  subst hp; exact own_go (fun t q => XS.aload X.here hx rfl (hb hby hd) hl hv q) k
theorem own_istoreN (X : Stand p l e R s m args below meth c T locs cells slots) (hx : p.tables.exec = Jvm.exec) (hby : c.code = B) {k : Fin 4} {v : Int32} (hd : decode B pc = .ok (.istore_n k, 1)) (hp : pc + 1 = pc') (hl : storeLocals Ls k.val (.int v) = some Ls')
    (k : own_E p.tables e below G (T.setTop (mkF m pc' Ls' (st)))) : own_E p.tables e below G (T.setTop (mkF m pc Ls (.int v :: st))) := by
  subst hp; exact own_go (fun t q => XS.istoreN X.here hx rfl (hb hby hd) rfl hl q) k
theorem own_istore (X : Stand p l e R s m args below meth c T locs cells slots) (hx : p.tables.exec = Jvm.exec) (hby : c.code = B) {k : Nat} {v : Int32} (hd : decode B pc = .ok (.istore k, 2)) (hp : pc + 2 = pc') (hl : storeLocals Ls k (.int v) = some Ls')
    (k : own_E p.tables e below G (T.setTop (mkF m pc' Ls' (st)))) : own_E p.tables e below G (T.setTop (mkF m pc Ls (.int v :: st))) := by
  subst hp; exact own_go (fun t q => XS.istore X.here hx rfl (hb hby hd) rfl hl q) k
theorem own_astoreN (X : Stand p l e R s m args below meth c T locs cells slots) (hx : p.tables.exec = Jvm.exec) (hby : c.code = B) {k : Fin 4} {v : Value} (hd : decode B pc = .ok (.astore_n k, 1)) (hp : pc + 1 = pc') (hv : v.isRef = true) (hl : storeLocals Ls k.val v = some Ls')
    (k : own_E p.tables e below G (T.setTop (mkF m pc' Ls' (st)))) : own_E p.tables e below G (T.setTop (mkF m pc Ls (v :: st))) := by
  subst hp; exact own_go (fun t q => XS.astoreN X.here hx rfl (hb hby hd) rfl hv hl q) k
theorem own_astore (X : Stand p l e R s m args below meth c T locs cells slots) (hx : p.tables.exec = Jvm.exec) (hby : c.code = B) {k : Nat} {v : Value} (hd : decode B pc = .ok (.astore k, 2)) (hp : pc + 2 = pc') (hv : v.isRef = true) (hl : storeLocals Ls k v = some Ls')
    (k : own_E p.tables e below G (T.setTop (mkF m pc' Ls' (st)))) : own_E p.tables e below G (T.setTop (mkF m pc Ls (v :: st))) := by
  subst hp; exact own_go (fun t q => XS.astore X.here hx rfl (hb hby hd) rfl hv hl q) k
theorem own_iinc (X : Stand p l e R s m args below meth c T locs cells slots) (hx : p.tables.exec = Jvm.exec) (hby : c.code = B) {k : Nat} {cst : Int} {v z : Int32} (hd : decode B pc = .ok (.iinc k cst, 3)) (hp : pc + 3 = pc') (hl : Ls[k]? = some (.val (.int v))) (hz : Int32.ofInt cst = z) (hl' : storeLocals Ls k (.int (v + z)) = some Ls')
    (k : own_E p.tables e below G (T.setTop (mkF m pc' Ls' (st)))) : own_E p.tables e below G (T.setTop (mkF m pc Ls (st))) := by
  subst hp; exact own_go (fun t q => XS.iinc X.here hx rfl (hb hby hd) hl (hz ▸ hl') q) k
theorem own_iconst (X : Stand p l e R s m args below meth c T locs cells slots) (hx : p.tables.exec = Jvm.exec) (hby : c.code = B) {i : Int} {z : Int32} (hd : decode B pc = .ok (.iconst i, 1)) (hp : pc + 1 = pc') (hz : Int32.ofInt i = z)
    (k : own_E p.tables e below G (T.setTop (mkF m pc' Ls (.int z :: st)))) : own_E p.tables e below G (T.setTop (mkF m pc Ls (st))) := by
  subst hp hz; exact own_go (fun t q => XS.iconst X.here hx rfl (hb hby hd) q) k
theorem own_bipush (X : Stand p l e R s m args below meth c T locs cells slots) (hx : p.tables.exec = Jvm.exec) (hby : c.code = B) {i : Int} {z : Int32} (hd : decode B pc = .ok (.bipush i, 2)) (hp : pc + 2 = pc') (hz : (Int8.ofInt i).toInt32 = z)
    (k : own_E p.tables e below G (T.setTop (mkF m pc' Ls (.int z :: st)))) : own_E p.tables e below G (T.setTop (mkF m pc Ls (st))) := by
  subst hp hz; exact own_go (fun t q => XS.bipush X.here hx rfl (hb hby hd) q) k
theorem own_sipush (X : Stand p l e R s m args below meth c T locs cells slots) (hx : p.tables.exec = Jvm.exec) (hby : c.code = B) {i : Int} {z : Int32} (hd : decode B pc = .ok (.sipush i, 3)) (hp : pc + 3 = pc') (hz : (Int16.ofInt i).toInt32 = z)
    (k : own_E p.tables e below G (T.setTop (mkF m pc' Ls (.int z :: st)))) : own_E p.tables e below G (T.setTop (mkF m pc Ls (st))) := by
  subst hp hz; exact own_go (fun t q => XS.sipush X.here hx rfl (hb hby hd) q) k
theorem own_aconst_null (X : Stand p l e R s m args below meth c T locs cells slots) (hx : p.tables.exec = Jvm.exec) (hby : c.code = B)  (hd : decode B pc = .ok (.aconst_null, 1)) (hp : pc + 1 = pc') 
    (k : own_E p.tables e below G (T.setTop (mkF m pc' Ls (.null :: st)))) : own_E p.tables e below G (T.setTop (mkF m pc Ls (st))) := by
  subst hp; exact own_go (fun t q => XS.aconstNull X.here hx rfl (hb hby hd)  q) k
theorem own_iadd (X : Stand p l e R s m args below meth c T locs cells slots) (hx : p.tables.exec = Jvm.exec) (hby : c.code = B) {x y : Int32} (hd : decode B pc = .ok (.iadd, 1)) (hp : pc + 1 = pc') 
    (k : own_E p.tables e below G (T.setTop (mkF m pc' Ls (.int (x + y) :: st)))) : own_E p.tables e below G (T.setTop (mkF m pc Ls (.int y :: .int x :: st))) := by
  subst hp; exact own_go (fun t q => XS.iadd X.here hx rfl (hb hby hd) rfl q) k
theorem own_isub (X : Stand p l e R s m args below meth c T locs cells slots) (hx : p.tables.exec = Jvm.exec) (hby : c.code = B) {x y : Int32} (hd : decode B pc = .ok (.isub, 1)) (hp : pc + 1 = pc') 
    (k : own_E p.tables e below G (T.setTop (mkF m pc' Ls (.int (x - y) :: st)))) : own_E p.tables e below G (T.setTop (mkF m pc Ls (.int y :: .int x :: st))) := by
  subst hp; exact own_go (fun t q => XS.isub X.here hx rfl (hb hby hd) rfl q) k
theorem own_iand (X : Stand p l e R s m args below meth c T locs cells slots) (hx : p.tables.exec = Jvm.exec) (hby : c.code = B) {x y : Int32} (hd : decode B pc = .ok (.iand, 1)) (hp : pc + 1 = pc') 
    (k : own_E p.tables e below G (T.setTop (mkF m pc' Ls (.int (x &&& y) :: st)))) : own_E p.tables e below G (T.setTop (mkF m pc Ls (.int y :: .int x :: st))) := by
  subst hp; exact own_go (fun t q => XS.iand X.here hx rfl (hb hby hd) rfl q) k
theorem own_imul (X : Stand p l e R s m args below meth c T locs cells slots) (hx : p.tables.exec = Jvm.exec) (hby : c.code = B) {x y : Int32} (hd : decode B pc = .ok (.imul, 1)) (hp : pc + 1 = pc') 
    (k : own_E p.tables e below G (T.setTop (mkF m pc' Ls (.int (x * y) :: st)))) : own_E p.tables e below G (T.setTop (mkF m pc Ls (.int y :: .int x :: st))) := by
  subst hp; exact own_go (fun t q => XS.imul X.here hx rfl (hb hby hd) rfl q) k
theorem own_ior (X : Stand p l e R s m args below meth c T locs cells slots) (hx : p.tables.exec = Jvm.exec) (hby : c.code = B) {x y : Int32} (hd : decode B pc = .ok (.ior, 1)) (hp : pc + 1 = pc') 
    (k : own_E p.tables e below G (T.setTop (mkF m pc' Ls (.int (x ||| y) :: st)))) : own_E p.tables e below G (T.setTop (mkF m pc Ls (.int y :: .int x :: st))) := by
  subst hp; exact own_go (fun t q => XS.ior X.here hx rfl (hb hby hd) rfl q) k
theorem own_ishl (X : Stand p l e R s m args below meth c T locs cells slots) (hx : p.tables.exec = Jvm.exec) (hby : c.code = B) {x y : Int32} (hd : decode B pc = .ok (.ishl, 1)) (hp : pc + 1 = pc') 
    (k : own_E p.tables e below G (T.setTop (mkF m pc' Ls (.int (x <<< (y &&& 31)) :: st)))) : own_E p.tables e below G (T.setTop (mkF m pc Ls (.int y :: .int x :: st))) := by
  subst hp; exact own_go (fun t q => XS.ishl X.here hx rfl (hb hby hd) rfl q) k
theorem own_ishr (X : Stand p l e R s m args below meth c T locs cells slots) (hx : p.tables.exec = Jvm.exec) (hby : c.code = B) {x y : Int32} (hd : decode B pc = .ok (.ishr, 1)) (hp : pc + 1 = pc') 
    (k : own_E p.tables e below G (T.setTop (mkF m pc' Ls (.int (x >>> (y &&& 31)) :: st)))) : own_E p.tables e below G (T.setTop (mkF m pc Ls (.int y :: .int x :: st))) := by
  subst hp; exact own_go (fun t q => XS.ishr X.here hx rfl (hb hby hd) rfl q) k
theorem own_iushr (X : Stand p l e R s m args below meth c T locs cells slots) (hx : p.tables.exec = Jvm.exec) (hby : c.code = B) {x y : Int32} (hd : decode B pc = .ok (.iushr, 1)) (hp : pc + 1 = pc') 
    (k : own_E p.tables e below G (T.setTop (mkF m pc' Ls (.int ((x.toUInt32 >>> (y &&& 31).toUInt32).toInt32) :: st)))) : own_E p.tables e below G (T.setTop (mkF m pc Ls (.int y :: .int x :: st))) := by
  subst hp; exact own_go (fun t q => XS.iushr X.here hx rfl (hb hby hd) rfl q) k
theorem own_lushr (X : Stand p l e R s m args below meth c T locs cells slots) (hx : p.tables.exec = Jvm.exec) (hby : c.code = B) {x : Int64} {y : Int32} (hd : decode B pc = .ok (.lushr, 1)) (hp : pc + 1 = pc')
    (k : own_E p.tables e below G (T.setTop (mkF m pc' Ls (.long ((x.toUInt64 >>> (y &&& 0x3f).toInt64.toUInt64).toInt64) :: st)))) : own_E p.tables e below G (T.setTop (mkF m pc Ls (.int y :: .long x :: st))) := by
  subst hp; exact own_go (fun t q => by
    jvm_step X.here [X.here.top, hx, hb hby hd]
    first | exact q | simpa [Int32.toInt64_and] using q) k
theorem own_irem (X : Stand p l e R s m args below meth c T locs cells slots) (hx : p.tables.exec = Jvm.exec) (hby : c.code = B) {x y : Int32} (hd : decode B pc = .ok (.irem, 1)) (hp : pc + 1 = pc') (hy : y ≠ 0)
    (k : own_E p.tables e below G (T.setTop (mkF m pc' Ls (.int (x % y) :: st)))) : own_E p.tables e below G (T.setTop (mkF m pc Ls (.int y :: .int x :: st))) := by
  subst hp; exact own_go (fun t q => iremM X hx rfl (hb hby hd) rfl hy q) k
theorem own_ineg (X : Stand p l e R s m args below meth c T locs cells slots) (hx : p.tables.exec = Jvm.exec) (hby : c.code = B) {x : Int32} (hd : decode B pc = .ok (.ineg, 1)) (hp : pc + 1 = pc') 
    (k : own_E p.tables e below G (T.setTop (mkF m pc' Ls (.int (-x) :: st)))) : own_E p.tables e below G (T.setTop (mkF m pc Ls (.int x :: st))) := by
  subst hp; exact own_go (fun t q => XS.ineg X.here hx rfl (hb hby hd) rfl q) k
theorem own_l2i (X : Stand p l e R s m args below meth c T locs cells slots) (hx : p.tables.exec = Jvm.exec) (hby : c.code = B) {x : Int64} (hd : decode B pc = .ok (.l2i, 1)) (hp : pc + 1 = pc') 
    (k : own_E p.tables e below G (T.setTop (mkF m pc' Ls (.int (x.toInt32) :: st)))) : own_E p.tables e below G (T.setTop (mkF m pc Ls (.long x :: st))) := by
  subst hp; exact own_go (fun t q => XS.l2i X.here hx rfl (hb hby hd) rfl q) k
theorem own_i2b (X : Stand p l e R s m args below meth c T locs cells slots) (hx : p.tables.exec = Jvm.exec) (hby : c.code = B) {x : Int32} (hd : decode B pc = .ok (.i2b, 1)) (hp : pc + 1 = pc') 
    (k : own_E p.tables e below G (T.setTop (mkF m pc' Ls (.int (x.toInt8.toInt32) :: st)))) : own_E p.tables e below G (T.setTop (mkF m pc Ls (.int x :: st))) := by
  subst hp; exact own_go (fun t q => XS.i2b X.here hx rfl (hb hby hd) rfl q) k
theorem own_i2c (X : Stand p l e R s m args below meth c T locs cells slots) (hx : p.tables.exec = Jvm.exec) (hby : c.code = B) {x : Int32} (hd : decode B pc = .ok (.i2c, 1)) (hp : pc + 1 = pc') 
    (k : own_E p.tables e below G (T.setTop (mkF m pc' Ls (.int (x.toUInt32.toUInt16.toUInt32.toInt32) :: st)))) : own_E p.tables e below G (T.setTop (mkF m pc Ls (.int x :: st))) := by
  subst hp; exact own_go (fun t q => XS.i2c X.here hx rfl (hb hby hd) rfl q) k
theorem own_dup (X : Stand p l e R s m args below meth c T locs cells slots) (hx : p.tables.exec = Jvm.exec) (hby : c.code = B) {v : Value} (hd : decode B pc = .ok (.dup, 1)) (hp : pc + 1 = pc') (hc : v.category = 1)
    (k : own_E p.tables e below G (T.setTop (mkF m pc' Ls (v :: v :: st)))) : own_E p.tables e below G (T.setTop (mkF m pc Ls (v :: st))) := by
  subst hp; exact own_go (fun t q => XS.dup X.here hx rfl (hb hby hd) rfl hc q) k
theorem own_pop (X : Stand p l e R s m args below meth c T locs cells slots) (hx : p.tables.exec = Jvm.exec) (hby : c.code = B) {v : Value} (hd : decode B pc = .ok (.pop, 1)) (hp : pc + 1 = pc') (hc : v.category = 1)
    (k : own_E p.tables e below G (T.setTop (mkF m pc' Ls (st)))) : own_E p.tables e below G (T.setTop (mkF m pc Ls (v :: st))) := by
  subst hp; exact own_go (fun t q => XS.pop X.here hx rfl (hb hby hd) rfl hc q) k
theorem own_goto (X : Stand p l e R s m args below meth c T locs cells slots) (hx : p.tables.exec = Jvm.exec) (hby : c.code = B) {o : Int} (hd : decode B pc = .ok (.goto o, 3)) (ho : 0 ≤ (pc : Int) + o) (hp : ((pc : Int) + o).toNat = pc')
    (k : own_E p.tables e below G (T.setTop (mkF m pc' Ls (st)))) : own_E p.tables e below G (T.setTop (mkF m pc Ls (st))) := own_go (fun t q => XS.goto X.here hx rfl rfl (hb hby hd) ho hp q) k
theorem own_ifY (X : Stand p l e R s m args below meth c T locs cells slots) (hx : p.tables.exec = Jvm.exec) (hby : c.code = B) {cd : ClassFile.Cond} {x : Int32} {o : Int} (hd : decode B pc = .ok (.ifCond cd o, 3)) (ho : 0 ≤ (pc : Int) + o) (hp : ((pc : Int) + o).toNat = pc') (hc : if_icmp.holds cd x 0 = true)
    (k : own_E p.tables e below G (T.setTop (mkF m pc' Ls (st)))) : own_E p.tables e below G (T.setTop (mkF m pc Ls (.int x :: st))) := own_go (fun t q => XS.ifYes X.here hx rfl rfl (hb hby hd) rfl ((if0 _ _).trans hc) ho hp q) k
theorem own_ifN (X : Stand p l e R s m args below meth c T locs cells slots) (hx : p.tables.exec = Jvm.exec) (hby : c.code = B) {cd : ClassFile.Cond} {x : Int32} {o : Int} (hd : decode B pc = .ok (.ifCond cd o, 3)) (hp : pc + 3 = pc') (hc : if_icmp.holds cd x 0 = false)
    (k : own_E p.tables e below G (T.setTop (mkF m pc' Ls (st)))) : own_E p.tables e below G (T.setTop (mkF m pc Ls (.int x :: st))) := by
  subst hp; exact own_go (fun t q => XS.ifNo X.here hx rfl (hb hby hd) rfl ((if0 _ _).trans hc) q) k
theorem own_icmpY (X : Stand p l e R s m args below meth c T locs cells slots) (hx : p.tables.exec = Jvm.exec) (hby : c.code = B) {cd : ClassFile.Cond} {x y : Int32} {o : Int} (hd : decode B pc = .ok (.if_icmp cd o, 3)) (ho : 0 ≤ (pc : Int) + o) (hp : ((pc : Int) + o).toNat = pc') (hc : if_icmp.holds cd x y = true)
    (k : own_E p.tables e below G (T.setTop (mkF m pc' Ls (st)))) : own_E p.tables e below G (T.setTop (mkF m pc Ls (.int y :: .int x :: st))) := own_go (fun t q => XS.icmpYes X.here hx rfl rfl (hb hby hd) rfl hc ho hp q) k
theorem own_icmpN (X : Stand p l e R s m args below meth c T locs cells slots) (hx : p.tables.exec = Jvm.exec) (hby : c.code = B) {cd : ClassFile.Cond} {x y : Int32} {o : Int} (hd : decode B pc = .ok (.if_icmp cd o, 3)) (hp : pc + 3 = pc') (hc : if_icmp.holds cd x y = false)
    (k : own_E p.tables e below G (T.setTop (mkF m pc' Ls (st)))) : own_E p.tables e below G (T.setTop (mkF m pc Ls (.int y :: .int x :: st))) := by
  subst hp; exact own_go (fun t q => XS.icmpNo X.here hx rfl (hb hby hd) rfl hc q) k
theorem own_ifnonnullY (X : Stand p l e R s m args below meth c T locs cells slots) (hx : p.tables.exec = Jvm.exec) (hby : c.code = B) {b : Addr} {o : Int} (hd : decode B pc = .ok (.ifnonnull o, 3)) (ho : 0 ≤ (pc : Int) + o) (hp : ((pc : Int) + o).toNat = pc')
    (k : own_E p.tables e below G (T.setTop (mkF m pc' Ls (st)))) : own_E p.tables e below G (T.setTop (mkF m pc Ls (.ref b :: st))) := own_go (fun t q => XS.ifnonnullYes X.here hx rfl rfl (hb hby hd) rfl ho hp q) k
theorem own_acmp (X : Stand p l e R s m args below meth c T locs cells slots) (hx : p.tables.exec = Jvm.exec) (hby : c.code = B) {cd : ClassFile.ACond} {x y : Value} {o : Int} {same : Bool} (hd : decode B pc = .ok (.if_acmp cd o, 3)) (h1 : x.isRef = true) (h2 : y.isRef = true) (hq : decide (x = y) = same) (ho : 0 ≤ (pc : Int) + o) (hp : pc' = if acV cd same = true then ((pc : Int) + o).toNat else pc + 3)
    (k : own_E p.tables e below G (T.setTop (mkF m pc' Ls (st)))) : own_E p.tables e below G (T.setTop (mkF m pc Ls (y :: x :: st))) := own_go (fun t q => Jvm.RoadKit.acmp (g := mkF m pc Ls (y :: x :: st)) X hx rfl h1 h2 rfl (hb hby hd) rfl hq ho hp q) k
/-- what a body owes at its end -/
def own_End (s : State) (below : List Frame) (Q : Option Value → Heap → List Loc → Prop) (C S : Nat) (s₂ : State) (o : Outcome) : Prop := s₂.status = .running ∧ Ended s₂ below o ∧ ∃ v L, o = .returned v ∧ Q v s₂.heap L ∧ FrameEnd s o s₂ L C S
theorem own_ret (X : Stand p l e R s m args below meth c T locs cells slots) {Q : Option Value → Heap → List Loc → Prop} {C S : Nat} {v : Option Value} (hv : meth.sig.returnType = none → v = none) (hlocks : meth.locks = false)
    (hst : ∀ fs : List Frame, (∀ (f : JFrame) (acts : List Action), f.method = m → f.locked = none → f.entered = [] → (doReturn e (T.setTop f) acts v).1 = T.setFrames fs) → Steps p.tables e below (T.setTop (mkF m pc Ls st)) (T.setFrames fs))
    (hq : Q v T.heap locs) (hc : cells ≤ C) (hs : slots ≤ S) : own_E p.tables e below (own_End s below Q C S) (T.setTop (mkF m pc Ls st)) := by
  obtain ⟨fs, hr, hrun, hended, hW, hsame⟩ := X.leave hv hlocks
  exact ⟨_, _, hst fs hr, hrun, hended, v, locs, rfl, hq, ⟨_, rfl⟩, hW, hsame.mono hc hs⟩
theorem own_retN (X : Stand p l e R s m args below meth c T locs cells slots) (hx : p.tables.exec = Jvm.exec) (hby : c.code = B) {Q : Option Value → Heap → List Loc → Prop} {C S : Nat} {t : FieldType} {z z' : Int32} (hlocks : meth.locks = false) (hret : meth.sig.returnType = some t) (ht : t = .boolean ∨ t = .byte ∨ t = .char ∨ t = .short)
    (hd : decode B pc = .ok (.ireturn, 1)) (hz : nar t z = z') (hq : Q (some (.int z')) T.heap locs) (hc : cells ≤ C) (hs : slots ≤ S) : own_E p.tables e below (own_End s below Q C S) (T.setTop (mkF m pc Ls (.int z :: st))) :=
  own_ret X (fun h => by rw [hret] at h; cases h) hlocks (fun fs hl => retN X hx (t := t) hret ht (hb hby hd) (by rw [hz]; exact hl)) hq hc hs
theorem own_retI (X : Stand p l e R s m args below meth c T locs cells slots) (hx : p.tables.exec = Jvm.exec) (hby : c.code = B) {Q : Option Value → Heap → List Loc → Prop} {C S : Nat} {z : Int32} (hlocks : meth.locks = false) (hret : meth.sig.returnType = some .int)
    (hd : decode B pc = .ok (.ireturn, 1)) (hq : Q (some (.int z)) T.heap locs) (hc : cells ≤ C) (hs : slots ≤ S) : own_E p.tables e below (own_End s below Q C S) (T.setTop (mkF m pc Ls (.int z :: st))) :=
  own_ret X (fun h => by rw [hret] at h; cases h) hlocks (fun fs hl => retOut X hx hret rfl (Or.inl ⟨rfl, Or.inl rfl, _, rfl⟩) (hb hby hd) hl) hq hc hs
theorem own_retA (X : Stand p l e R s m args below meth c T locs cells slots) (hx : p.tables.exec = Jvm.exec) (hby : c.code = B) {Q : Option Value → Heap → List Loc → Prop} {C S : Nat} {t : FieldType} {v : Value} (hlocks : meth.locks = false) (hret : meth.sig.returnType = some t) (ht : t.isReference = true) (hv : v.isRef = true)
    (hd : decode B pc = .ok (.areturn, 1)) (hq : Q (some v) T.heap locs) (hc : cells ≤ C) (hs : slots ≤ S) : own_E p.tables e below (own_End s below Q C S) (T.setTop (mkF m pc Ls (v :: st))) :=
  own_ret X (fun h => by rw [hret] at h; cases h) hlocks (fun fs hl => retOut X hx hret (by cases t <;> first | (cases ht; done) | (rcases ref_cases hv with rfl | ⟨_, rfl⟩ <;> rfl)) (Or.inr (Or.inr (Or.inr (Or.inr ⟨rfl, ht, hv⟩)))) (hb hby hd) hl) hq hc hs
theorem own_ret0 (X : Stand p l e R s m args below meth c T locs cells slots) (hx : p.tables.exec = Jvm.exec) (hby : c.code = B) {Q : Option Value → Heap → List Loc → Prop} {C S : Nat} (hlocks : meth.locks = false) (hret : meth.sig.returnType = none)
    (hd : decode B pc = .ok (.return_, 1)) (hq : Q none T.heap locs) (hc : cells ≤ C) (hs : slots ≤ S) : own_E p.tables e below (own_End s below Q C S) (T.setTop (mkF m pc Ls [])) :=
  own_ret X (fun _ => rfl) hlocks (fun fs hl => X.returnOut hx hret (hb hby hd) hl) hq hc hs
theorem own_callS (X : Stand p l e R s m args below meth c T locs cells slots) (hx : p.tables.exec = Jvm.exec) (hby : c.code = B) {Z : State} {a0 : Array Value} {h : Heap} {own : String} {index nl : Nat} {as' : Array Value} {W cc ss : Nat} {Q : Option Value → Heap → List Loc → Prop} {y : MethodName} {bytes : ByteArray} {maxL : Nat} {ret : Option FieldType} (hml : c.maxLocals = nl) (hZ : Z.Warmed39 s.vm) (hown : s.vm.findClass own = some m.cls)
    (w1 : (Cond.methodLink own index y).before a0 Z = true) (w2 : (Cond.static y).before a0 Z = true) (w3 : (Cond.initialized y.cls).before a0 Z = true) (w4 : (Cond.code y bytes maxL ret).before a0 Z = true) (hy : y.cls ≠ "java/lang/invoke/MethodHandle" ∧ y.cls ≠ "java/lang/invoke/VarHandle")
    (hK : Back l R p e below s args y 3 W (fun P a => a = as' ∧ P.U.heap = h ∧ P.cells + cc ≤ R.cells ∧ P.slots + ss ≤ R.slots) (fun P _ v B => ∃ L, Q v B.U.heap L ∧ B.locs = P.locs ++ L ∧ B.cells = P.cells + cc ∧ B.slots = P.slots + ss)) (hsz : Ls.size = nl) {argsL rest : List Value} {ps : List FieldType} {r : Option FieldType} (hpd : parseMethodDescriptor y.desc = some ⟨ps, r⟩) (hlen : argsL.length = ps.length) (hst : st = argsL.reverse ++ rest) (hW : (rest.map fun v => v.category).sum ≤ W)
    (hd : decode B pc = .ok (.invokestatic index, 3)) (hp : pc + 3 = pc') (hargs : argsL.toArray = as') (eT : T.heap = h) (hc : cells + cc ≤ R.cells) (hs : slots + ss ≤ R.slots)
    (k : ∀ (v : Option Value) (T' : State) (h' : Heap) (L : List Loc), Stand p l e R s m args below meth c T' (locs ++ L) (cells + cc) (slots + ss) → T'.heap = h' → Q v h' L → own_E p.tables e below G (T'.setTop (mkF m pc' Ls (v.toList ++ rest)))) : own_E p.tables e below G (T.setTop (mkF m pc Ls st)) := by
  subst hp
  obtain ⟨v, vm₁, ⟨T', L', k', n'⟩, -, X', ⟨L, hQ, q1, q2, q3⟩, stp⟩ := Jvm.LawKit.callS X hx hown (mvT hZ w1) (mvT hZ w2) (mvT hZ w3) (mvT hZ w4) hy hK (g := mkF m pc Ls st) rfl (by rw [hml]; exact hsz) (argsL := argsL) (rest := rest) (lenOf hpd hlen) hst (by show 2 * 0 + _ ≤ _; rw [Nat.mul_zero, Nat.zero_add]; exact hW) (hb hby hd) (fun _ _ => ⟨hargs, eT, hc, hs⟩)
  dsimp only at X' hQ q1 q2 q3 stp
  subst q1 q2 q3
  exact own_go stp (k v T' _ L X' rfl hQ)
theorem own_spec (X : Stand p l e R s m args below meth c T locs cells slots) (hx : p.tables.exec = Jvm.exec) (hby : c.code = B) {Z : State} {a0 : Array Value} {h : Heap} {own : String} {index nl : Nat} {as' : Array Value} {W cc ss : Nat} {Q : Option Value → Heap → List Loc → Prop} {y : MethodName} {bytes : ByteArray} {maxL : Nat} (hml : c.maxLocals = nl) (hZ : Z.Warmed39 s.vm) (hown : s.vm.findClass own = some m.cls) (hy1 : y.name = "<init>")
    (w1 : (Cond.methodLink own index y).before a0 Z = true) (w2 : (Cond.instanceMethod y).before a0 Z = true) (w4 : (Cond.code y bytes maxL none).before a0 Z = true) (hy : y.cls ≠ "java/lang/invoke/MethodHandle" ∧ y.cls ≠ "java/lang/invoke/VarHandle")
    (hK : Back l R p e below s args y 3 W (fun P a => a = as' ∧ P.U.heap = h ∧ P.cells + cc ≤ R.cells ∧ P.slots + ss ≤ R.slots) (fun P _ v B => ∃ L, Q v B.U.heap L ∧ B.locs = P.locs ++ L ∧ B.cells = P.cells + cc ∧ B.slots = P.slots + ss)) (hsz : Ls.size = nl) {a : Addr} {argsL rest : List Value} {ps : List FieldType} {r : Option FieldType} (hpd : parseMethodDescriptor y.desc = some ⟨ps, r⟩) (hlen : argsL.length = ps.length) (hst : st = argsL.reverse ++ .ref a :: rest) (hW : (rest.map fun v => v.category).sum ≤ W)
    (hd : decode B pc = .ok (.invokespecial index, 3)) (hp : pc + 3 = pc') (hargs : (.ref a :: argsL).toArray = as') (eT : T.heap = h) (hc : cells + cc ≤ R.cells) (hs : slots + ss ≤ R.slots)
    (k : ∀ (v : Option Value) (T' : State) (h' : Heap) (L : List Loc), Stand p l e R s m args below meth c T' (locs ++ L) (cells + cc) (slots + ss) → T'.heap = h' → Q v h' L → own_E p.tables e below G (T'.setTop (mkF m pc' Ls (v.toList ++ rest)))) : own_E p.tables e below G (T.setTop (mkF m pc Ls st)) := by
  subst hp
  obtain ⟨v, vm₁, ⟨T', L', k', n'⟩, -, X', ⟨L, hQ, q1, q2, q3⟩, stp⟩ := X.specialBack hx hy1 hown (mvT hZ w1) (mvT hZ w2) (mvT hZ w4) hy hK (g := mkF m pc Ls st) rfl (by rw [hml]; exact hsz) (Steps.refl _) (a := a) (argsL := argsL) (rest := rest) (lenOf hpd hlen) hst (by show 2 * 0 + _ ≤ _; rw [Nat.mul_zero, Nat.zero_add]; exact hW) (hb hby hd) (fun _ _ => ⟨hargs, eT, hc, hs⟩)
  dsimp only at X' hQ q1 q2 q3 stp
  subst q1 q2 q3
  exact own_tr stp (k v T' _ L X' rfl hQ)
theorem own_virt (X : Stand p l e R s m args below meth c T locs cells slots) (hx : p.tables.exec = Jvm.exec) (hby : c.code = B) {Z : State} {a0 : Array Value} {h : Heap} {own : String} {index nl : Nat} {as' : Array Value} {W cc ss : Nat} {Q : Option Value → Heap → List Loc → Prop} {C : String} {y z : MethodName} (hml : c.maxLocals = nl) (hZ : Z.Warmed39 s.vm) (hown : s.vm.findClass own = some m.cls)
    (w1 : (Cond.methodLink own index y).before a0 Z = true) (w2 : (Cond.declares y).before a0 Z = true) (hnf : NotFace s y) (w3 : (Cond.selects C y z).before a0 Z = true) (w4 : (Cond.instanceMethod z).before a0 Z = true) (hy : y.cls ≠ "java/lang/invoke/MethodHandle" ∧ y.cls ≠ "java/lang/invoke/VarHandle")
    (hK : Back l R p e below s args z 3 W (fun P a => a = as' ∧ P.U.heap = h ∧ P.cells + cc ≤ R.cells ∧ P.slots + ss ≤ R.slots) (fun P _ v B => ∃ L, Q v B.U.heap L ∧ B.locs = P.locs ++ L ∧ B.cells = P.cells + cc ∧ B.slots = P.slots + ss)) (hsz : Ls.size = nl) {a : Addr} (hE : Exa Z h a C) {argsL rest : List Value} {ps : List FieldType} {r : Option FieldType} (hpd : parseMethodDescriptor y.desc = some ⟨ps, r⟩) (hlen : argsL.length = ps.length) (hst : st = argsL.reverse ++ .ref a :: rest) (hW : (rest.map fun v => v.category).sum ≤ W)
    (hd : decode B pc = .ok (.invokevirtual index, 3)) (hp : pc + 3 = pc') (hargs : (.ref a :: argsL).toArray = as') (eT : T.heap = h) (hc : cells + cc ≤ R.cells) (hs : slots + ss ≤ R.slots)
    (k : ∀ (v : Option Value) (T' : State) (h' : Heap) (L : List Loc), Stand p l e R s m args below meth c T' (locs ++ L) (cells + cc) (slots + ss) → T'.heap = h' → Q v h' L → own_E p.tables e below G (T'.setTop (mkF m pc' Ls (v.toList ++ rest)))) : own_E p.tables e below G (T.setTop (mkF m pc Ls st)) := by
  subst hp
  obtain ⟨cq, kq, qa, qb, qc⟩ := isOf hZ eT hE
  obtain ⟨v, vm₁, ⟨T', L', k', n'⟩, -, X', ⟨L, hQ, q1, q2, q3⟩, stp⟩ := X.virtualBack hx hown (mvT hZ w1) (mvT hZ w2) hnf (mvT hZ w3) (mvT hZ w4) hy hK qa qc (g := mkF m pc Ls st) rfl (by rw [hml]; exact hsz) (Steps.refl _) (argsL := argsL) (rest := rest) (lenOf hpd hlen) hst (by show 2 * 0 + _ ≤ _; rw [Nat.mul_zero, Nat.zero_add]; exact hW) (hb hby hd) (fun _ _ => ⟨hargs, eT, hc, hs⟩)
  dsimp only at X' hQ q1 q2 q3 stp
  subst q1 q2 q3
  exact own_tr stp (k v T' _ L X' rfl hQ)
theorem own_priv (X : Stand p l e R s m args below meth c T locs cells slots) (hx : p.tables.exec = Jvm.exec) (hby : c.code = B) {Z : State} {a0 : Array Value} {h : Heap} {own : String} {index nl : Nat} {as' : Array Value} {W cc ss : Nat} {Q : Option Value → Heap → List Loc → Prop} {y : MethodName} {bytes : ByteArray} {maxL : Nat} {ret : Option FieldType} (hml : c.maxLocals = nl) (hZ : Z.Warmed39 s.vm) (hown : s.vm.findClass own = some m.cls)
    (w1 : (Cond.methodLink own index y).before a0 Z = true) (w2 : (Cond.instanceMethod y).before a0 Z = true) (w3 : (Cond.selects y.cls y y).before a0 Z = true) (w5 : (Cond.privateMethod y).before a0 Z = true) (w4 : (Cond.code y bytes maxL ret).before a0 Z = true) (hy : y.cls ≠ "java/lang/invoke/MethodHandle" ∧ y.cls ≠ "java/lang/invoke/VarHandle")
    (hK : Back l R p e below s args y 3 W (fun P a => a = as' ∧ P.U.heap = h ∧ P.cells + cc ≤ R.cells ∧ P.slots + ss ≤ R.slots) (fun P _ v B => ∃ L, Q v B.U.heap L ∧ B.locs = P.locs ++ L ∧ B.cells = P.cells + cc ∧ B.slots = P.slots + ss)) (hsz : Ls.size = nl) {a : Addr} {C : String} (hE : Exa Z h a C) {argsL rest : List Value} {ps : List FieldType} {r : Option FieldType} (hpd : parseMethodDescriptor y.desc = some ⟨ps, r⟩) (hlen : argsL.length = ps.length) (hst : st = argsL.reverse ++ .ref a :: rest) (hW : (rest.map fun v => v.category).sum ≤ W)
    (hd : decode B pc = .ok (.invokevirtual index, 3)) (hp : pc + 3 = pc') (hargs : (.ref a :: argsL).toArray = as') (eT : T.heap = h) (hc : cells + cc ≤ R.cells) (hs : slots + ss ≤ R.slots)
    (k : ∀ (v : Option Value) (T' : State) (h' : Heap) (L : List Loc), Stand p l e R s m args below meth c T' (locs ++ L) (cells + cc) (slots + ss) → T'.heap = h' → Q v h' L → own_E p.tables e below G (T'.setTop (mkF m pc' Ls (v.toList ++ rest)))) : own_E p.tables e below G (T.setTop (mkF m pc Ls st)) := by
  subst hp
  obtain ⟨cq, qa, qb⟩ := hE.cell
  obtain ⟨v, vm₁, ⟨T', L', k', n'⟩, -, X', ⟨L, hQ, q1, q2, q3⟩, stp⟩ := X.privateBack hx hown (mvT hZ w1) (mvT hZ w2) (mvT hZ w3) (Cond.privateMethod_at (mvP hZ w5 (args := #[]))) (mvT hZ w4) hy hK (g := mkF m pc Ls st) rfl (by rw [hml]; exact hsz) (Steps.refl _) (a := a) (by rw [eT]; exact qa) qb (argsL := argsL) (rest := rest) (lenOf hpd hlen) hst (by show 2 * 0 + _ ≤ _; rw [Nat.mul_zero, Nat.zero_add]; exact hW) (hb hby hd) (fun _ _ => ⟨hargs, eT, hc, hs⟩)
  dsimp only at X' hQ q1 q2 q3 stp
  subst q1 q2 q3
  exact own_tr stp (k v T' _ L X' rfl hQ)
end OwnSteps

section OwnHeap
variable {p : Program} {l : Launch} {e : Env} {R : Room} {s : State} {m : MethodId} {args : Array Value} {below : List Frame} {meth : Method} {c : Code} {T : State} {locs : List Loc} {cells slots : Nat} {G : State → Outcome → Prop} {B : ByteArray} {pc pc' : Nat} {Ls Ls' : Array Slot} {st : List Value} {Z : State} {a0 : Array Value} {h h' h'' : Heap}
theorem own_xr : Ext h h := ⟨Nat.le_refl _, fun _ _ q => q⟩
theorem own_xt (E : Ext h h') (E' : Ext h' h'') : Ext h h'' := ⟨Nat.le_trans E.1 E'.1, fun a c q => E'.2 a c (E.2 a c q)⟩
theorem own_xk {ws : List Addr} (E : Ext h h') (K : Keep h' h'' ws) (q : ∀ x ∈ ws, h.size ≤ x) : Ext h h'' := ⟨Nat.le_trans E.1 K.1, fun a c r => K.2.1 a c (E.2 a c r) fun z => absurd (Array.getElem?_eq_some_iff.mp r).1 (Nat.not_lt.mpr (q a z))⟩
theorem own_xw {a : Addr} {sl : Nat} {v : Value} (E : Ext h h') (W : Wr h' h'' a sl v) (q : h.size ≤ a) : Ext h h'' := own_xk E (Keep.of_wr W) (allS q all0)
theorem own_fr1 {k : Nat} {L : List Loc} (N : Fr k L) {a : Addr} {sl : Nat} (q : k ≤ a) : Fr k (L ++ [⟨a, sl⟩]) := N.app fun y hy => by cases List.mem_singleton.mp hy; exact q
/-- a body's contract: called with these arguments over the heap h0 it returns as Q says -/
def own_Met (l : Launch) (Z : State) (x : MethodName) (bytes : ByteArray) (maxL : Nat) (ret : Option FieldType) (rm : Room) (as' : Array Value) (h0 : Heap) (Q : Option Value → Heap → List Loc → Prop) : Prop :=
  ∀ ws : List Jvm.Cond, MetFree l x (head1 (Jvm.Cond.code x bytes maxL ret :: ws) rm) (fun a U => a = as' ∧ Z.Warmed39 U.vm ∧ U.heap = h0) (fun _ _ _ _ _ => True) (fun _ U o U' => ∃ v L, o = .returned v ∧ Q v U'.heap L ∧ FrameEnd U o U' L rm.cells rm.slots)
theorem own_body {x : MethodName} {bytes : ByteArray} {maxL : Nat} {ret : Option FieldType} {rm : Room} {as' : Array Value} {h0 : Heap} {Q : Option Value → Heap → List Loc → Prop} (hpl : plainFor x = true)
    (body : ∀ (p : Program) (e : Env) (s : State) (m : MethodId) (below : List Frame) (meth : Method) (c : Code) (s₁ : State), p.tables.exec = Jvm.exec → c.code = bytes → c.maxLocals = maxL → s.vm.findClass x.cls = some m.cls → meth.name = x.name → meth.locks = false → meth.sig.returnType = ret → Z.Warmed39 s.vm → Stand p l e rm s m as' below meth c s₁ [] 0 0 → s₁.heap = h0 →
      own_E p.tables e below (own_End s below Q rm.cells rm.slots) (s₁.setTop (entryFrame m as' maxL))) : own_Met l Z x bytes maxL ret rm as' h0 Q := by
  intro ws
  refine MetFree.of_bodySF hpl hisR ?_
  intro p e s m args below meth c s₁ Bd hml0 hP hK
  obtain ⟨rfl, hZ, hh⟩ := hP
  obtain ⟨s₂, o, q1, q2, q3, q4⟩ := body p e s m below meth c s₁ Bd.exec Bd.bytes hml0 (findClass_of_methodNamed Bd.named) (name_of_methodNamed Bd.named Bd.method).1 (BodyLoose.notSynchronized Bd) Bd.returns hZ (Stand.of_body Bd) (by rw [← hh, Bd.state]; rfl)
  exact ⟨s₂, o, q1, q2, q3, q4⟩
theorem own_back {y : MethodName} {bytes : ByteArray} {maxL : Nat} {ret : Option FieldType} {rm : Room} {len W : Nat} {as' : Array Value} {Q : Option Value → Heap → List Loc → Prop} (hM : own_Met l Z y bytes maxL ret rm as' h Q)
    (hZ : Z.Warmed39 s.vm) (wc : (Jvm.Cond.code y bytes maxL ret).before a0 Z = true) (wz : (Jvm.Cond.initialized y.cls).before a0 Z = true) (hf : rm.frames + 1 ≤ R.frames) (hl : W + (maxL + 11) + rm.locals ≤ R.locals) :
    Back l R p e below s args y len W (fun A a => a = as' ∧ A.U.heap = h ∧ A.cells + rm.cells ≤ R.cells ∧ A.slots + rm.slots ≤ R.slots)
      (fun A _ v B => ∃ L, Q v B.U.heap L ∧ B.locs = A.locs ++ L ∧ B.cells = A.cells + rm.cells ∧ B.slots = A.slots + rm.slots) := backOf (hM []) hZ wc wz hf hl
theorem own_enter {m : MethodId} {A : Array Value} {ml : Nat} {Ls : Array Slot} (ef : entryFrame m A ml = mkF m 0 Ls []) (k : own_E p.tables e below G (T.setTop (mkF m 0 Ls []))) : own_E p.tables e below G (T.setTop (entryFrame m A ml)) := own_go (fun _ q => castTop ef q) k
theorem own_callM (X : Stand p l e R s m args below meth c T locs cells slots) (hx : p.tables.exec = Jvm.exec) (hby : c.code = B) {own : String} {index nl : Nat} {as' : Array Value} {cc ss maxL : Nat} {bytes : ByteArray} {ret : Option FieldType} {rm : Room} {Q : Option Value → Heap → List Loc → Prop} {y : MethodName} (hml : c.maxLocals = nl) (hZ : Z.Warmed39 s.vm) (hown : s.vm.findClass own = some m.cls) (w1 : (Jvm.Cond.methodLink own index y).before a0 Z = true) (w2 : (Jvm.Cond.static y).before a0 Z = true) (w3 : (Jvm.Cond.initialized y.cls).before a0 Z = true) (w4 : (Jvm.Cond.code y bytes maxL ret).before a0 Z = true) (hy : y.cls ≠ "java/lang/invoke/MethodHandle" ∧ y.cls ≠ "java/lang/invoke/VarHandle")
    (hM : own_Met l Z y bytes maxL ret rm as' h Q) (W : Nat) (hcc : rm.cells = cc) (hss : rm.slots = ss) (hf : rm.frames + 1 ≤ R.frames) (hl : W + (maxL + 11) + rm.locals ≤ R.locals) (hsz : Ls.size = nl) {argsL rest : List Value} {ps : List FieldType} {r : Option FieldType} (hpd : parseMethodDescriptor y.desc = some ⟨ps, r⟩) (hlen : argsL.length = ps.length) (hst : st = argsL.reverse ++ rest) (hW : (rest.map fun v => v.category).sum ≤ W) (hd : decode B pc = .ok (.invokestatic index, 3)) (hp : pc + 3 = pc') (hargs : argsL.toArray = as') (eT : T.heap = h) (hc : cells + cc ≤ R.cells) (hs : slots + ss ≤ R.slots)
    (k : ∀ (v : Option Value) (T' : State) (h' : Heap) (L : List Loc), Stand p l e R s m args below meth c T' (locs ++ L) (cells + cc) (slots + ss) → T'.heap = h' → Q v h' L → own_E p.tables e below G (T'.setTop (mkF m pc' Ls (v.toList ++ rest)))) : own_E p.tables e below G (T.setTop (mkF m pc Ls st)) := by
  subst hcc hss
  exact own_callS X hx hby hml hZ hown w1 w2 w3 w4 hy (own_back hM hZ w4 w3 hf hl) hsz hpd hlen hst hW hd hp hargs eT hc hs k
theorem own_specM (X : Stand p l e R s m args below meth c T locs cells slots) (hx : p.tables.exec = Jvm.exec) (hby : c.code = B) {own : String} {index nl : Nat} {as' : Array Value} {cc ss maxL : Nat} {bytes : ByteArray} {rm : Room} {Q : Option Value → Heap → List Loc → Prop} {y : MethodName} (hml : c.maxLocals = nl) (hZ : Z.Warmed39 s.vm) (hown : s.vm.findClass own = some m.cls) (hy1 : y.name = "<init>") (w1 : (Jvm.Cond.methodLink own index y).before a0 Z = true) (w2 : (Jvm.Cond.instanceMethod y).before a0 Z = true) (w3 : (Jvm.Cond.initialized y.cls).before a0 Z = true) (w4 : (Jvm.Cond.code y bytes maxL none).before a0 Z = true) (hy : y.cls ≠ "java/lang/invoke/MethodHandle" ∧ y.cls ≠ "java/lang/invoke/VarHandle")
    (hM : own_Met l Z y bytes maxL none rm as' h Q) (W : Nat) (hcc : rm.cells = cc) (hss : rm.slots = ss) (hf : rm.frames + 1 ≤ R.frames) (hl : W + (maxL + 11) + rm.locals ≤ R.locals) (hsz : Ls.size = nl) {a : Addr} {argsL rest : List Value} {ps : List FieldType} {r : Option FieldType} (hpd : parseMethodDescriptor y.desc = some ⟨ps, r⟩) (hlen : argsL.length = ps.length) (hst : st = argsL.reverse ++ .ref a :: rest) (hW : (rest.map fun v => v.category).sum ≤ W) (hd : decode B pc = .ok (.invokespecial index, 3)) (hp : pc + 3 = pc') (hargs : (.ref a :: argsL).toArray = as') (eT : T.heap = h) (hc : cells + cc ≤ R.cells) (hs : slots + ss ≤ R.slots)
    (k : ∀ (v : Option Value) (T' : State) (h' : Heap) (L : List Loc), Stand p l e R s m args below meth c T' (locs ++ L) (cells + cc) (slots + ss) → T'.heap = h' → Q v h' L → own_E p.tables e below G (T'.setTop (mkF m pc' Ls (v.toList ++ rest)))) : own_E p.tables e below G (T.setTop (mkF m pc Ls st)) := by
  subst hcc hss
  exact own_spec X hx hby hml hZ hown hy1 w1 w2 w4 hy (own_back hM hZ w4 w3 hf hl) hsz hpd hlen hst hW hd hp hargs eT hc hs k
theorem own_virtM (X : Stand p l e R s m args below meth c T locs cells slots) (hx : p.tables.exec = Jvm.exec) (hby : c.code = B) {own : String} {index nl : Nat} {as' : Array Value} {cc ss maxL : Nat} {bytes : ByteArray} {ret : Option FieldType} {rm : Room} {Q : Option Value → Heap → List Loc → Prop} {C : String} {y z : MethodName} (hml : c.maxLocals = nl) (hZ : Z.Warmed39 s.vm) (hown : s.vm.findClass own = some m.cls) (w1 : (Jvm.Cond.methodLink own index y).before a0 Z = true) (w2 : (Jvm.Cond.declares y).before a0 Z = true) (hnf : NotFace s y) (w5 : (Jvm.Cond.selects C y z).before a0 Z = true) (w6 : (Jvm.Cond.instanceMethod z).before a0 Z = true) (w3 : (Jvm.Cond.initialized z.cls).before a0 Z = true) (w4 : (Jvm.Cond.code z bytes maxL ret).before a0 Z = true) (hy : y.cls ≠ "java/lang/invoke/MethodHandle" ∧ y.cls ≠ "java/lang/invoke/VarHandle")
    (hM : own_Met l Z z bytes maxL ret rm as' h Q) (W : Nat) (hcc : rm.cells = cc) (hss : rm.slots = ss) (hf : rm.frames + 1 ≤ R.frames) (hl : W + (maxL + 11) + rm.locals ≤ R.locals) (hsz : Ls.size = nl) {a : Addr} (hE : Exa Z h a C) {argsL rest : List Value} {ps : List FieldType} {r : Option FieldType} (hpd : parseMethodDescriptor y.desc = some ⟨ps, r⟩) (hlen : argsL.length = ps.length) (hst : st = argsL.reverse ++ .ref a :: rest) (hW : (rest.map fun v => v.category).sum ≤ W) (hd : decode B pc = .ok (.invokevirtual index, 3)) (hp : pc + 3 = pc') (hargs : (.ref a :: argsL).toArray = as') (eT : T.heap = h) (hc : cells + cc ≤ R.cells) (hs : slots + ss ≤ R.slots)
    (k : ∀ (v : Option Value) (T' : State) (h' : Heap) (L : List Loc), Stand p l e R s m args below meth c T' (locs ++ L) (cells + cc) (slots + ss) → T'.heap = h' → Q v h' L → own_E p.tables e below G (T'.setTop (mkF m pc' Ls (v.toList ++ rest)))) : own_E p.tables e below G (T.setTop (mkF m pc Ls st)) := by
  subst hcc hss
  exact own_virt X hx hby hml hZ hown w1 w2 hnf w5 w6 hy (own_back hM hZ w4 w3 hf hl) hsz hE hpd hlen hst hW hd hp hargs eT hc hs k
theorem own_privM (X : Stand p l e R s m args below meth c T locs cells slots) (hx : p.tables.exec = Jvm.exec) (hby : c.code = B) {own : String} {index nl : Nat} {as' : Array Value} {cc ss maxL : Nat} {bytes : ByteArray} {ret : Option FieldType} {rm : Room} {Q : Option Value → Heap → List Loc → Prop} {C : String} {y : MethodName} (hml : c.maxLocals = nl) (hZ : Z.Warmed39 s.vm) (hown : s.vm.findClass own = some m.cls) (w1 : (Jvm.Cond.methodLink own index y).before a0 Z = true) (w6 : (Jvm.Cond.instanceMethod y).before a0 Z = true) (w5 : (Jvm.Cond.selects y.cls y y).before a0 Z = true) (w7 : (Jvm.Cond.privateMethod y).before a0 Z = true) (w3 : (Jvm.Cond.initialized y.cls).before a0 Z = true) (w4 : (Jvm.Cond.code y bytes maxL ret).before a0 Z = true) (hy : y.cls ≠ "java/lang/invoke/MethodHandle" ∧ y.cls ≠ "java/lang/invoke/VarHandle")
    (hM : own_Met l Z y bytes maxL ret rm as' h Q) (W : Nat) (hcc : rm.cells = cc) (hss : rm.slots = ss) (hf : rm.frames + 1 ≤ R.frames) (hl : W + (maxL + 11) + rm.locals ≤ R.locals) (hsz : Ls.size = nl) {a : Addr} (hE : Exa Z h a C) {argsL rest : List Value} {ps : List FieldType} {r : Option FieldType} (hpd : parseMethodDescriptor y.desc = some ⟨ps, r⟩) (hlen : argsL.length = ps.length) (hst : st = argsL.reverse ++ .ref a :: rest) (hW : (rest.map fun v => v.category).sum ≤ W) (hd : decode B pc = .ok (.invokevirtual index, 3)) (hp : pc + 3 = pc') (hargs : (.ref a :: argsL).toArray = as') (eT : T.heap = h) (hc : cells + cc ≤ R.cells) (hs : slots + ss ≤ R.slots)
    (k : ∀ (v : Option Value) (T' : State) (h' : Heap) (L : List Loc), Stand p l e R s m args below meth c T' (locs ++ L) (cells + cc) (slots + ss) → T'.heap = h' → Q v h' L → own_E p.tables e below G (T'.setTop (mkF m pc' Ls (v.toList ++ rest)))) : own_E p.tables e below G (T.setTop (mkF m pc Ls st)) := by
  subst hcc hss
  exact own_priv X hx hby hml hZ hown w1 w6 w5 w7 w4 hy (own_back hM hZ w4 w3 hf hl) hsz hE hpd hlen hst hW hd hp hargs eT hc hs k
theorem own_newO (X : Stand p l e R s m args below meth c T locs cells slots) (hx : p.tables.exec = Jvm.exec) (hby : c.code = B) (hZ : Z.Warmed39 s.vm) {own C : String} {index n : Nat} (hown : s.vm.findClass own = some m.cls) (w : (Jvm.Cond.classLink own index C).before a0 Z = true) (wi : (Jvm.Cond.instantiable C n).before a0 Z = true) (wz : (Jvm.Cond.initialized C).before a0 Z = true) (eT : T.heap = h)
    (hd : decode B pc = .ok (.new index, 3)) (hp : pc + 3 = pc') (hc : cells + 1 ≤ R.cells) (hl : slots + n ≤ R.slots)
    (k : ∀ (T' : State) (h' : Heap) (b : Addr), b = h.size → Stand p l e R s m args below meth c T' locs (cells + 1) (slots + n) → T'.heap = h' → Ext h h' → Exa Z h' b C → (∀ {O nm d : String} {ty : FieldType}, Laid Z a0 C O nm d → parseFieldDescriptor d = some ty → Fld Z h' b O nm d (defaultValue ty)) → own_E p.tables e below G (T'.setTop (mkF m pc' Ls (.ref b :: st)))) : own_E p.tables e below G (T.setTop (mkF m pc Ls (st))) := by
  subst hp
  obtain ⟨T', h', X', e', E', A', D', -, stp⟩ := newO X hx hZ hown w wi wz eT (g := mkF m pc Ls st) rfl (hb hby hd) hc hl
  exact own_go stp (k T' h' _ rfl X' e' E' A' D')
theorem own_getF (X : Stand p l e R s m args below meth c T locs cells slots) (hx : p.tables.exec = Jvm.exec) (hby : c.code = B) (hZ : Z.Warmed39 s.vm) {own R0 O n d host : String} {index : Nat} (hown : s.vm.findClass own = some m.cls) (w : (Jvm.Cond.fieldLink own index R0 n d).before a0 Z = true ∨ (Jvm.Cond.fieldLinkNest own index R0 n d host).before a0 Z = true) (via : Via Z R0 O n d) (eT : T.heap = h) {a : Addr} {v : Value} (F : Fld Z h a O n d v) (hd : decode B pc = .ok (.getfield index, 3)) (hp : pc + 3 = pc')
    (k : ∀ T' : State, Stand p l e R s m args below meth c T' locs cells slots → T'.heap = h → own_E p.tables e below G (T'.setTop (mkF m pc' Ls (v :: st)))) : own_E p.tables e below G (T.setTop (mkF m pc Ls (.ref a :: st))) := by
  subst hp
  obtain ⟨T', X', e', stp⟩ := getF X hx hZ hown w via eT F (g := mkF m pc Ls (.ref a :: st)) rfl rfl (hb hby hd)
  exact own_go stp (k T' X' e')
theorem own_getS (X : Stand p l e R s m args below meth c T locs cells slots) (hx : p.tables.exec = Jvm.exec) (hby : c.code = B) (hZ : Z.Warmed39 s.vm) {own R0 O n d host : String} {index : Nat} (hown : s.vm.findClass own = some m.cls) (w : (Jvm.Cond.fieldLink own index R0 n d).before a0 Z = true ∨ (Jvm.Cond.fieldLinkNest own index R0 n d host).before a0 Z = true) (via : Via Z R0 O n d) (eT : T.heap = h) {v : Value} (F : Sta Z h O n d v) (hd : decode B pc = .ok (.getstatic index, 3)) (hp : pc + 3 = pc')
    (k : ∀ T' : State, Stand p l e R s m args below meth c T' locs cells slots → T'.heap = h → own_E p.tables e below G (T'.setTop (mkF m pc' Ls (v :: st)))) : own_E p.tables e below G (T.setTop (mkF m pc Ls (st))) := by
  subst hp
  obtain ⟨T', X', e', stp⟩ := getS2 X hx hZ hown w via eT F (g := mkF m pc Ls st) rfl (hb hby hd)
  exact own_go stp (k T' X' e')
theorem own_putF (X : Stand p l e R s m args below meth c T locs cells slots) (hx : p.tables.exec = Jvm.exec) (hby : c.code = B) (hZ : Z.Warmed39 s.vm) {own R0 O n d host C : String} {index kk : Nat} {ty : FieldType} (hown : s.vm.findClass own = some m.cls) (w : (Jvm.Cond.fieldLink own index R0 n d).before a0 Z = true ∨ (Jvm.Cond.fieldLinkNest own index R0 n d host).before a0 Z = true) (via : Via Z R0 O n d) (eT : T.heap = h) {a : Addr} {v old : Value} (F : Fld Z h a O n d old) (A : Exa Z h a C)
    (L : (Jvm.Cond.lays C O n d).before a0 Z = true ∨ ((Jvm.Cond.laysFinal C O n d).before a0 Z = true ∧ own = O ∧ meth.name = "<init>")) (wi : (Jvm.Cond.instantiable C kk).before a0 Z = true) (hty : parseFieldDescriptor d = some ty) (hn : narrow ty v = v) (hf : fits ty v = true) (hd : decode B pc = .ok (.putfield index, 3)) (hp : pc + 3 = pc')
    (k : ∀ (T' : State) (h' : Heap), Stand p l e R s m args below meth c T' (locs ++ [⟨a, Jvm.RoadKit.slotOf Z O n d⟩]) cells slots → T'.heap = h' → Wr h h' a (Jvm.RoadKit.slotOf Z O n d) v → Fld Z h' a O n d v → Exa Z h' a C → own_E p.tables e below G (T'.setTop (mkF m pc' Ls (st)))) : own_E p.tables e below G (T.setTop (mkF m pc Ls (v :: .ref a :: st))) := by
  subst hp
  obtain ⟨T', h', X', e', W', stp⟩ := putF X hx hZ hown w via eT F A L wi hty hn hf (g := mkF m pc Ls (v :: .ref a :: st)) rfl rfl (hb hby hd)
  exact own_go stp (k T' h' X' e' W' (F.same W') (A.wr W'))
theorem own_putFN (X : Stand p l e R s m args below meth c T locs cells slots) (hx : p.tables.exec = Jvm.exec) (hby : c.code = B) (hZ : Z.Warmed39 s.vm) {own R0 O n d C : String} {index kk : Nat} {ty : FieldType} (hown : s.vm.findClass own = some m.cls) (w : (Jvm.Cond.fieldLink own index R0 n d).before a0 Z = true) (via : Via Z R0 O n d) (eT : T.heap = h) {a : Addr} {v v' old : Value} (F : Fld Z h a O n d old) (A : Exa Z h a C)
    (L : (Jvm.Cond.lays C O n d).before a0 Z = true ∨ ((Jvm.Cond.laysFinal C O n d).before a0 Z = true ∧ own = O ∧ meth.name = "<init>")) (wi : (Jvm.Cond.instantiable C kk).before a0 Z = true) (hty : parseFieldDescriptor d = some ty) (hn : narrow ty v = v') (hf : fits ty v' = true) (hd : decode B pc = .ok (.putfield index, 3)) (hp : pc + 3 = pc')
    (k : ∀ (T' : State) (h' : Heap), Stand p l e R s m args below meth c T' (locs ++ [⟨a, Jvm.RoadKit.slotOf Z O n d⟩]) cells slots → T'.heap = h' → Wr h h' a (Jvm.RoadKit.slotOf Z O n d) v' → Fld Z h' a O n d v' → Exa Z h' a C → own_E p.tables e below G (T'.setTop (mkF m pc' Ls (st)))) : own_E p.tables e below G (T.setTop (mkF m pc Ls (v :: .ref a :: st))) := by
  subst hp
  obtain ⟨T', h', X', e', W', stp⟩ := putFN X hx hZ hown w via eT F A L wi hty hn hf (g := mkF m pc Ls (v :: .ref a :: st)) rfl rfl (hb hby hd)
  exact own_go stp (k T' h' X' e' W' (F.same W') (A.wr W'))
theorem own_initO (X : Stand p l e R s m args below meth c T locs cells slots) (hx : p.tables.exec = Jvm.exec) (hby : c.code = B) (hZ : Z.Warmed39 s.vm) {own : String} {idx nl W : Nat} (hml : c.maxLocals = nl) (hown : s.vm.findClass own = some m.cls) (w1 : (Jvm.Cond.methodLink own idx Lib.objectInit).before a0 Z = true) (w2 : (Jvm.Cond.instanceMethod Lib.objectInit).before a0 Z = true) (w3 : (Jvm.Cond.code Lib.objectInit ⟨#[0xb1]⟩ 1 none).before a0 Z = true) (eT : T.heap = h) (hsz : Ls.size = nl) {a : Addr} (hd : decode B pc = .ok (.invokespecial idx, 3)) (hp : pc + 3 = pc') (hf : 1 ≤ R.frames) (hW : (st.map fun v => v.category).sum ≤ W) (hl : W + 12 ≤ R.locals)
    (k : ∀ T' : State, Stand p l e R s m args below meth c T' locs cells slots → T'.heap = h → own_E p.tables e below G (T'.setTop (mkF m pc' Ls (st)))) : own_E p.tables e below G (T.setTop (mkF m pc Ls (.ref a :: st))) := by
  subst hp
  obtain ⟨T', X', e', stp⟩ := initO X hx hZ hown w1 w2 w3 eT (g := mkF m pc Ls (.ref a :: st)) rfl (by rw [hml]; exact hsz) rfl (hb hby hd) hf (W := W) (by show 2 * 0 + _ ≤ _; rw [Nat.mul_zero, Nat.zero_add]; exact hW) hl
  exact own_go stp (k T' X' e')
theorem own_ldcI (X : Stand p l e R s m args below meth c T locs cells slots) (hx : p.tables.exec = Jvm.exec) (hby : c.code = B) (hZ : Z.Warmed39 s.vm) {own : String} {index : Nat} {v : Int32} (hown : s.vm.findClass own = some m.cls) (w : (Jvm.Cond.constant own index v).before a0 Z = true) (hd : decode B pc = .ok (.ldc index, 2)) (hp : pc + 2 = pc')
    (k : own_E p.tables e below G (T.setTop (mkF m pc' Ls (.int v :: st)))) : own_E p.tables e below G (T.setTop (mkF m pc Ls (st))) := by
  subst hp; exact own_go (fun t q => X.ldcInt hx hown (mvT hZ w) (g := mkF m pc Ls st) rfl (hb hby hd) t q) k
theorem own_cast (X : Stand p l e R s m args below meth c T locs cells slots) (hx : p.tables.exec = Jvm.exec) (hby : c.code = B) (hZ : Z.Warmed39 s.vm) {own K : String} {index : Nat} (hown : s.vm.findClass own = some m.cls) (w : (Jvm.Cond.classLink own index K).before a0 Z = true) (eT : T.heap = h) {a : Addr} (F : Ins Z h a K true) (hd : decode B pc = .ok (.checkcast index, 3)) (hp : pc + 3 = pc')
    (k : ∀ T' : State, Stand p l e R s m args below meth c T' locs cells slots → T'.heap = h → own_E p.tables e below G (T'.setTop (mkF m pc' Ls (.ref a :: st)))) : own_E p.tables e below G (T.setTop (mkF m pc Ls (.ref a :: st))) := by
  subst hp
  obtain ⟨T', X', e', stp⟩ := castY X hx hZ hown w eT F (g := mkF m pc Ls (.ref a :: st)) rfl rfl (hb hby hd)
  exact own_go stp (k T' X' e')
theorem own_join {tb : Tables} {α : Type} {F : α → State} {P : α → Prop} {A : State} (rest : ∀ z, P z → own_E tb e below G (F z)) (br : (∀ z, P z → own_E tb e below G (F z)) → own_E tb e below G A) : own_E tb e below G A := br rest
end OwnHeap

theorem own_not0 {args : Array Value} {s : State} {t : Term} {G : Int32} (e : t.eval args s none [] s = some (.int G)) (h : (Jvm.Cond.not (Jvm.Cond.eq t (Jvm.Term.int (0 : Int32)))).before args s = true) : ¬ (G = (0 : Int32)) := by
  intro q; subst q
  have h1 := Cond.before_iff.mp h
  simp [Cond.value, e, Term.eval] at h1
section OwnWide
variable {p : Program} {l : Launch} {e : Env} {R : Room} {s : State} {m : MethodId} {args : Array Value} {below : List Frame} {meth : Method} {c : Code} {T : State} {locs : List Loc} {cells slots : Nat} {G : State → Outcome → Prop} {B : ByteArray} {pc pc' : Nat} {Ls Ls' : Array Slot} {st : List Value} {Z : State} {a0 : Array Value} {h h' h'' hb0 : Heap} {EL : List (String × Nat)} {vm0 v0 : Vm}
def own_Sn (s : State) (vm : Vm) (h : Heap) : Prop := ∃ k, s.Since vm k ∧ k ≤ h.size
theorem own_Sn.ext (S : own_Sn s vm0 h) (E : Ext h h') : own_Sn s vm0 h' := by obtain ⟨k, h1, h2⟩ := S; exact ⟨k, h1, Nat.le_trans h2 E.1⟩
def own_CH (Z : State) (EL : List (String × Nat)) (v0 : Vm) (hb0 : Heap) (vm : Vm) (h : Heap) : Prop := CHr Z EL v0 hb0 vm h
theorem own_CH.ext (A : own_CH Z EL v0 hb0 vm0 h) (E : Ext h h') : own_CH Z EL v0 hb0 vm0 h' := CHr.trans A (CHr.ext E A.1)
theorem own_Sn.wr {a : Addr} {sl : Nat} {v : Value} (S : own_Sn s vm0 h) (W : Wr h h' a sl v) : own_Sn s vm0 h' := by obtain ⟨k, h1, h2⟩ := S; exact ⟨k, h1, by rw [W.size]; exact h2⟩
theorem own_Sn.keep {ws : List Addr} (S : own_Sn s vm0 h) (K : Keep h h' ws) : own_Sn s vm0 h' := by obtain ⟨k, h1, h2⟩ := S; exact ⟨k, h1, Nat.le_trans h2 K.1⟩
theorem own_CH.wr {a : Addr} {sl : Nat} {v : Value} (A : own_CH Z EL v0 hb0 vm0 h) (W : Wr h h' a sl v) (S : Safe Z EL vm0 h a) : own_CH Z EL v0 hb0 vm0 h' := CHr.trans A (CHr.wr W S A.1)
theorem own_CH.keep {ws : List Addr} (A : own_CH Z EL v0 hb0 vm0 h) (K : Keep h h' ws) (S : ∀ x ∈ ws, Safe Z EL vm0 h x) : own_CH Z EL v0 hb0 vm0 h' := CHr.trans A (CHr.keep K S A.1)
def own_EndW (Z : State) (EL : List (String × Nat)) (s : State) (h0 : Heap) (below : List Frame) (Q : Option Value → Heap → List Loc → Prop) (C S : Nat) (s₂ : State) (o : Outcome) : Prop := s₂.status = .running ∧ Ended s₂ below o ∧ ∃ v L, o = .returned v ∧ Q v s₂.heap L ∧ CHr Z EL s.vm h0 s₂.vm s₂.heap ∧ ReturnedEndW s o s₂ L C S
/-- a body's wide contract -/
def own_MetW (l : Launch) (Z : State) (EL : List (String × Nat)) (x : MethodName) (bytes : ByteArray) (maxL : Nat) (ret : Option FieldType) (rm : Room) (as' : Array Value) (h0 : Heap) (Q : Option Value → Heap → List Loc → Prop) : Prop :=
  ∀ ws : List Jvm.Cond, MetFree l x (head1 (Jvm.Cond.code x bytes maxL ret :: ws) rm) (fun a U => a = as' ∧ Z.Warmed39 U.vm ∧ U.heap = h0 ∧ CHv Z EL U.vm h0) (fun _ _ _ _ _ => True) (fun _ U o U' => ∃ v L, o = .returned v ∧ Q v U'.heap L ∧ CHr Z EL U.vm U.heap U'.vm U'.heap ∧ ReturnedEndW U o U' L rm.cells rm.slots)
theorem own_bodyW {x : MethodName} {bytes : ByteArray} {maxL : Nat} {ret : Option FieldType} {rm : Room} {as' : Array Value} {h0 : Heap} {Q : Option Value → Heap → List Loc → Prop} (hpl : plainFor x = true)
    (body : ∀ (p : Program) (e : Env) (s : State) (m : MethodId) (below : List Frame) (meth : Method) (c : Code) (s₁ : State) (vm0 : Vm), p.tables.exec = Jvm.exec → c.code = bytes → c.maxLocals = maxL → vm0.findClass x.cls = some m.cls → meth.name = x.name → meth.locks = false → meth.sig.returnType = ret → Z.Warmed39 vm0 → Z.Warmed39 s.vm → own_Sn s vm0 h0 → own_CH Z EL s.vm h0 vm0 h0 → Stand p l e rm (s.setVm vm0) m as' below meth c s₁ [] 0 0 → s₁.heap = h0 →
      own_E p.tables e below (own_EndW Z EL s h0 below Q rm.cells rm.slots) (s₁.setTop (entryFrame m as' maxL))) : own_MetW l Z EL x bytes maxL ret rm as' h0 Q := by
  intro ws
  refine MetFree.of_bodySF hpl hisR ?_
  intro p e s m args below meth c s₁ Bd hml0 hP hK
  obtain ⟨rfl, hZ, hh, hC⟩ := hP
  obtain ⟨s₂, o, q1, q2, q3, v, L, q4, q5, q6, q7⟩ := body p e s m below meth c s₁ s.vm Bd.exec Bd.bytes hml0 (findClass_of_methodNamed Bd.named) (name_of_methodNamed Bd.named Bd.method).1 (BodyLoose.notSynchronized Bd) Bd.returns hZ hZ ⟨0, (State.WarmedH.refl s).since 0, Nat.zero_le _⟩ (CHr.refl hC) (Stand.of_body Bd) (by rw [← hh, Bd.state]; rfl)
  exact ⟨s₂, o, q1, q2, q3, v, L, q4, q5, by rw [hh]; exact q6, q7⟩
theorem own_backW {y : MethodName} {bytes : ByteArray} {maxL : Nat} {ret : Option FieldType} {rm : Room} {len W : Nat} {as' : Array Value} {Q : Option Value → Heap → List Loc → Prop} (hM : own_MetW l Z EL y bytes maxL ret rm as' h Q)
    (hZ : Z.Warmed39 vm0) (hEL : EW Z a0 EL) (wc : (Jvm.Cond.code y bytes maxL ret).before a0 Z = true) (wz : (Jvm.Cond.initialized y.cls).before a0 Z = true) (A : own_CH Z EL v0 hb0 vm0 h) (hf : rm.frames + 1 ≤ R.frames) (hl : W + (maxL + 11) + rm.locals ≤ R.locals) :
    BackS l R p e below (s.setVm vm0) args y len W (fun A a => a = as' ∧ A.U.heap = h ∧ A.cells + rm.cells ≤ R.cells ∧ A.slots + rm.slots ≤ R.slots)
      (fun A _ v B => ∃ L, Q v B.U.heap L ∧ B.locs = A.locs ++ L ∧ B.cells = A.cells + rm.cells ∧ B.slots = A.slots + rm.slots ∧ CHr Z EL vm0 h B.U.vm B.U.heap) := backOfSH (hM []) hZ wc wz hf hl hEL A.1
theorem own_retW (X : Stand p l e R (s.setVm vm0) m args below meth c T locs cells slots) (hZ : Z.Warmed39 vm0) (hEL : EW Z a0 EL) (eT : T.heap = h) (SN : own_Sn s vm0 h) (A : own_CH Z EL s.vm hb0 vm0 h) {Q : Option Value → Heap → List Loc → Prop} {C S : Nat} {v : Option Value} (hv : meth.sig.returnType = none → v = none) (hlocks : meth.locks = false)
    (hst : ∀ fs : List Frame, (∀ (f : JFrame) (acts : List Action), f.method = m → f.locked = none → f.entered = [] → (doReturn e (T.setTop f) acts v).1 = T.setFrames fs) → Steps p.tables e below (T.setTop (mkF m pc Ls st)) (T.setFrames fs))
    (hq : Q v h locs) (hc : cells ≤ C) (hs : slots ≤ S) : own_E p.tables e below (own_EndW Z EL s hb0 below Q C S) (T.setTop (mkF m pc Ls st)) := by
  obtain ⟨k, h1, h2⟩ := SN
  obtain ⟨fs, hr, hrun, hended, r1, r2, r3, r4⟩ := X.leaveW h1 (by rw [eT]; exact h2) hv hlocks
  have AT := CHv.at X hZ hEL A.1
  subst eT
  exact ⟨_, _, hst fs hr, hrun, hended, v, locs, rfl, hq, CHr.trans A AT, r1, r2, r3, r4.mono hc hs⟩
theorem own_retNW (X : Stand p l e R (s.setVm vm0) m args below meth c T locs cells slots) (hx : p.tables.exec = Jvm.exec) (hby : c.code = B) (hZ : Z.Warmed39 vm0) (hEL : EW Z a0 EL) (eT : T.heap = h) (SN : own_Sn s vm0 h) (A : own_CH Z EL s.vm hb0 vm0 h) {Q : Option Value → Heap → List Loc → Prop} {C S : Nat} {t : FieldType} {z z' : Int32} (hlocks : meth.locks = false) (hret : meth.sig.returnType = some t) (ht : t = .boolean ∨ t = .byte ∨ t = .char ∨ t = .short)
    (hd : decode B pc = .ok (.ireturn, 1)) (hz : nar t z = z') (hq : Q (some (.int z')) h locs) (hc : cells ≤ C) (hs : slots ≤ S) : own_E p.tables e below (own_EndW Z EL s hb0 below Q C S) (T.setTop (mkF m pc Ls (.int z :: st))) :=
  own_retW X hZ hEL eT SN A (fun h => by rw [hret] at h; cases h) hlocks (fun fs hl => retN X hx (t := t) hret ht (hb hby hd) (by rw [hz]; exact hl)) hq hc hs
theorem own_retAW (X : Stand p l e R (s.setVm vm0) m args below meth c T locs cells slots) (hx : p.tables.exec = Jvm.exec) (hby : c.code = B) (hZ : Z.Warmed39 vm0) (hEL : EW Z a0 EL) (eT : T.heap = h) (SN : own_Sn s vm0 h) (A : own_CH Z EL s.vm hb0 vm0 h) {Q : Option Value → Heap → List Loc → Prop} {C S : Nat} {t : FieldType} {v : Value} (hlocks : meth.locks = false) (hret : meth.sig.returnType = some t) (ht : t.isReference = true) (hv : v.isRef = true)
    (hd : decode B pc = .ok (.areturn, 1)) (hq : Q (some v) h locs) (hc : cells ≤ C) (hs : slots ≤ S) : own_E p.tables e below (own_EndW Z EL s hb0 below Q C S) (T.setTop (mkF m pc Ls (v :: st))) :=
  own_retW X hZ hEL eT SN A (fun h => by rw [hret] at h; cases h) hlocks (fun fs hl => retOut X hx hret (by cases t <;> first | (cases ht; done) | (rcases ref_cases hv with rfl | ⟨_, rfl⟩ <;> rfl)) (Or.inr (Or.inr (Or.inr (Or.inr ⟨rfl, ht, hv⟩)))) (hb hby hd) hl) hq hc hs
theorem own_ret0W (X : Stand p l e R (s.setVm vm0) m args below meth c T locs cells slots) (hx : p.tables.exec = Jvm.exec) (hby : c.code = B) (hZ : Z.Warmed39 vm0) (hEL : EW Z a0 EL) (eT : T.heap = h) (SN : own_Sn s vm0 h) (A : own_CH Z EL s.vm hb0 vm0 h) {Q : Option Value → Heap → List Loc → Prop} {C S : Nat} (hlocks : meth.locks = false) (hret : meth.sig.returnType = none)
    (hd : decode B pc = .ok (.return_, 1)) (hq : Q none h locs) (hc : cells ≤ C) (hs : slots ≤ S) : own_E p.tables e below (own_EndW Z EL s hb0 below Q C S) (T.setTop (mkF m pc Ls [])) :=
  own_retW X hZ hEL eT SN A (fun _ => rfl) hlocks (fun fs hl => X.returnOut hx hret (hb hby hd) hl) hq hc hs
theorem own_specW (X : Stand p l e R (s.setVm vm0) m args below meth c T locs cells slots) (hx : p.tables.exec = Jvm.exec) (hby : c.code = B) {own : String} {index nl : Nat} {as' : Array Value} {W cc ss : Nat} {Q : Option Value → Heap → List Loc → Prop} {y : MethodName} {bytes : ByteArray} {maxL : Nat} (hml : c.maxLocals = nl) (hZ : Z.Warmed39 vm0) (hown : vm0.findClass own = some m.cls) (SN : own_Sn s vm0 h) (A : own_CH Z EL v0 hb0 vm0 h) (hy1 : y.name = "<init>")
    (w1 : (Cond.methodLink own index y).before a0 Z = true) (w2 : (Cond.instanceMethod y).before a0 Z = true) (w4 : (Cond.code y bytes maxL none).before a0 Z = true) (hy : y.cls ≠ "java/lang/invoke/MethodHandle" ∧ y.cls ≠ "java/lang/invoke/VarHandle")
    (hK : BackS l R p e below (s.setVm vm0) args y 3 W (fun P a => a = as' ∧ P.U.heap = h ∧ P.cells + cc ≤ R.cells ∧ P.slots + ss ≤ R.slots) (fun P _ v B => ∃ L, Q v B.U.heap L ∧ B.locs = P.locs ++ L ∧ B.cells = P.cells + cc ∧ B.slots = P.slots + ss ∧ CHr Z EL vm0 h B.U.vm B.U.heap)) (hsz : Ls.size = nl) {a : Addr} {argsL rest : List Value} {ps : List FieldType} {r : Option FieldType} (hpd : parseMethodDescriptor y.desc = some ⟨ps, r⟩) (hlen : argsL.length = ps.length) (hst : st = argsL.reverse ++ .ref a :: rest) (hW : (rest.map fun v => v.category).sum ≤ W)
    (hd : decode B pc = .ok (.invokespecial index, 3)) (hp : pc + 3 = pc') (hargs : (.ref a :: argsL).toArray = as') (eT : T.heap = h) (hc : cells + cc ≤ R.cells) (hs : slots + ss ≤ R.slots)
    (k : ∀ (v : Option Value) (T' : State) (vm1 : Vm) (h' : Heap) (L : List Loc), Stand p l e R (s.setVm vm1) m args below meth c T' (locs ++ L) (cells + cc) (slots + ss) → T'.heap = h' → Z.Warmed39 vm1 → vm1.findClass own = some m.cls → own_Sn s vm1 h' → own_CH Z EL v0 hb0 vm1 h' → h.size ≤ h'.size → Q v h' L → own_E p.tables e below G (T'.setTop (mkF m pc' Ls (v.toList ++ rest)))) : own_E p.tables e below G (T.setTop (mkF m pc Ls st)) := by
  subst hp
  obtain ⟨v, vm₁, ⟨T', L', k', n'⟩, -, X', hS, hgr, ⟨L, hQ, q1, q2, q3, q4⟩, stp⟩ := X.specialBackS hx hy1 hown (mvT (s := s.setVm vm0) hZ w1) (mvT (s := s.setVm vm0) hZ w2) (mvT (s := s.setVm vm0) hZ w4) hy hK (g := mkF m pc Ls st) rfl (by rw [hml]; exact hsz) (Steps.refl _) (a := a) (argsL := argsL) (rest := rest) (lenOf hpd hlen) hst (by show 2 * 0 + _ ≤ _; rw [Nat.mul_zero, Nat.zero_add]; exact hW) (hb hby hd) (fun _ _ => ⟨hargs, eT, hc, hs⟩)
  dsimp only at X' hQ q1 q2 q3 q4 stp hgr
  subst q1 q2 q3
  obtain ⟨k0, s1, s2⟩ := SN
  have hW : Z.Warmed39 T'.vm := State.Warmed39.trans (t := s.setVm vm0) hZ hS.1
  have hSn : own_Sn s T'.vm T'.heap := ⟨_, s1.trans hS (Nat.le_trans s2 (by rw [← eT]; exact hgr)), Nat.le_refl _⟩
  have hf : T'.vm.findClass own = some m.cls := by rw [hS.1.alike.findClass]; exact hown
  exact own_tr stp (k v T' T'.vm _ L X' rfl hW hf hSn (CHr.trans A q4) (by rw [← eT]; exact hgr) hQ)
theorem own_virtW (X : Stand p l e R (s.setVm vm0) m args below meth c T locs cells slots) (hx : p.tables.exec = Jvm.exec) (hby : c.code = B) {own : String} {index nl : Nat} {as' : Array Value} {W cc ss : Nat} {Q : Option Value → Heap → List Loc → Prop} {C : String} {y z : MethodName} (hml : c.maxLocals = nl) (hZ : Z.Warmed39 vm0) (hown : vm0.findClass own = some m.cls) (SN : own_Sn s vm0 h) (A : own_CH Z EL v0 hb0 vm0 h)
    (w1 : (Cond.methodLink own index y).before a0 Z = true) (w2 : (Cond.declares y).before a0 Z = true) (hnf : NotFace (s.setVm vm0) y) (w3 : (Cond.selects C y z).before a0 Z = true) (w4 : (Cond.instanceMethod z).before a0 Z = true) (hy : y.cls ≠ "java/lang/invoke/MethodHandle" ∧ y.cls ≠ "java/lang/invoke/VarHandle")
    (hK : BackS l R p e below (s.setVm vm0) args z 3 W (fun P a => a = as' ∧ P.U.heap = h ∧ P.cells + cc ≤ R.cells ∧ P.slots + ss ≤ R.slots) (fun P _ v B => ∃ L, Q v B.U.heap L ∧ B.locs = P.locs ++ L ∧ B.cells = P.cells + cc ∧ B.slots = P.slots + ss ∧ CHr Z EL vm0 h B.U.vm B.U.heap)) (hsz : Ls.size = nl) {a : Addr} (hE : Exa Z h a C) {argsL rest : List Value} {ps : List FieldType} {r : Option FieldType} (hpd : parseMethodDescriptor y.desc = some ⟨ps, r⟩) (hlen : argsL.length = ps.length) (hst : st = argsL.reverse ++ .ref a :: rest) (hW : (rest.map fun v => v.category).sum ≤ W)
    (hd : decode B pc = .ok (.invokevirtual index, 3)) (hp : pc + 3 = pc') (hargs : (.ref a :: argsL).toArray = as') (eT : T.heap = h) (hc : cells + cc ≤ R.cells) (hs : slots + ss ≤ R.slots)
    (k : ∀ (v : Option Value) (T' : State) (vm1 : Vm) (h' : Heap) (L : List Loc), Stand p l e R (s.setVm vm1) m args below meth c T' (locs ++ L) (cells + cc) (slots + ss) → T'.heap = h' → Z.Warmed39 vm1 → vm1.findClass own = some m.cls → own_Sn s vm1 h' → own_CH Z EL v0 hb0 vm1 h' → h.size ≤ h'.size → Q v h' L → own_E p.tables e below G (T'.setTop (mkF m pc' Ls (v.toList ++ rest)))) : own_E p.tables e below G (T.setTop (mkF m pc Ls st)) := by
  subst hp
  obtain ⟨cq, kq, qa, qb, qc⟩ := isOf (s := s.setVm vm0) hZ eT hE
  obtain ⟨v, vm₁, ⟨T', L', k', n'⟩, -, X', hS, hgr, ⟨L, hQ, q1, q2, q3, q4⟩, stp⟩ := X.virtualBackS hx hown (mvT (s := s.setVm vm0) hZ w1) (mvT (s := s.setVm vm0) hZ w2) hnf (mvT (s := s.setVm vm0) hZ w3) (mvT (s := s.setVm vm0) hZ w4) hy hK qa qc (g := mkF m pc Ls st) rfl (by rw [hml]; exact hsz) (Steps.refl _) (argsL := argsL) (rest := rest) (lenOf hpd hlen) hst (by show 2 * 0 + _ ≤ _; rw [Nat.mul_zero, Nat.zero_add]; exact hW) (hb hby hd) (fun _ _ => ⟨hargs, eT, hc, hs⟩)
  dsimp only at X' hQ q1 q2 q3 q4 stp hgr
  subst q1 q2 q3
  obtain ⟨k0, s1, s2⟩ := SN
  have hW : Z.Warmed39 T'.vm := State.Warmed39.trans (t := s.setVm vm0) hZ hS.1
  have hSn : own_Sn s T'.vm T'.heap := ⟨_, s1.trans hS (Nat.le_trans s2 (by rw [← eT]; exact hgr)), Nat.le_refl _⟩
  have hf : T'.vm.findClass own = some m.cls := by rw [hS.1.alike.findClass]; exact hown
  exact own_tr stp (k v T' T'.vm _ L X' rfl hW hf hSn (CHr.trans A q4) (by rw [← eT]; exact hgr) hQ)
theorem own_specMW (X : Stand p l e R (s.setVm vm0) m args below meth c T locs cells slots) (hx : p.tables.exec = Jvm.exec) (hby : c.code = B) {own : String} {index nl : Nat} {as' : Array Value} {cc ss maxL : Nat} {bytes : ByteArray} {rm : Room} {Q : Option Value → Heap → List Loc → Prop} {y : MethodName} (hml : c.maxLocals = nl) (hZ : Z.Warmed39 vm0) (hown : vm0.findClass own = some m.cls) (SN : own_Sn s vm0 h) (A : own_CH Z EL v0 hb0 vm0 h) (hy1 : y.name = "<init>") (w1 : (Jvm.Cond.methodLink own index y).before a0 Z = true) (w2 : (Jvm.Cond.instanceMethod y).before a0 Z = true) (w3 : (Jvm.Cond.initialized y.cls).before a0 Z = true) (w4 : (Jvm.Cond.code y bytes maxL none).before a0 Z = true) (hy : y.cls ≠ "java/lang/invoke/MethodHandle" ∧ y.cls ≠ "java/lang/invoke/VarHandle")
    (hEL : EW Z a0 EL) (hM : own_MetW l Z EL y bytes maxL none rm as' h Q) (W : Nat) (hcc : rm.cells = cc) (hss : rm.slots = ss) (hf : rm.frames + 1 ≤ R.frames) (hl : W + (maxL + 11) + rm.locals ≤ R.locals) (hsz : Ls.size = nl) {a : Addr} {argsL rest : List Value} {ps : List FieldType} {r : Option FieldType} (hpd : parseMethodDescriptor y.desc = some ⟨ps, r⟩) (hlen : argsL.length = ps.length) (hst : st = argsL.reverse ++ .ref a :: rest) (hW : (rest.map fun v => v.category).sum ≤ W) (hd : decode B pc = .ok (.invokespecial index, 3)) (hp : pc + 3 = pc') (hargs : (.ref a :: argsL).toArray = as') (eT : T.heap = h) (hc : cells + cc ≤ R.cells) (hs : slots + ss ≤ R.slots)
    (k : ∀ (v : Option Value) (T' : State) (vm1 : Vm) (h' : Heap) (L : List Loc), Stand p l e R (s.setVm vm1) m args below meth c T' (locs ++ L) (cells + cc) (slots + ss) → T'.heap = h' → Z.Warmed39 vm1 → vm1.findClass own = some m.cls → own_Sn s vm1 h' → own_CH Z EL v0 hb0 vm1 h' → h.size ≤ h'.size → Q v h' L → own_E p.tables e below G (T'.setTop (mkF m pc' Ls (v.toList ++ rest)))) : own_E p.tables e below G (T.setTop (mkF m pc Ls st)) := by
  subst hcc hss
  exact own_specW X hx hby hml hZ hown SN A hy1 w1 w2 w4 hy (own_backW hM hZ hEL w4 w3 A hf hl) hsz hpd hlen hst hW hd hp hargs eT hc hs k
theorem own_virtMW (X : Stand p l e R (s.setVm vm0) m args below meth c T locs cells slots) (hx : p.tables.exec = Jvm.exec) (hby : c.code = B) {own : String} {index nl : Nat} {as' : Array Value} {cc ss maxL : Nat} {bytes : ByteArray} {ret : Option FieldType} {rm : Room} {Q : Option Value → Heap → List Loc → Prop} {C : String} {y z : MethodName} (hml : c.maxLocals = nl) (hZ : Z.Warmed39 vm0) (hown : vm0.findClass own = some m.cls) (SN : own_Sn s vm0 h) (A : own_CH Z EL v0 hb0 vm0 h) (w1 : (Jvm.Cond.methodLink own index y).before a0 Z = true) (w2 : (Jvm.Cond.declares y).before a0 Z = true) (hnf : NotFace (s.setVm vm0) y) (w5 : (Jvm.Cond.selects C y z).before a0 Z = true) (w6 : (Jvm.Cond.instanceMethod z).before a0 Z = true) (w3 : (Jvm.Cond.initialized z.cls).before a0 Z = true) (w4 : (Jvm.Cond.code z bytes maxL ret).before a0 Z = true) (hy : y.cls ≠ "java/lang/invoke/MethodHandle" ∧ y.cls ≠ "java/lang/invoke/VarHandle")
    (hEL : EW Z a0 EL) (hM : own_MetW l Z EL z bytes maxL ret rm as' h Q) (W : Nat) (hcc : rm.cells = cc) (hss : rm.slots = ss) (hf : rm.frames + 1 ≤ R.frames) (hl : W + (maxL + 11) + rm.locals ≤ R.locals) (hsz : Ls.size = nl) {a : Addr} (hE : Exa Z h a C) {argsL rest : List Value} {ps : List FieldType} {r : Option FieldType} (hpd : parseMethodDescriptor y.desc = some ⟨ps, r⟩) (hlen : argsL.length = ps.length) (hst : st = argsL.reverse ++ .ref a :: rest) (hW : (rest.map fun v => v.category).sum ≤ W) (hd : decode B pc = .ok (.invokevirtual index, 3)) (hp : pc + 3 = pc') (hargs : (.ref a :: argsL).toArray = as') (eT : T.heap = h) (hc : cells + cc ≤ R.cells) (hs : slots + ss ≤ R.slots)
    (k : ∀ (v : Option Value) (T' : State) (vm1 : Vm) (h' : Heap) (L : List Loc), Stand p l e R (s.setVm vm1) m args below meth c T' (locs ++ L) (cells + cc) (slots + ss) → T'.heap = h' → Z.Warmed39 vm1 → vm1.findClass own = some m.cls → own_Sn s vm1 h' → own_CH Z EL v0 hb0 vm1 h' → h.size ≤ h'.size → Q v h' L → own_E p.tables e below G (T'.setTop (mkF m pc' Ls (v.toList ++ rest)))) : own_E p.tables e below G (T.setTop (mkF m pc Ls st)) := by
  subst hcc hss
  exact own_virtW X hx hby hml hZ hown SN A w1 w2 hnf w5 w6 hy (own_backW hM hZ hEL w4 w3 A hf hl) hsz hE hpd hlen hst hW hd hp hargs eT hc hs k
theorem own_ldcO (X : Stand p l e R (s.setVm vm0) m args below meth c T locs cells slots) (hx : p.tables.exec = Jvm.exec) (hby : c.code = B) {own text : String} {index : Nat} (hZ : Z.Warmed39 vm0) (hown : vm0.findClass own = some m.cls) (SN : own_Sn s vm0 h) (A : own_CH Z EL v0 hb0 vm0 h) (hEL : EW Z a0 EL) (wS : ∀ a ∈ Bundle.stringAtoms, a.before a0 Z = true) (w : (Cond.stringLink own index text).before a0 Z = true) (eT : T.heap = h) (hd : decode B pc = .ok (.ldc index, 2)) (hp : pc + 2 = pc') {n : Nat} (hn : 4 * text.toList.length ≤ n) (hbig : n ≤ 536870912) (hc : cells + 2 ≤ R.cells) (hl : slots + (n + 4) ≤ R.slots)
    (k : ∀ (T' : State) (vm1 : Vm) (h' : Heap) (a : Addr), Stand p l e R (s.setVm vm1) m args below meth c T' locs (cells + 2) (slots + (n + 4)) → T'.heap = h' → Z.Warmed39 vm1 → vm1.findClass own = some m.cls → own_Sn s vm1 h' → own_CH Z EL v0 hb0 vm1 h' → Ext h h' → own_E p.tables e below G (T'.setTop (mkF m pc' Ls (.ref a :: st)))) : own_E p.tables e below G (T.setTop (mkF m pc Ls st)) := by
  subst hp
  obtain ⟨k0, s1, s2⟩ := SN
  obtain ⟨a, T', h', k1, X', e', E', s3, s4, hW, hf, hC, -, stp⟩ := ldcOH X hx hZ hown w wS eT s1 s2 hEL A.1 (g := mkF m pc Ls st) rfl (hb hby hd) hn hbig hc hl
  exact own_go stp (k T' T'.vm h' a X' e' hW hf ⟨k1, s3, s4⟩ (CHr.trans A hC) E')
theorem own_safe_null {x : Addr} (hal : Z.vm.Alike vm0) (E : Exa Z h x "java/lang/String") (F : Fld Z h x "java/lang/String" "value" "[B" .null) (wi : (Jvm.Cond.instantiable "java/lang/String" 4).before a0 Z = true) : Safe Z EL vm0 h x := fun Bq => by
  obtain ⟨pp, -, u, a, -, q, -, Fq, hx⟩ := Bq
  obtain ⟨cS, ⟨⟨s1, s2, s3, ⟨cv, kv, iv, s4, s4'⟩, s5, s6, s7, s8, s9, s10, s11, s12, -⟩, hfS, hcS⟩, -⟩ := Fq
  obtain ⟨cell, cf, k, i, f, g1, g2, g3, g4, g5, g6, g7⟩ := F
  rcases hx with rfl | rfl
  · cases (show h[q.sa]? = some q.sC from s1).symm.trans g1
    obtain ⟨k', e1⟩ := ff_back (U := Wst Z vm0 h) hal s4
    cases e1.symm.trans g2
    rw [s8] at g7; cases g7
  · obtain ⟨c2, k2, e1, e2, e3, e4, -⟩ := E
    cases (show h[q.sd]? = some q.SA from s10).symm.trans e1
    obtain ⟨-, kB, hkB, compB, hkindB⟩ := s11
    obtain ⟨c3, k3, i1, i2, i3, -⟩ := Cond.instantiable_spec wi
    cases e2.symm.trans i1
    obtain ⟨k4, j1, j2⟩ := hal.2.2 _ _ i2
    cases (show vm0.classes[q.SA.cls]? = some kB from hkB).symm.trans j1
    rw [j2, show k3.kind = .ordinary from i3] at hkindB; cases hkindB
end OwnWide

section OwnUp
variable {p : Program} {l : Launch} {e : Env} {R : Room} {s : State} {m : MethodId} {args : Array Value} {below : List Frame} {meth : Method} {c : Code} {T : State} {locs : List Loc} {cells slots : Nat} {G : State → Outcome → Prop} {B : ByteArray} {pc pc' : Nat} {Ls Ls' : Array Slot} {st : List Value} {Z : State} {a0 : Array Value} {h h' h'' : Heap}
end OwnUp

section OwnFive
variable {p : Program} {l : Launch} {e : Env} {R : Room} {s : State} {m : MethodId} {args : Array Value} {below : List Frame} {meth : Method} {c : Code} {T : State} {locs : List Loc} {cells slots : Nat} {G : State → Outcome → Prop} {B : ByteArray} {pc pc' : Nat} {Ls Ls' : Array Slot} {st : List Value} {Z : State} {a0 : Array Value} {h h' h'' : Heap}
theorem own_superM (X : Stand p l e R s m args below meth c T locs cells slots) (hx : p.tables.exec = Jvm.exec) (hby : c.code = B) {own : String} {index nl : Nat} {as' : Array Value} {cc ss maxL : Nat} {bytes : ByteArray} {ret : Option FieldType} {rm : Room} {Q : Option Value → Heap → List Loc → Prop} {K : String} {y : MethodName} (hml : c.maxLocals = nl) (hZ : Z.Warmed39 s.vm) (hown : s.vm.findClass own = some m.cls) (w1 : (Jvm.Cond.methodLink own index y).before a0 Z = true) (w2 : (Jvm.Cond.sameMethod y.cls y.cls y.name y.desc).before a0 Z = true) (w5 : (Jvm.Cond.instanceMethod y).before a0 Z = true) (w6 : (Jvm.Cond.superclass own y.cls).before a0 Z = true) (hn : y.name ≠ "<init>") (w3 : (Jvm.Cond.initialized y.cls).before a0 Z = true) (w4 : (Jvm.Cond.code y bytes maxL ret).before a0 Z = true)
    (hM : own_Met l Z y bytes maxL ret rm as' h Q) (W : Nat) (hcc : rm.cells = cc) (hss : rm.slots = ss) (hf : rm.frames + 1 ≤ R.frames) (hl : W + (maxL + 11) + rm.locals ≤ R.locals) (hsz : Ls.size = nl) {a : Addr} (hE : Ins Z h a K true) {argsL rest : List Value} {ps : List FieldType} {r : Option FieldType} (hpd : parseMethodDescriptor y.desc = some ⟨ps, r⟩) (hlen : argsL.length = ps.length) (hst : st = argsL.reverse ++ .ref a :: rest) (hW : (rest.map fun v => v.category).sum ≤ W) (hd : decode B pc = .ok (.invokespecial index, 3)) (hp : pc + 3 = pc') (hargs : (.ref a :: argsL).toArray = as') (eT : T.heap = h) (hc : cells + cc ≤ R.cells) (hs : slots + ss ≤ R.slots)
    (k : ∀ (v : Option Value) (T' : State) (h' : Heap) (L : List Loc), Stand p l e R s m args below meth c T' (locs ++ L) (cells + cc) (slots + ss) → T'.heap = h' → Q v h' L → own_E p.tables e below G (T'.setTop (mkF m pc' Ls (v.toList ++ rest)))) : own_E p.tables e below G (T.setTop (mkF m pc Ls st)) := by
  subst hcc hss hp
  obtain ⟨v, vm₁, ⟨T', L', k', n'⟩, -, X', ⟨L, hQ, q1, q2, q3⟩, stp⟩ := superBack X hx hZ hown w1 w2 w5 w6 hn (own_back hM hZ w4 w3 hf hl) eT hE (g := mkF m pc Ls st) rfl (by rw [hml]; exact hsz) w4 (argsL := argsL) (rest := rest) (lenOf hpd hlen) hst (by show 2 * 0 + _ ≤ _; rw [Nat.mul_zero, Nat.zero_add]; exact hW) (hb hby hd) (fun _ _ => ⟨hargs, eT, hc, hs⟩)
  dsimp only at X' hQ q1 q2 q3 stp
  subst q1 q2 q3
  exact own_tr stp (k v T' _ L X' rfl hQ)
theorem own_cp (X : Stand p l e R s m args below meth c T locs cells slots) (hx : p.tables.exec = Jvm.exec) (hby : c.code = B) (hZ : Z.Warmed39 s.vm) {own : String} {index nl : Nat} (hml : c.maxLocals = nl) (hown : s.vm.findClass own = some m.cls) (w1 : (Jvm.Cond.methodLink own index Jvm.Stand.acN).before a0 Z = true) (w2 : (Jvm.Cond.native Jvm.Stand.acN).before a0 Z = true) (w3 : (Jvm.Cond.static Jvm.Stand.acN).before a0 Z = true) (w4 : (Jvm.Cond.initialized "java/lang/System").before a0 Z = true) (eT : T.heap = h)
    {a b : Addr} {k k' : ClassId} {ty : FieldType} {z z' sp dp nn : Int32} {vs vd us : List Value} {dv dd : Value} (A : Arv Z h a k ty z vs dv) (D : Arv Z h b k' ty z' vd dd) (hty : refKind ty = false) (h1 : ¬ sp < 0) (h2 : ¬ dp < 0) (h3 : ¬ nn < 0) (h4 : sp.toNatClampNeg + nn.toNatClampNeg ≤ z.toNatClampNeg) (h5 : dp.toNatClampNeg + nn.toNatClampNeg ≤ z'.toNatClampNeg)
    (hus : us = (List.range nn.toNatClampNeg).map fun i => vs.getD (sp.toNatClampNeg + i) dv) (hl : dp.toNatClampNeg + nn.toNatClampNeg ≤ vd.length) {n0 : Nat} (N : Fr n0 locs) (ge : n0 ≤ b) (hsz : Ls.size = nl) (hd : decode B pc = .ok (.invokestatic index, 3)) (hp : pc + 3 = pc') (hf : 1 ≤ R.frames) {W : Nat} (hW : (st.map fun v => v.category).sum ≤ W) (hlo : W + (nativeFrameWords "java/lang/System" "arraycopy" 5 + 11) ≤ R.locals)
    (k : ∀ (T' : State) (h' : Heap) (L : List Loc), Stand p l e R s m args below meth c T' L cells slots → T'.heap = h' → Fr n0 L → Keep h h' [b] → Arv Z h' b k' ty z' (vd.take dp.toNatClampNeg ++ us ++ vd.drop (dp.toNatClampNeg + nn.toNatClampNeg)) dd → own_E p.tables e below G (T'.setTop (mkF m pc' Ls (st)))) : own_E p.tables e below G (T.setTop (mkF m pc Ls (.int nn :: .int dp :: .ref b :: .int sp :: .ref a :: st))) := by
  subst hp
  obtain ⟨T', h', L, X', e', N', K', A', stp⟩ := cpA X hx hZ hown w1 w2 w3 w4 eT A D (Or.inl ⟨rfl, hty⟩) h1 h2 h3 h4 h5 hus hl N ge (g := mkF m pc Ls (.int nn :: .int dp :: .ref b :: .int sp :: .ref a :: st)) rfl (by rw [hml]; exact hsz) rfl (hb hby hd) hf (by show 2 * 0 + _ ≤ _; rw [Nat.mul_zero, Nat.zero_add]; exact hW) hlo
  exact own_go stp (k T' h' L X' e' N' K' A')
theorem own_nfs {C : String} {y z : MethodName} {s : State} {args : Array Value} (wz : (Jvm.Cond.selects C z z).before args s = true) (hc : z.cls = y.cls) : NotFace s y := fun r0 h0 => by
  obtain ⟨c2, r2, m2, q1, q2, q3, q4, kP, hkP, hkPi⟩ := Cond.selects_spec wz
  have nf : NotFace s z := notFace_of_selects wz
  obtain ⟨kr, hkr, hni⟩ := nf _ q3
  have e2 := findClass_of_methodNamed q3
  rw [hc] at e2
  have e3 : r0.cls = _ := Option.some.inj ((findClass_of_methodNamed h0).symm.trans e2)
  rw [← e3] at hkr
  exact ⟨kr, hkr, hni⟩
theorem own_same {C : String} {y z : MethodName} (w : (Jvm.Cond.declares y).before a0 Z = true) (wz : (Jvm.Cond.selects C z z).before a0 Z = true) (hc : z.cls = y.cls) (hy : y.cls ≠ "java/lang/invoke/MethodHandle" ∧ y.cls ≠ "java/lang/invoke/VarHandle") : (Jvm.Cond.sameMethod y.cls y.cls y.name y.desc).before a0 Z = true := by
  obtain ⟨r0, r, hn, hrm, -, -⟩ := Cond.declares_spec w
  have hf := State.methodFound?_of_named hn hy
  obtain ⟨c2, r2, m2, q1, q2, q3, q4, kP, hkP, hkPi⟩ := Cond.selects_spec wz
  have e1 := findClass_of_methodNamed hn
  have nf : NotFace Z z := notFace_of_selects wz
  obtain ⟨kr, hkr, hni⟩ := nf _ q3
  have e2 := findClass_of_methodNamed q3
  rw [hc] at e2
  have e3 : r0.cls = _ := Option.some.inj (e1.symm.trans e2)
  rw [← e3] at hkr
  have hn' : Z.methodNamed? ⟨y.cls, y.name, y.desc⟩ = some r0 := hn
  simp [Cond.before, Cond.holds, Cond.value, e1, hf, hn', hkr, hni]
end OwnFive

section OwnSix
variable {p : Program} {l : Launch} {e : Env} {R : Room} {s : State} {m : MethodId} {args : Array Value} {below : List Frame} {meth : Method} {c : Code} {T : State} {locs : List Loc} {cells slots : Nat} {G : State → Outcome → Prop} {B : ByteArray} {pc pc' : Nat} {Ls Ls' : Array Slot} {st : List Value} {Z : State} {a0 : Array Value} {h h' h'' : Heap}
theorem own_nl {a b n : Nat} (h : a < n) (g : b = n) : a ≠ b := by omega
theorem own_ni0 {a : Addr} : a ∉ ([] : List Addr) := by simp
theorem own_niS {a w : Addr} {ws : List Addr} (h : a ≠ w) (t : a ∉ ws) : a ∉ w :: ws := by simp [h, t]
theorem own_selP {C : String} {y z : MethodName} (wi : (Jvm.Cond.instanceMethod y).before a0 Z = true) (wp : (Jvm.Cond.privateMethod y).before a0 Z = true) (wz : (Jvm.Cond.selects C z z).before a0 Z = true) (hc : z.cls = y.cls) (hy : y.cls ≠ "java/lang/invoke/MethodHandle" ∧ y.cls ≠ "java/lang/invoke/VarHandle") : (Jvm.Cond.selects y.cls y y).before a0 Z = true := by
  obtain ⟨c2, r2, m2, -, -, q3, -, kP, hkP, hkPi⟩ := Cond.selects_spec wz
  have e2 := findClass_of_methodNamed q3
  rw [hc] at e2
  exact selects_self_of_private e2 hkP hkPi (Cond.privateMethod_at wp) wi hy
end OwnSix

section OwnSeven
variable {p : Program} {l : Launch} {e : Env} {R : Room} {s : State} {m : MethodId} {args : Array Value} {below : List Frame} {meth : Method} {c : Code} {T : State} {locs : List Loc} {cells slots : Nat} {G : State → Outcome → Prop} {B : ByteArray} {pc pc' : Nat} {Ls Ls' : Array Slot} {st : List Value} {Z : State} {a0 : Array Value} {h h' h'' : Heap}
/-- an array: its type, its class's name, what its class is known for, its length, its places -/
def own_Fa (Z : State) (h : Heap) (a : Addr) (ty : FieldType) (ad : String) (P : ClassId → Prop) (N : Nat) (f : Nat → Value) : Prop :=
  ∃ c : Cell, Arr Z h a c ty ∧ Exa Z h a ad ∧ P c.cls ∧ c.slots.size = N ∧ N < 2147483648 ∧ (∀ i, i < N → c.slots[i]? = some (f i)) ∧ ∀ i, i < N → fits ty (f i) = true
def own_up {α : Type} (f : Nat → α) (j : Nat) (v : α) : Nat → α := fun i => if i = j then v else f i
theorem own_up_same {α : Type} {f : Nat → α} {j : Nat} {v : α} : own_up f j v j = v := if_pos rfl
theorem own_up_ne {α : Type} {f : Nat → α} {i j : Nat} {v : α} (h : i ≠ j) : own_up f j v i = f i := if_neg h
section Fa
variable {a b : Addr} {ty : FieldType} {ad : String} {P : ClassId → Prop} {N : Nat} {f g : Nat → Value}
theorem own_Fa.ext (F : own_Fa Z h a ty ad P N f) (E : Ext h h') : own_Fa Z h' a ty ad P N f := by obtain ⟨c, A, E1, r⟩ := F; exact ⟨c, A.ext E, E1.ext E, r⟩
theorem own_Fa.other {sl : Nat} {v : Value} (F : own_Fa Z h b ty ad P N f) (W : Wr h h' a sl v) (q : b ≠ a) : own_Fa Z h' b ty ad P N f := by obtain ⟨c, A, E1, r⟩ := F; exact ⟨c, A.other W q, E1.wr W, r⟩
theorem own_Fa.keep {ws : List Addr} (F : own_Fa Z h a ty ad P N f) (K : Keep h h' ws) (q : a ∉ ws) : own_Fa Z h' a ty ad P N f := by obtain ⟨c, A, E1, r⟩ := F; exact ⟨c, ⟨K.2.1 a c A.1 q, A.2⟩, E1.keep K, r⟩
theorem own_Fa.lt (F : own_Fa Z h a ty ad P N f) : a < h.size := by obtain ⟨c, A, -⟩ := F; exact A.lt
theorem own_Fa.exa (F : own_Fa Z h a ty ad P N f) : Exa Z h a ad := by obtain ⟨c, A, E1, -⟩ := F; exact E1
theorem own_Fa.big (F : own_Fa Z h a ty ad P N f) : N < 2147483648 := by obtain ⟨c, A, E1, -, -, r, -⟩ := F; exact r
theorem own_Fa.congr (F : own_Fa Z h a ty ad P N f) (q : ∀ i, i < N → f i = g i) : own_Fa Z h a ty ad P N g := by
  obtain ⟨c, A, E1, p1, S, r, H, G⟩ := F; exact ⟨c, A, E1, p1, S, r, fun i hi => by rw [← q i hi]; exact H i hi, fun i hi => by rw [← q i hi]; exact G i hi⟩
theorem own_Fa.upd {J : Nat} {v : Value} (F : own_Fa Z h a ty ad P N f) (W : Wr h h' a J v) (hv : fits ty v = true) : own_Fa Z h' a ty ad P N (own_up f J v) := by
  obtain ⟨c, A, E1, p1, S, r, H, G⟩ := F
  refine ⟨_, A.same W, E1.wr W, p1, by rw [sz_set]; exact S, r, fun i hi => ?_, fun i hi => ?_⟩
  · by_cases u : i = J
    · subst u; rw [own_up_same]; simp [Cell.setSlot, S, hi]
    · rw [own_up_ne u]; simp only [Cell.setSlot]; rw [Array.getElem?_setIfInBounds_ne (fun q => u q.symm)]; exact H i hi
  · by_cases u : i = J
    · subst u; rw [own_up_same]; exact hv
    · rw [own_up_ne u]; exact G i hi
theorem own_nat32 {N : Nat} (h : N < 2147483648) : (Int32.ofNat N).toInt = N := by
  have : Int32.ofNat N = Int32.ofInt (N : Int) := rfl
  rw [this, Int32.toInt_ofInt]; simp only [Int.bmod_def, show (Int32.size : Nat) = 4294967296 from rfl]; omega
theorem own_clamp {N : Nat} (h : N < 2147483648) : (Int32.ofNat N).toNatClampNeg = N := by
  show (Int32.ofNat N).toInt.toNat = N; rw [own_nat32 h]; rfl
theorem own_ilt {I J : Nat} (hi : I < 2147483648) (hj : J < 2147483648) : Int32.ofNat I < Int32.ofNat J ↔ I < J := by rw [Int32.lt_iff_toInt_lt, own_nat32 hi, own_nat32 hj]; omega
theorem own_ipos {I : Nat} (hi : I < 2147483648) : ¬ Int32.ofNat I < 0 := by rw [Int32.lt_iff_toInt_lt, own_nat32 hi]; have e : (0 : Int32).toInt = 0 := rfl; omega
theorem own_isucc {I : Nat} : Int32.ofNat I + 1 = Int32.ofNat (I + 1) := (Int32.ofNat_add I 1).symm
theorem own_inbF {c : Cell} {J : Nat} (S : c.slots.size = N) (r : N < 2147483648) (h : J < N) : ¬ (Int32.ofNat J < 0 ∨ c.slots.size ≤ (Int32.ofNat J).toNatClampNeg) := by
  rw [S, own_clamp (by omega)]; rintro (q | q)
  · exact own_ipos (by omega) q
  · omega
theorem own_Fa.start {k : ClassId} {n : Int32} (A : Arr Z h a (newA k ty n) ty) (E1 : Exa Z h a ad) (p1 : P k) (hn : n.toNatClampNeg = N) (r : N < 2147483648) : own_Fa Z h a ty ad P N (fun _ => defaultValue ty) := by
  refine ⟨_, A, E1, p1, by rw [sz_new]; exact hn, r, fun i hi => ?_, fun i _ => by cases ty <;> rfl⟩
  simp [newA, hn, hi]
end Fa
theorem own_fL (X : Stand p l e R s m args below meth c T locs cells slots) (hx : p.tables.exec = Jvm.exec) (hby : c.code = B) (hZ : Z.Warmed39 s.vm) (eT : T.heap = h) {a : Addr} {ty : FieldType} {ad : String} {P : ClassId → Prop} {N : Nat} {f : Nat → Value} (F : own_Fa Z h a ty ad P N f) (hd : decode B pc = .ok (.arraylength, 1)) (hp : pc + 1 = pc')
    (k : own_E p.tables e below G (T.setTop (mkF m pc' Ls (.int (Int32.ofNat N) :: st)))) : own_E p.tables e below G (T.setTop (mkF m pc Ls (.ref a :: st))) := by
  subst hp
  obtain ⟨cl, Ar, -, -, S, r, -⟩ := F
  subst S
  exact own_go (fun t q => X.arraylength hx (by rw [eT]; exact Ar.1) (State.isArrayOf_alike hZ.alike Ar.2.1) (g := mkF m pc Ls (.ref a :: st)) rfl rfl (hb hby hd) t q) k
theorem own_iincN (X : Stand p l e R s m args below meth c T locs cells slots) (hx : p.tables.exec = Jvm.exec) (hby : c.code = B) {k : Nat} {i : Nat} (hd : decode B pc = .ok (.iinc k 1, 3)) (hp : pc + 3 = pc') (hl : Ls[k]? = some (.val (.int (Int32.ofNat i)))) (hl' : storeLocals Ls k (.int (Int32.ofNat (i + 1))) = some Ls')
    (k' : own_E p.tables e below G (T.setTop (mkF m pc' Ls' (st)))) : own_E p.tables e below G (T.setTop (mkF m pc Ls (st))) := own_iinc X hx hby hd hp hl (z := 1) rfl (by rw [own_isucc]; exact hl') k'
end OwnSeven

section OwnEight
variable {p : Program} {l : Launch} {e : Env} {R : Room} {s : State} {m : MethodId} {args : Array Value} {below : List Frame} {meth : Method} {c : Code} {T : State} {locs : List Loc} {cells slots : Nat} {G : State → Outcome → Prop} {B : ByteArray} {pc pc' : Nat} {Ls Ls' : Array Slot} {st : List Value} {Z : State} {a0 : Array Value} {h h' h'' : Heap}
theorem own_fB (X : Stand p l e R s m args below meth c T locs cells slots) (hx : p.tables.exec = Jvm.exec) (hby : c.code = B) (hZ : Z.Warmed39 s.vm) (eT : T.heap = h) {a : Addr} {ad : String} {P : ClassId → Prop} {N J : Nat} {f : Nat → Value} {v : Int32} (F : own_Fa Z h a .byte ad P N f) (hJ : J < N) (hv : f J = .int v) (hd : decode B pc = .ok (.baload, 1)) (hp : pc + 1 = pc')
    (k : own_E p.tables e below G (T.setTop (mkF m pc' Ls (.int v :: st)))) : own_E p.tables e below G (T.setTop (mkF m pc Ls (.int (Int32.ofNat J) :: .ref a :: st))) := by
  subst hp
  obtain ⟨cl, Ar, -, -, S, r, H, -⟩ := F
  exact own_go (fun t q => X.baloadBytes hx (by rw [eT]; exact Ar.1) (State.isArrayOf_alike hZ.alike Ar.2.1) Ar.2.2 (own_inbF S r hJ) (by rw [own_clamp (by omega), H J hJ, hv]) (g := mkF m pc Ls (.int (Int32.ofNat J) :: .ref a :: st)) rfl rfl (hb hby hd) t q) k
theorem own_fC (X : Stand p l e R s m args below meth c T locs cells slots) (hx : p.tables.exec = Jvm.exec) (hby : c.code = B) (hZ : Z.Warmed39 s.vm) (eT : T.heap = h) {a : Addr} {ad : String} {P : ClassId → Prop} {N J : Nat} {f : Nat → Value} {v : Int32} (F : own_Fa Z h a .char ad P N f) (hJ : J < N) (hv : f J = .int v) (hd : decode B pc = .ok (.caload, 1)) (hp : pc + 1 = pc')
    (k : own_E p.tables e below G (T.setTop (mkF m pc' Ls (.int v :: st)))) : own_E p.tables e below G (T.setTop (mkF m pc Ls (.int (Int32.ofNat J) :: .ref a :: st))) := by
  subst hp
  obtain ⟨cl, Ar, -, -, S, r, H, -⟩ := F
  exact own_go (fun t q => X.caload hx (by rw [eT]; exact Ar.1) (State.isArrayOf_alike hZ.alike Ar.2.1) Ar.2.2 (own_inbF S r hJ) (by rw [own_clamp (by omega), H J hJ, hv]) (g := mkF m pc Ls (.int (Int32.ofNat J) :: .ref a :: st)) rfl rfl (hb hby hd) t q) k
theorem own_gB (X : Stand p l e R s m args below meth c T locs cells slots) (hx : p.tables.exec = Jvm.exec) (hby : c.code = B) (hZ : Z.Warmed39 s.vm) (eT : T.heap = h) {a : Addr} {ad : String} {P : ClassId → Prop} {N J : Nat} {f : Nat → Value} {v w : Int32} (F : own_Fa Z h a .byte ad P N f) (hJ : J < N) (hw : nar .byte v = w) (hd : decode B pc = .ok (.bastore, 1)) (hp : pc + 1 = pc')
    (k : ∀ (T' : State) (h' : Heap), Stand p l e R s m args below meth c T' (locs ++ [⟨a, J⟩]) cells slots → T'.heap = h' → Wr h h' a J (.int w) → own_Fa Z h' a .byte ad P N (own_up f J (.int w)) → own_E p.tables e below G (T'.setTop (mkF m pc' Ls (st)))) : own_E p.tables e below G (T.setTop (mkF m pc Ls (.int v :: .int (Int32.ofNat J) :: .ref a :: st))) := by
  subst hp hw
  obtain ⟨cl, Ar, E1, p1, S, r, H, G'⟩ := F
  have FF : own_Fa Z h a .byte ad P N f := ⟨cl, Ar, E1, p1, S, r, H, G'⟩
  obtain ⟨T', h', X', e', W', stp⟩ := stB X hx hZ eT Ar (j := Int32.ofNat J) (own_inbF S r hJ) (g := mkF m pc Ls (.int v :: .int (Int32.ofNat J) :: .ref a :: st)) rfl rfl (hb hby hd)
  rw [own_clamp (by omega)] at W' X'
  exact own_go stp (k T' h' X' e' W' (FF.upd W' (fits_nar_byte _)))
theorem own_gC (X : Stand p l e R s m args below meth c T locs cells slots) (hx : p.tables.exec = Jvm.exec) (hby : c.code = B) (hZ : Z.Warmed39 s.vm) (eT : T.heap = h) {a : Addr} {ad : String} {P : ClassId → Prop} {N J : Nat} {f : Nat → Value} {v w : Int32} (F : own_Fa Z h a .char ad P N f) (hJ : J < N) (hw : nar .char v = w) (hd : decode B pc = .ok (.castore, 1)) (hp : pc + 1 = pc')
    (k : ∀ (T' : State) (h' : Heap), Stand p l e R s m args below meth c T' (locs ++ [⟨a, J⟩]) cells slots → T'.heap = h' → Wr h h' a J (.int w) → own_Fa Z h' a .char ad P N (own_up f J (.int w)) → own_E p.tables e below G (T'.setTop (mkF m pc' Ls (st)))) : own_E p.tables e below G (T.setTop (mkF m pc Ls (.int v :: .int (Int32.ofNat J) :: .ref a :: st))) := by
  subst hp hw
  obtain ⟨cl, Ar, E1, p1, S, r, H, G'⟩ := F
  have FF : own_Fa Z h a .char ad P N f := ⟨cl, Ar, E1, p1, S, r, H, G'⟩
  obtain ⟨T', h', X', e', W', stp⟩ := stC X hx hZ eT Ar (j := Int32.ofNat J) (own_inbF S r hJ) (g := mkF m pc Ls (.int v :: .int (Int32.ofNat J) :: .ref a :: st)) rfl rfl (hb hby hd)
  rw [own_clamp (by omega)] at W' X'
  exact own_go stp (k T' h' X' e' W' (FF.upd W' (fits_nar_char _)))
theorem own_nB (X : Stand p l e R s m args below meth c T locs cells slots) (hx : p.tables.exec = Jvm.exec) (hby : c.code = B) (hZ : Z.Warmed39 s.vm) (w : (Jvm.Cond.arrayClass .byte).before a0 Z = true) (eT : T.heap = h) {N cap : Nat} (hd : decode B pc = .ok (.newarray .byte, 2)) (hp : pc + 2 = pc') (hcap : N ≤ cap) (hbig : cap * 8 ≤ 536870912) (hc : cells + 1 ≤ R.cells) (hl : slots + cap ≤ R.slots)
    (k : ∀ (T' : State) (h' : Heap) (b : Addr), b = h.size → Stand p l e R s m args below meth c T' locs (cells + 1) (slots + cap) → T'.heap = h' → Ext h h' → own_Fa Z h' b .byte "[B" (fun _ => True) N (fun _ => .int (0 : Int32)) → own_E p.tables e below G (T'.setTop (mkF m pc' Ls (.ref b :: st)))) : own_E p.tables e below G (T.setTop (mkF m pc Ls (.int (Int32.ofNat N) :: st))) := by
  subst hp
  have r : N < 2147483648 := by omega
  obtain ⟨T', h', kA, X', e', ex, A', E', stp⟩ := newPE (aty := .byte) X hx hZ w eT (g := mkF m pc Ls (.int (Int32.ofNat N) :: st)) rfl (hb hby hd) rfl (own_ipos r) (by rw [own_clamp r]; exact hcap) hbig hc hl (ad := "[B") (by decide)
  have A2 : Arr Z h' h.size (newA kA .byte (Int32.ofNat N)) .byte := A'
  have F2 : own_Fa Z h' h.size .byte "[B" (fun _ => True) N (fun _ => defaultValue .byte) := own_Fa.start A2 E' trivial (own_clamp r) r
  exact own_go stp (k T' h' h.size rfl X' e' ex F2)
theorem own_nC (X : Stand p l e R s m args below meth c T locs cells slots) (hx : p.tables.exec = Jvm.exec) (hby : c.code = B) (hZ : Z.Warmed39 s.vm) (w : (Jvm.Cond.arrayClass .char).before a0 Z = true) (eT : T.heap = h) {N cap : Nat} (hd : decode B pc = .ok (.newarray .char, 2)) (hp : pc + 2 = pc') (hcap : N ≤ cap) (hbig : cap * 8 ≤ 536870912) (hc : cells + 1 ≤ R.cells) (hl : slots + cap ≤ R.slots)
    (k : ∀ (T' : State) (h' : Heap) (b : Addr), b = h.size → Stand p l e R s m args below meth c T' locs (cells + 1) (slots + cap) → T'.heap = h' → Ext h h' → own_Fa Z h' b .char "[C" (fun _ => True) N (fun _ => .int (0 : Int32)) → own_E p.tables e below G (T'.setTop (mkF m pc' Ls (.ref b :: st)))) : own_E p.tables e below G (T.setTop (mkF m pc Ls (.int (Int32.ofNat N) :: st))) := by
  subst hp
  have r : N < 2147483648 := by omega
  obtain ⟨T', h', kA, X', e', ex, A', E', stp⟩ := newPE (aty := .char) X hx hZ w eT (g := mkF m pc Ls (.int (Int32.ofNat N) :: st)) rfl (hb hby hd) rfl (own_ipos r) (by rw [own_clamp r]; exact hcap) hbig hc hl (ad := "[C") (by decide)
  have A2 : Arr Z h' h.size (newA kA .char (Int32.ofNat N)) .char := A'
  have F2 : own_Fa Z h' h.size .char "[C" (fun _ => True) N (fun _ => defaultValue .char) := own_Fa.start A2 E' trivial (own_clamp r) r
  exact own_go stp (k T' h' h.size rfl X' e' ex F2)
theorem own_Fa.arv {a : Addr} {ty : FieldType} {ad : String} {P : ClassId → Prop} {N : Nat} {f : Nat → Value} (F : own_Fa Z h a ty ad P N f) (dv : Value) : ∃ kA, P kA ∧ Arv Z h a kA ty (Int32.ofNat N) ((List.range N).map f) dv := by
  obtain ⟨cl, A, -, p1, S, r, H, G'⟩ := F
  refine ⟨cl.cls, p1, cl, A, rfl, by rw [own_clamp r]; exact S, own_ipos r, fun i hi => ?_, fun i hi => ?_⟩
  · rw [S] at hi; rw [H i hi]; simp [hi]
  · rw [S] at hi; have := G' i hi; simpa [hi] using this
theorem own_Fa.ofArv {a : Addr} {kA : ClassId} {ty : FieldType} {ad : String} {P : ClassId → Prop} {N : Nat} {vs : List Value} {dv : Value} (F : Arv Z h a kA ty (Int32.ofNat N) vs dv) (r : N < 2147483648) (E1 : Exa Z h a ad) (p1 : P kA) : own_Fa Z h a ty ad P N (fun i => vs.getD i dv) := by
  obtain ⟨cl, A, q1, S, q3, H, G'⟩ := F
  rw [own_clamp r] at S
  exact ⟨cl, A, E1, q1 ▸ p1, S, r, fun i hi => H i (by rw [S]; exact hi), fun i hi => G' i (by rw [S]; exact hi)⟩
theorem own_cloneF (X : Stand p l e R s m args below meth c T locs cells slots) (hx : p.tables.exec = Jvm.exec) (hby : c.code = B) (hZ : Z.Warmed39 s.vm) {own ad : String} {index nl : Nat} (hml : c.maxLocals = nl) (hown : s.vm.findClass own = some m.cls) (w1 : (Jvm.Cond.methodLink own index ⟨ad, "clone", "()Ljava/lang/Object;"⟩).before a0 Z = true) (w2 : (Jvm.Cond.sameMethod ad "java/lang/Object" "clone" "()Ljava/lang/Object;").before a0 Z = true) (w3 : (Jvm.Cond.native ⟨"java/lang/Object", "clone", "()Ljava/lang/Object;"⟩).before a0 Z = true) (w4 : (Jvm.Cond.instanceMethod ⟨"java/lang/Object", "clone", "()Ljava/lang/Object;"⟩).before a0 Z = true) (w5 : (Jvm.Cond.selects ad ⟨ad, "clone", "()Ljava/lang/Object;"⟩ ⟨"java/lang/Object", "clone", "()Ljava/lang/Object;"⟩).before a0 Z = true) (w6 : (Jvm.Cond.castable ad "java/lang/Cloneable").before a0 Z = true) (eT : T.heap = h)
    {a : Addr} {ty : FieldType} {P : ClassId → Prop} {N : Nat} {f : Nat → Value} (F : own_Fa Z h a ty ad P N f) (hsz : Ls.size = nl) (hd : decode B pc = .ok (.invokevirtual index, 3)) (hp : pc + 3 = pc') (hf : 1 ≤ R.frames) {W cap : Nat} (hW : (st.map fun v => v.category).sum ≤ W) (hl : W + 14 ≤ R.locals) (hcap : N ≤ cap) (hc : cells + 1 ≤ R.cells) (hsl : slots + cap ≤ R.slots)
    (k : ∀ (T' : State) (h' : Heap) (b : Addr), b = h.size → Stand p l e R s m args below meth c T' locs (cells + 1) (slots + cap) → T'.heap = h' → Ext h h' → own_Fa Z h' b ty ad P N f → own_E p.tables e below G (T'.setTop (mkF m pc' Ls (.ref b :: st)))) : own_E p.tables e below G (T.setTop (mkF m pc Ls (.ref a :: st))) := by
  subst hp
  obtain ⟨cl, A, Ea, p1, S, r, H, G'⟩ := F
  have FC : FitC Z cl := fitC_of A fun i hi v hv => by rw [S] at hi; rw [H i hi] at hv; cases hv; exact G' i hi
  obtain ⟨T', h', X', e', ex, A', E', stp⟩ := cloneA X hx hZ hown w1 w2 w3 w4 w5 w6 eT A Ea FC (g := mkF m pc Ls (.ref a :: st)) rfl (by rw [hml]; exact hsz) rfl (hb hby hd) hf (by show 2 * 0 + _ ≤ _; rw [Nat.mul_zero, Nat.zero_add]; exact hW) hl (by rw [S]; exact hcap) hc hsl
  exact own_go stp (k T' h' h.size rfl X' e' ex ⟨cloneOf cl, A', E', p1, S, r, H, G'⟩)
def own_cpf {α : Type} (f g : Nat → α) (sp dp n : Nat) : Nat → α := fun i => if dp ≤ i ∧ i < dp + n then f (sp + (i - dp)) else g i
theorem own_cpF (X : Stand p l e R s m args below meth c T locs cells slots) (hx : p.tables.exec = Jvm.exec) (hby : c.code = B) (hZ : Z.Warmed39 s.vm) {own : String} {index nl : Nat} (hml : c.maxLocals = nl) (hown : s.vm.findClass own = some m.cls) (w1 : (Jvm.Cond.methodLink own index Jvm.Stand.acN).before a0 Z = true) (w2 : (Jvm.Cond.native Jvm.Stand.acN).before a0 Z = true) (w3 : (Jvm.Cond.static Jvm.Stand.acN).before a0 Z = true) (w4 : (Jvm.Cond.initialized "java/lang/System").before a0 Z = true) (eT : T.heap = h)
    {a b : Addr} {ad ad' : String} {P P' : ClassId → Prop} {N M sp dp nn : Nat} {f g : Nat → Value} (A : own_Fa Z h a .byte ad P N f) (D : own_Fa Z h b .byte ad' P' M g) (h4 : sp + nn ≤ N) (h5 : dp + nn ≤ M) {n0 : Nat} (N0 : Fr n0 locs) (ge : n0 ≤ b) (hsz : Ls.size = nl) (hd : decode B pc = .ok (.invokestatic index, 3)) (hp : pc + 3 = pc') (hf : 1 ≤ R.frames) {W : Nat} (hW : (st.map fun v => v.category).sum ≤ W) (hlo : W + (nativeFrameWords "java/lang/System" "arraycopy" 5 + 11) ≤ R.locals)
    (k : ∀ (T' : State) (h' : Heap) (L : List Loc), Stand p l e R s m args below meth c T' L cells slots → T'.heap = h' → Fr n0 L → Keep h h' [b] → own_Fa Z h' b .byte ad' P' M (own_cpf f g sp dp nn) → own_E p.tables e below G (T'.setTop (mkF m pc' Ls (st)))) : own_E p.tables e below G (T.setTop (mkF m pc Ls (.int (Int32.ofNat nn) :: .int (Int32.ofNat dp) :: .ref b :: .int (Int32.ofNat sp) :: .ref a :: st))) := by
  have ra := A.big
  have rb := D.big
  have Eb := D.exa
  obtain ⟨k1, -, V1⟩ := A.arv (.int 0)
  obtain ⟨k2, p2, V2⟩ := D.arv (.int 0)
  have e1 : (Int32.ofNat sp).toNatClampNeg = sp := own_clamp (by omega)
  have e2 : (Int32.ofNat dp).toNatClampNeg = dp := own_clamp (by omega)
  have e3 : (Int32.ofNat nn).toNatClampNeg = nn := own_clamp (by omega)
  have e4 : (Int32.ofNat N).toNatClampNeg = N := own_clamp ra
  have e5 : (Int32.ofNat M).toNatClampNeg = M := own_clamp rb
  refine own_cp X hx hby hZ hml hown w1 w2 w3 w4 eT V1 V2 rfl (own_ipos (by omega)) (own_ipos (by omega)) (own_ipos (by omega)) (by rw [e1, e3, e4]; exact h4) (by rw [e2, e3, e5]; exact h5) rfl (by rw [e2, e3]; simpa using h5) N0 ge hsz hd hp hf hW hlo fun T' h' L X' e' N' K' V' => k T' h' L X' e' N' K' ?_
  refine (own_Fa.ofArv V' rb (Eb.keep K') p2).congr fun i hi => ?_
  rw [e1, e2, e3]
  unfold own_cpf
  have l1 : ((List.range M).map g).length = M := by simp
  by_cases z : i < dp
  · rw [if_neg (by omega)]
    simp only [List.getD_eq_getElem?_getD]
    rw [List.append_assoc, List.getElem?_append_left (by simp; omega), List.getElem?_take_of_lt z]
    simp [hi]
  · by_cases y : i < dp + nn
    · rw [if_pos ⟨by omega, y⟩]
      simp only [List.getD_eq_getElem?_getD]
      rw [List.append_assoc, List.getElem?_append_right (by simp; omega), List.getElem?_append_left (by simp; omega)]
      have t1 : (List.take dp ((List.range M).map g)).length = dp := by simp; omega
      rw [t1]
      have q1 : i - dp < nn := by omega
      have q2 : sp + (i - dp) < N := by omega
      simp [q1, q2]
    · rw [if_neg (by omega)]
      simp only [List.getD_eq_getElem?_getD]
      rw [List.getElem?_append_right (by simp; omega)]
      have t1 : (List.take dp ((List.range M).map g) ++ List.map (fun i => (((List.range N).map f)[sp + i]?).getD (.int 0)) (List.range nn)).length = dp + nn := by simp; omega
      rw [t1, List.getElem?_drop, show dp + nn + (i - (dp + nn)) = i by omega]
      simp [hi]
end OwnEight

/-! the bytes of a text in UTF-8 -/
def own_b8 (x : Int32) : Int32 := x.toInt8.toInt32
theorem own_nar8 (x : Int32) : nar .byte (own_b8 x) = own_b8 x := by
  show ((x.toInt8.toInt32).toInt8).toInt32 = x.toInt8.toInt32
  rw [Int8.toInt8_toInt32]
abbrev own_Hi (x : Int32) : Prop := ¬ x < (55296 : Int32) ∧ x < (56320 : Int32)
abbrev own_Lo (x : Int32) : Prop := ¬ x < (56320 : Int32) ∧ x < (57344 : Int32)
abbrev own_Su (x : Int32) : Prop := ¬ x < (55296 : Int32) ∧ x < (57344 : Int32)
def own_cp2 (c d : Int32) : Int32 := ((c - (55296 : Int32)) <<< ((10 : Int32) &&& 31)) + (d - (56320 : Int32)) + (65536 : Int32)
def own_cpAt (f : Nat → Int32) (n i : Nat) : Int32 := if own_Hi (f i) ∧ i + 1 < n ∧ own_Lo (f (i + 1)) then own_cp2 (f i) (f (i + 1)) else if own_Su (f i) then (-1 : Int32) else f i
def own_put (cp : Int32) : List Int32 :=
  if cp < 0 then [(63 : Int32)] else if cp < (128 : Int32) then [own_b8 cp]
  else if cp < (2048 : Int32) then [own_b8 ((192 : Int32) ||| (cp >>> ((6 : Int32) &&& 31))), own_b8 ((128 : Int32) ||| (cp &&& (63 : Int32)))]
  else if cp < (65536 : Int32) then [own_b8 ((224 : Int32) ||| (cp >>> ((12 : Int32) &&& 31))), own_b8 ((128 : Int32) ||| ((cp >>> ((6 : Int32) &&& 31)) &&& (63 : Int32))), own_b8 ((128 : Int32) ||| (cp &&& (63 : Int32)))]
  else [own_b8 ((240 : Int32) ||| (cp >>> ((18 : Int32) &&& 31))), own_b8 ((128 : Int32) ||| ((cp >>> ((12 : Int32) &&& 31)) &&& (63 : Int32))), own_b8 ((128 : Int32) ||| ((cp >>> ((6 : Int32) &&& 31)) &&& (63 : Int32))), own_b8 ((128 : Int32) ||| (cp &&& (63 : Int32)))]
def own_stp (cp : Int32) : Nat := if cp < (65536 : Int32) then 1 else 2
def own_enc (f : Nat → Int32) (n : Nat) : Nat → Nat → List Int32
  | 0, _ => []
  | k + 1, i => if i < n then own_put (own_cpAt f n i) ++ own_enc f n k (i + own_stp (own_cpAt f n i)) else []
def own_Cb (f : Nat → Int32) (n : Nat) : Prop := ∀ i, i < n → 0 ≤ (f i).toInt ∧ (f i).toInt < 65536
section OwnUtf
variable {f : Nat → Int32} {n k i : Nat} {cp : Int32}
theorem own_enc_on (h : i < n) : own_enc f n (k + 1) i = own_put (own_cpAt f n i) ++ own_enc f n k (i + own_stp (own_cpAt f n i)) := if_pos h
theorem own_enc_end (h : ¬ i < n) : own_enc f n k i = [] := by
  cases k with
  | zero => rfl
  | succ k => exact if_neg h
theorem own_stp_pos : 1 ≤ own_stp cp := by unfold own_stp; split <;> omega
theorem own_enc_fuel : ∀ (k k' i : Nat), n ≤ i + k → n ≤ i + k' → own_enc f n k i = own_enc f n k' i
  | 0, k', i, h, _ => by rw [own_enc_end (by omega), own_enc_end (by omega)]
  | k + 1, 0, i, _, h' => by rw [own_enc_end (by omega), own_enc_end (by omega)]
  | k + 1, k' + 1, i, h, h' => by
    by_cases q : i < n
    · rw [own_enc_on q, own_enc_on q]
      have := own_stp_pos (cp := own_cpAt f n i)
      rw [own_enc_fuel k k' _ (by omega) (by omega)]
    · rw [own_enc_end q, own_enc_end q]
theorem own_put0 (h : cp < 0) : own_put cp = [(63 : Int32)] := if_pos h
theorem own_put1 (h : ¬ cp < 0) (h1 : cp < (128 : Int32)) : own_put cp = [own_b8 cp] := by unfold own_put; rw [if_neg h, if_pos h1]
theorem own_put2 (h : ¬ cp < 0) (h1 : ¬ cp < (128 : Int32)) (h2 : cp < (2048 : Int32)) : own_put cp = [own_b8 ((192 : Int32) ||| (cp >>> ((6 : Int32) &&& 31))), own_b8 ((128 : Int32) ||| (cp &&& (63 : Int32)))] := by unfold own_put; rw [if_neg h, if_neg h1, if_pos h2]
theorem own_put3 (h : ¬ cp < 0) (h1 : ¬ cp < (128 : Int32)) (h2 : ¬ cp < (2048 : Int32)) (h3 : cp < (65536 : Int32)) : own_put cp = [own_b8 ((224 : Int32) ||| (cp >>> ((12 : Int32) &&& 31))), own_b8 ((128 : Int32) ||| ((cp >>> ((6 : Int32) &&& 31)) &&& (63 : Int32))), own_b8 ((128 : Int32) ||| (cp &&& (63 : Int32)))] := by unfold own_put; rw [if_neg h, if_neg h1, if_neg h2, if_pos h3]
theorem own_put4 (h : ¬ cp < 0) (h1 : ¬ cp < (128 : Int32)) (h2 : ¬ cp < (2048 : Int32)) (h3 : ¬ cp < (65536 : Int32)) : own_put cp = [own_b8 ((240 : Int32) ||| (cp >>> ((18 : Int32) &&& 31))), own_b8 ((128 : Int32) ||| ((cp >>> ((12 : Int32) &&& 31)) &&& (63 : Int32))), own_b8 ((128 : Int32) ||| ((cp >>> ((6 : Int32) &&& 31)) &&& (63 : Int32))), own_b8 ((128 : Int32) ||| (cp &&& (63 : Int32)))] := by unfold own_put; rw [if_neg h, if_neg h1, if_neg h2, if_neg h3]
end OwnUtf
/-! a byte array that begins with a list of bytes; a byte array that is one -/
def own_Pre (Z : State) (h : Heap) (a : Addr) (N : Nat) (out : List Int32) : Prop := ∃ g : Nat → Int32, own_Fa Z h a .byte "[B" (fun _ => True) N (fun i => .int (g i)) ∧ out.length ≤ N ∧ ∀ i, i < out.length → g i = out.getD i 0
def own_Bl (Z : State) (h : Heap) (a : Addr) (xs : List Int32) : Prop := own_Fa Z h a .byte "[B" (fun _ => True) xs.length (fun i => .int (xs.getD i 0))
section OwnPre
variable {Z : State} {h h' : Heap} {a b : Addr} {N : Nat} {out xs : List Int32}
theorem own_Pre.ext (F : own_Pre Z h a N out) (E : Ext h h') : own_Pre Z h' a N out := by obtain ⟨g, A, r⟩ := F; exact ⟨g, A.ext E, r⟩
theorem own_Pre.other {sl : Nat} {v : Value} (F : own_Pre Z h b N out) (W : Wr h h' a sl v) (q : b ≠ a) : own_Pre Z h' b N out := by obtain ⟨g, A, r⟩ := F; exact ⟨g, A.other W q, r⟩
theorem own_Pre.keep {ws : List Addr} (F : own_Pre Z h a N out) (K : Keep h h' ws) (q : a ∉ ws) : own_Pre Z h' a N out := by obtain ⟨g, A, r⟩ := F; exact ⟨g, A.keep K q, r⟩
theorem own_Pre.lt (F : own_Pre Z h a N out) : a < h.size := by obtain ⟨g, A, r⟩ := F; exact A.lt
theorem own_Pre.exa (F : own_Pre Z h a N out) : Exa Z h a "[B" := by obtain ⟨g, A, r⟩ := F; exact A.exa
theorem own_Pre.big (F : own_Pre Z h a N out) : N < 2147483648 := by obtain ⟨g, A, r⟩ := F; exact A.big
theorem own_Pre.len (F : own_Pre Z h a N out) : out.length ≤ N := by obtain ⟨g, A, r⟩ := F; exact r.1
theorem own_Pre.new (F : own_Fa Z h a .byte "[B" (fun _ => True) N (fun _ => .int (0 : Int32))) : own_Pre Z h a N [] := ⟨fun _ => 0, F, Nat.zero_le _, fun i hi => absurd hi (Nat.not_lt_zero i)⟩
theorem own_Pre.full (F : own_Pre Z h a out.length out) : own_Bl Z h a out := by
  obtain ⟨g, A, r⟩ := F
  exact A.congr fun i hi => by rw [r.2 i hi]
theorem own_Pre.push {w : Int32} {g : Nat → Int32} (A : own_Fa Z h a .byte "[B" (fun _ => True) N (fun i => .int (g i))) (r : ∀ i, i < out.length → g i = out.getD i 0) (hl : out.length < N) (F : own_Fa Z h' a .byte "[B" (fun _ => True) N (own_up (fun i => .int (g i)) out.length (.int w))) : own_Pre Z h' a N (out ++ [w]) := by
  refine ⟨own_up g out.length w, F.congr fun i _ => ?_, by simp; omega, fun i hi => ?_⟩
  · by_cases z : i = out.length
    · subst z; rw [own_up_same, own_up_same]
    · rw [own_up_ne z, own_up_ne z]
  · by_cases z : i = out.length
    · subst z; rw [own_up_same]; simp
    · rw [own_up_ne z, r i (by simp at hi; omega)]
      have : i < out.length := by simp at hi; omega
      simp [List.getD_eq_getElem?_getD, List.getElem?_append_left this]
theorem own_Bl.ext (F : own_Bl Z h a xs) (E : Ext h h') : own_Bl Z h' a xs := own_Fa.ext F E
theorem own_Bl.other {sl : Nat} {v : Value} (F : own_Bl Z h b xs) (W : Wr h h' a sl v) (q : b ≠ a) : own_Bl Z h' b xs := own_Fa.other F W q
theorem own_Bl.keep {ws : List Addr} (F : own_Bl Z h a xs) (K : Keep h h' ws) (q : a ∉ ws) : own_Bl Z h' a xs := own_Fa.keep F K q
theorem own_Bl.lt (F : own_Bl Z h a xs) : a < h.size := own_Fa.lt F
theorem own_Bl.exa (F : own_Bl Z h a xs) : Exa Z h a "[B" := own_Fa.exa F
theorem own_Bl.pre (F : own_Bl Z h a xs) : own_Pre Z h a xs.length xs := ⟨fun i => xs.getD i 0, F, Nat.le_refl _, fun _ _ => rfl⟩
end OwnPre
theorem own_j {L k M : Nat} (h : M = L + k) : Int32.ofNat L + Int32.ofNat k = Int32.ofNat M := by rw [h]; exact (Int32.ofNat_add L k).symm
theorem own_le319 {x : Int32} : ¬ (56319 : Int32) < x ↔ x < (56320 : Int32) := by
  rw [Int32.lt_iff_toInt_lt, Int32.lt_iff_toInt_lt]; have a : (56319 : Int32).toInt = 56319 := rfl; have b : (56320 : Int32).toInt = 56320 := rfl; omega
theorem own_le343 {x : Int32} : ¬ (57343 : Int32) < x ↔ x < (57344 : Int32) := by
  rw [Int32.lt_iff_toInt_lt, Int32.lt_iff_toInt_lt]; have a : (57343 : Int32).toInt = 57343 := rfl; have b : (57344 : Int32).toInt = 57344 := rfl; omega
theorem own_cpA {f : Nat → Int32} {n i : Nat} (h1 : own_Hi (f i)) (h2 : i + 1 < n) (h3 : own_Lo (f (i + 1))) : own_cpAt f n i = own_cp2 (f i) (f (i + 1)) := if_pos ⟨h1, h2, h3⟩
theorem own_cpB {f : Nat → Int32} {n i : Nat} (h : ¬ (own_Hi (f i) ∧ i + 1 < n ∧ own_Lo (f (i + 1)))) (h1 : own_Su (f i)) : own_cpAt f n i = (-1 : Int32) := (if_neg h).trans (if_pos h1)
theorem own_cpC {f : Nat → Int32} {n i : Nat} (h1 : ¬ own_Su (f i)) : own_cpAt f n i = f i := by
  have h : ¬ (own_Hi (f i) ∧ i + 1 < n ∧ own_Lo (f (i + 1))) := fun q => h1 ⟨q.1.1, by
    have := q.1.2; rw [Int32.lt_iff_toInt_lt] at *; have a : (56320 : Int32).toInt = 56320 := rfl; have b : (57344 : Int32).toInt = 57344 := rfl; omega⟩
  exact (if_neg h).trans (if_neg h1)
/-! chars and bytes -/
def own_gcx (c : Int32) : Int32 := (((own_b8 (c >>> ((0 : Int32) &&& 31)) &&& (255 : Int32)) <<< ((0 : Int32) &&& 31)) ||| ((own_b8 (c >>> ((8 : Int32) &&& 31)) &&& (255 : Int32)) <<< ((8 : Int32) &&& 31))).toUInt32.toUInt16.toUInt32.toInt32
def own_gcb (b : Nat) : Bool := (List.range 4096).all fun k => own_gcx (Int32.ofNat (4096 * b + k)) == Int32.ofNat (4096 * b + k)
theorem own_gcb0 : own_gcb 0 = true := by decide +kernel
theorem own_gcb1 : own_gcb 1 = true := by decide +kernel
theorem own_gcb2 : own_gcb 2 = true := by decide +kernel
theorem own_gcb3 : own_gcb 3 = true := by decide +kernel
theorem own_gcb4 : own_gcb 4 = true := by decide +kernel
theorem own_gcb5 : own_gcb 5 = true := by decide +kernel
theorem own_gcb6 : own_gcb 6 = true := by decide +kernel
theorem own_gcb7 : own_gcb 7 = true := by decide +kernel
theorem own_gcb8 : own_gcb 8 = true := by decide +kernel
theorem own_gcb9 : own_gcb 9 = true := by decide +kernel
theorem own_gcb10 : own_gcb 10 = true := by decide +kernel
theorem own_gcb11 : own_gcb 11 = true := by decide +kernel
theorem own_gcb12 : own_gcb 12 = true := by decide +kernel
theorem own_gcb13 : own_gcb 13 = true := by decide +kernel
theorem own_gcb14 : own_gcb 14 = true := by decide +kernel
theorem own_gcb15 : own_gcb 15 = true := by decide +kernel
theorem own_gck {k : Nat} (h : k < 65536) : own_gcx (Int32.ofNat k) = Int32.ofNat k := by
  have pick : ∀ b : Nat, own_gcb b = true → 4096 * b ≤ k → k < 4096 * b + 4096 → own_gcx (Int32.ofNat k) = Int32.ofNat k := fun b hb h1 h2 => by
    have := List.all_eq_true.mp hb (k - 4096 * b) (List.mem_range.mpr (by omega))
    rw [show 4096 * b + (k - 4096 * b) = k by omega] at this
    exact eq_of_beq this
  have q : k / 4096 < 16 := by omega
  have e : k / 4096 = 0 ∨ k / 4096 = 1 ∨ k / 4096 = 2 ∨ k / 4096 = 3 ∨ k / 4096 = 4 ∨ k / 4096 = 5 ∨ k / 4096 = 6 ∨ k / 4096 = 7 ∨ k / 4096 = 8 ∨ k / 4096 = 9 ∨ k / 4096 = 10 ∨ k / 4096 = 11 ∨ k / 4096 = 12 ∨ k / 4096 = 13 ∨ k / 4096 = 14 ∨ k / 4096 = 15 := by omega
  rcases e with e | e | e | e | e | e | e | e | e | e | e | e | e | e | e | e
  · exact pick 0 own_gcb0 (by omega) (by omega)
  · exact pick 1 own_gcb1 (by omega) (by omega)
  · exact pick 2 own_gcb2 (by omega) (by omega)
  · exact pick 3 own_gcb3 (by omega) (by omega)
  · exact pick 4 own_gcb4 (by omega) (by omega)
  · exact pick 5 own_gcb5 (by omega) (by omega)
  · exact pick 6 own_gcb6 (by omega) (by omega)
  · exact pick 7 own_gcb7 (by omega) (by omega)
  · exact pick 8 own_gcb8 (by omega) (by omega)
  · exact pick 9 own_gcb9 (by omega) (by omega)
  · exact pick 10 own_gcb10 (by omega) (by omega)
  · exact pick 11 own_gcb11 (by omega) (by omega)
  · exact pick 12 own_gcb12 (by omega) (by omega)
  · exact pick 13 own_gcb13 (by omega) (by omega)
  · exact pick 14 own_gcb14 (by omega) (by omega)
  · exact pick 15 own_gcb15 (by omega) (by omega)
theorem own_asN {x : Int32} (h : 0 ≤ x.toInt) : x = Int32.ofNat x.toInt.toNat := by
  apply Int32.toInt_inj.mp
  have := Int32.toInt_lt x
  rw [own_nat32 (by omega)]; omega
theorem own_gc {c : Int32} (h0 : 0 ≤ c.toInt) (h1 : c.toInt < 65536) : own_gcx c = c := by
  rw [own_asN h0]; exact own_gck (by omega)
theorem own_l1 : ∀ k : Fin 256, (own_b8 (Int32.ofNat k.val) < 0 ↔ ¬ Int32.ofNat k.val < (128 : Int32)) ∧ (Int32.ofNat k.val < (128 : Int32) → own_b8 (own_b8 (Int32.ofNat k.val)) = own_b8 (Int32.ofNat k.val)) ∧ own_b8 ((192 : Int32) ||| ((own_b8 (Int32.ofNat k.val) &&& (255 : Int32)) >>> ((6 : Int32) &&& 31))) = own_b8 ((192 : Int32) ||| (Int32.ofNat k.val >>> ((6 : Int32) &&& 31))) ∧ own_b8 ((128 : Int32) ||| (own_b8 (Int32.ofNat k.val) &&& (63 : Int32))) = own_b8 ((128 : Int32) ||| (Int32.ofNat k.val &&& (63 : Int32))) := by decide +kernel
theorem own_sh : ∀ k : Fin 1024, (Int32.ofNat (55296 + k.val) - (55296 : Int32)) <<< ((10 : Int32) &&& 31) = (Int32.ofNat (55296 + k.val) <<< ((10 : Int32) &&& 31)) + (-56623104 : Int32) := by decide +kernel
theorem own_shb : ∀ k : Fin 1024, 0 ≤ ((Int32.ofNat (55296 + k.val) - (55296 : Int32)) <<< ((10 : Int32) &&& 31)).toInt ∧ ((Int32.ofNat (55296 + k.val) - (55296 : Int32)) <<< ((10 : Int32) &&& 31)).toInt ≤ 1047552 := by decide +kernel
theorem own_tcp {c d : Int32} (h : own_Hi c) : (c <<< ((10 : Int32) &&& 31)) + d + (-56613888 : Int32) = own_cp2 c d := by
  have b1 := h.1; have b2 := h.2
  rw [Int32.lt_iff_toInt_lt] at b1 b2
  have k1 : (55296 : Int32).toInt = 55296 := rfl
  have k2 : (56320 : Int32).toInt = 56320 := rfl
  have e : c = Int32.ofNat (55296 + (c.toInt.toNat - 55296)) := by
    rw [show 55296 + (c.toInt.toNat - 55296) = c.toInt.toNat by omega]; exact own_asN (by omega)
  have q := own_sh ⟨c.toInt.toNat - 55296, by omega⟩
  rw [← e] at q
  unfold own_cp2
  rw [q, Int32.sub_eq_add_neg]
  generalize c <<< ((10 : Int32) &&& 31) = x
  have r : (-56613888 : Int32) = (-56623104 : Int32) + (-(56320 : Int32)) + (65536 : Int32) := by decide
  rw [r]
  ac_rfl
theorem own_shl1 {n : Nat} (h : n < 1073741824) : Int32.ofNat n <<< ((1 : Int32) &&& 31) = Int32.ofNat (2 * n) := by
  apply Int32.toBitVec_inj.mp
  show (BitVec.ofNat 32 n) <<< (1 : Nat) = BitVec.ofNat 32 (2 * n)
  apply BitVec.eq_of_toNat_eq
  rw [BitVec.toNat_shiftLeft, BitVec.toNat_ofNat, BitVec.toNat_ofNat, Nat.shiftLeft_eq]; omega
theorem own_lt30 {n : Nat} (h : n ≤ 64) : Int32.ofNat n < (1073741823 : Int32) := (own_ilt (J := 1073741823) (by omega) (by decide)).mpr (by omega)
def own_pc (g : Nat → Int32) (i : Nat) (x : Int32) : Nat → Int32 := fun j => if j = 2 * i then own_b8 (x >>> ((0 : Int32) &&& 31)) else if j = 2 * i + 1 then own_b8 (x >>> ((8 : Int32) &&& 31)) else g j
theorem own_u16s (g : Nat → Int32) (x : Int32) (i j : Nat) : own_up (own_up (fun k => Value.int (g k)) (2 * i) (.int (own_b8 (x >>> ((0 : Int32) &&& 31))))) (2 * i + 1) (.int (own_b8 (x >>> ((8 : Int32) &&& 31)))) j = .int (own_pc g i x j) := by
  unfold own_pc
  by_cases a : j = 2 * i + 1
  · subst a; rw [own_up_same, if_neg (by omega), if_pos rfl]
  · rw [own_up_ne a]
    by_cases b : j = 2 * i
    · subst b; rw [own_up_same, if_pos rfl]
    · rw [own_up_ne b, if_neg b, if_neg a]
theorem own_narc (x : Int32) : nar .char x.toUInt32.toUInt16.toUInt32.toInt32 = x.toUInt32.toUInt16.toUInt32.toInt32 := by
  show (x.toUInt32.toUInt16.toUInt32.toInt32).toUInt32.toUInt16.toUInt32.toInt32 = _
  rw [show x.toUInt32.toUInt16.toUInt32.toInt32.toUInt32 = x.toUInt32.toUInt16.toUInt32 from rfl, UInt16.toUInt16_toUInt32]
def own_s1 (u : Slot) : Prop := u = .unset ∨ ∃ v : Value, u = .val v ∧ v.category = 1
theorem own_st6 {s0 s1 s2 s3 s4 s5 u6 : Slot} {v : Value} (h : own_s1 u6) (hv : v.category = 1) : storeLocals #[s0, s1, s2, s3, s4, s5, u6] 6 v = some #[s0, s1, s2, s3, s4, s5, .val v] := by
  rcases h with rfl | ⟨x, rfl, hx⟩ <;> simp [storeLocals, storeSelf, setAt, hv, *]
def own_U (f : Nat → Int32) (n : Nat) (g : Nat → Int32) : Prop := ∀ j, j < n → g (2 * j) = own_b8 (f j >>> ((0 : Int32) &&& 31)) ∧ g (2 * j + 1) = own_b8 (f j >>> ((8 : Int32) &&& 31))
theorem own_U.put {f g : Nat → Int32} {i : Nat} (h : own_U f i g) : own_U f (i + 1) (own_pc g i (f i)) := fun j hj => by
  unfold own_pc
  by_cases z : j = i
  · subst z; rw [if_pos rfl, if_neg (by omega), if_pos rfl]; exact ⟨rfl, rfl⟩
  · rw [if_neg (by omega), if_neg (by omega), if_neg (by omega), if_neg (by omega)]; exact h j (by omega)
theorem own_inj {a b : Nat} (ha : a < 2147483648) (hb : b < 2147483648) (h : Int32.ofNat a = Int32.ofNat b) : a = b := by
  have e := congrArg Int32.toInt h
  rw [own_nat32 ha, own_nat32 hb] at e; omega
theorem own_cfl0 {n : Nat} : nar .byte (((Int32.ofNat n - Int32.ofNat n).toUInt32 >>> ((31 : Int32) &&& 31).toUInt32).toInt32.toInt8.toInt32) = (0 : Int32) := by
  rw [Int32.sub_self]; decide
theorem own_cfl1 {n : Nat} (h1 : 1 ≤ n) (h8 : n ≤ 8) : nar .byte (((Int32.ofNat n - Int32.ofNat (2 * n)).toUInt32 >>> ((31 : Int32) &&& 31).toUInt32).toInt32.toInt8.toInt32) = (1 : Int32) := by
  have : n = 1 ∨ n = 2 ∨ n = 3 ∨ n = 4 ∨ n = 5 ∨ n = 6 ∨ n = 7 ∨ n = 8 := by omega
  rcases this with rfl | rfl | rfl | rfl | rfl | rfl | rfl | rfl <;> decide
/-- a String of the chars f, n of them -/
def own_SV (Z : State) (h : Heap) (a : Addr) (f : Nat → Int32) (n : Nat) : Prop := Exa Z h a "java/lang/String" ∧ ∃ (b : Addr) (co : Int32), Fld Z h a "java/lang/String" "value" "[B" (.ref b) ∧ Fld Z h a "java/lang/String" "coder" "B" (.int co) ∧
  ((co = 0 ∧ (∀ i, i < n → ¬ (255 : Int32) < f i) ∧ own_Pre Z h b n ((List.range n).map (fun y => own_b8 (f y)))) ∨ (co = 1 ∧ (∃ j, j < n ∧ (255 : Int32) < f j) ∧ ∃ g : Nat → Int32, own_U f n g ∧ own_Fa Z h b .byte "[B" (fun _ => True) (2 * n) (fun y => .int (g y))))
theorem own_SV.ext {Z : State} {h h' : Heap} {a : Addr} {f : Nat → Int32} {n : Nat} (F : own_SV Z h a f n) (E : Ext h h') : own_SV Z h' a f n := by
  obtain ⟨A, b, co, v, c, q⟩ := F
  exact ⟨A.ext E, b, co, v.ext E, c.ext E, q.imp (fun ⟨x, y, z⟩ => ⟨x, y, z.ext E⟩) (fun ⟨x, y, g, u, z⟩ => ⟨x, y, g, u, z.ext E⟩)⟩
theorem own_cpBl {Z : State} {h : Heap} {b : Addr} {M : Nat} {out : List Int32} {g : Nat → Int32} {e : Nat → Value} (hM : out.length = M) (F : own_Fa Z h b .byte "[B" (fun _ => True) M (own_cpf (fun y => .int (g y)) e 0 0 M)) (hg : ∀ i, i < out.length → g i = out.getD i 0) : own_Bl Z h b out := by
  subst hM
  refine F.congr fun i hi => ?_
  unfold own_cpf
  rw [if_pos ⟨Nat.zero_le _, by omega⟩]
  show Value.int (g (0 + (i - 0))) = _
  rw [show 0 + (i - 0) = i by omega, hg i hi]
def own_Ec (f : Nat → Int32) (n i : Nat) : List Int32 := own_enc f n n i
theorem own_Ec_on {f : Nat → Int32} {n i : Nat} (h : i < n) : own_Ec f n i = own_put (own_cpAt f n i) ++ own_Ec f n (i + own_stp (own_cpAt f n i)) := by
  unfold own_Ec
  rw [own_enc_fuel n (n + 1) i (by omega) (by omega)]
  exact own_enc_on h
theorem own_Ec_end {f : Nat → Int32} {n i : Nat} (h : ¬ i < n) : own_Ec f n i = [] := own_enc_end h
/-- one code point more -/
theorem own_Estep {f : Nat → Int32} {n i j : Nat} {out out2 E bs : List Int32} {cp : Int32} (h : i < n) (hE : out ++ own_Ec f n i = E) (hc : own_cpAt f n i = cp) (hs : own_stp cp = j - i ∧ i ≤ j) (hp : own_put cp = bs) (ho : out2 = out ++ bs) : out2 ++ own_Ec f n j = E := by
  rw [← hE, own_Ec_on h, hc, hp, ho, hs.1, show i + (j - i) = j by omega, List.append_assoc]
theorem own_shr1 {n : Nat} (h : n ≤ 8) : Int32.ofNat (2 * n) >>> ((1 : Int32) &&& 31) = Int32.ofNat n := by
  have : n = 0 ∨ n = 1 ∨ n = 2 ∨ n = 3 ∨ n = 4 ∨ n = 5 ∨ n = 6 ∨ n = 7 ∨ n = 8 := by omega
  rcases this with rfl | rfl | rfl | rfl | rfl | rfl | rfl | rfl | rfl <;> decide
theorem own_mul3 {n : Nat} (h : n ≤ 8) : Int32.ofNat n * (3 : Int32) = Int32.ofNat (3 * n) := by
  have : n = 0 ∨ n = 1 ∨ n = 2 ∨ n = 3 ∨ n = 4 ∨ n = 5 ∨ n = 6 ∨ n = 7 ∨ n = 8 := by omega
  rcases this with rfl | rfl | rfl | rfl | rfl | rfl | rfl | rfl | rfl <;> decide
theorem own_s96 {s0 s1 s2 s3 s4 s5 u6 u7 u8 : Slot} {v : Value} (h : own_s1 u6) (hv : v.category = 1) : storeLocals #[s0, s1, s2, s3, s4, s5, u6, u7, u8] 6 v = some #[s0, s1, s2, s3, s4, s5, .val v, u7, u8] := by
  rcases h with rfl | ⟨x, rfl, hx⟩ <;> simp [storeLocals, storeSelf, setAt, hv, *]
theorem own_s97 {s0 s1 s2 s3 s4 s5 u6 u7 u8 : Slot} {v : Value} (h : own_s1 u7) (hv : v.category = 1) : storeLocals #[s0, s1, s2, s3, s4, s5, u6, u7, u8] 7 v = some #[s0, s1, s2, s3, s4, s5, u6, .val v, u8] := by
  rcases h with rfl | ⟨x, rfl, hx⟩ <;> simp [storeLocals, storeSelf, setAt, hv, *]
theorem own_s98 {s0 s1 s2 s3 s4 s5 u6 u7 u8 : Slot} {v : Value} (h : own_s1 u8) (hv : v.category = 1) : storeLocals #[s0, s1, s2, s3, s4, s5, u6, u7, u8] 8 v = some #[s0, s1, s2, s3, s4, s5, u6, u7, .val v] := by
  rcases h with rfl | ⟨x, rfl, hx⟩ <;> simp [storeLocals, storeSelf, setAt, hv, *]
theorem own_nlt0 {x : Int32} (h : 0 ≤ x.toInt) : ¬ x < 0 := by rw [Int32.lt_iff_toInt_lt]; have e : (0 : Int32).toInt = 0 := rfl; omega
theorem own_lt65 {x : Int32} (h : x.toInt < 65536) : x < (65536 : Int32) := by rw [Int32.lt_iff_toInt_lt]; exact h
theorem own_nSu {x : Int32} (h : x < (2048 : Int32)) : ¬ own_Su x := fun q => by
  have a := q.1; rw [Int32.lt_iff_toInt_lt] at a h; have e : (55296 : Int32).toInt = 55296 := rfl; have e2 : (2048 : Int32).toInt = 2048 := rfl; omega
theorem own_n128 {x : Int32} (h : x < (128 : Int32)) : x < (2048 : Int32) := by
  rw [Int32.lt_iff_toInt_lt] at *; have e : (128 : Int32).toInt = 128 := rfl; have e2 : (2048 : Int32).toInt = 2048 := rfl; omega
theorem own_cp2b {c d : Int32} (h : own_Hi c) (h' : own_Lo d) : ¬ own_cp2 c d < 0 ∧ ¬ own_cp2 c d < (128 : Int32) ∧ ¬ own_cp2 c d < (2048 : Int32) ∧ ¬ own_cp2 c d < (65536 : Int32) := by
  have b1 := h.1; have b2 := h.2; have d1 := h'.1; have d2 := h'.2
  rw [Int32.lt_iff_toInt_lt] at b1 b2 d1 d2
  have k1 : (55296 : Int32).toInt = 55296 := rfl
  have k2 : (56320 : Int32).toInt = 56320 := rfl
  have k3 : (57344 : Int32).toInt = 57344 := rfl
  have e : c = Int32.ofNat (55296 + (c.toInt.toNat - 55296)) := by
    rw [show 55296 + (c.toInt.toNat - 55296) = c.toInt.toNat by omega]; exact own_asN (by omega)
  have q := own_shb ⟨c.toInt.toNat - 55296, by omega⟩
  rw [← e] at q
  have t : (own_cp2 c d).toInt = ((c - (55296 : Int32)) <<< ((10 : Int32) &&& 31)).toInt + (d.toInt - 56320) + 65536 := by
    unfold own_cp2
    rw [Int32.toInt_add, Int32.toInt_add, Int32.toInt_sub, k2, show (65536 : Int32).toInt = 65536 from rfl]
    simp only [Int.bmod_def]; omega
  have z0 : (0 : Int32).toInt = 0 := rfl
  have z1 : (128 : Int32).toInt = 128 := rfl
  have z2 : (2048 : Int32).toInt = 2048 := rfl
  have z3 : (65536 : Int32).toInt = 65536 := rfl
  refine ⟨?_, ?_, ?_, ?_⟩ <;> rw [Int32.lt_iff_toInt_lt, t] <;> omega
theorem own_stp1 {cp : Int32} {i : Nat} (h : cp < (65536 : Int32)) : own_stp cp = i + 1 - i ∧ i ≤ i + 1 := ⟨by unfold own_stp; rw [if_pos h]; omega, by omega⟩
theorem own_stp2 {cp : Int32} {i : Nat} (h : ¬ cp < (65536 : Int32)) : own_stp cp = i + 1 + 1 - i ∧ i ≤ i + 1 + 1 := ⟨by unfold own_stp; rw [if_neg h]; omega, by omega⟩
theorem own_lat {x : Int32} (h0 : 0 ≤ x.toInt) (h1 : ¬ (255 : Int32) < x) : (own_b8 x < 0 ↔ ¬ x < (128 : Int32)) ∧ (x < (128 : Int32) → own_put x = [own_b8 x]) ∧ (¬ x < (128 : Int32) → own_put x = [own_b8 ((192 : Int32) ||| ((own_b8 x &&& (255 : Int32)) >>> ((6 : Int32) &&& 31))), own_b8 ((128 : Int32) ||| (own_b8 x &&& (63 : Int32)))]) ∧ ¬ own_Su x ∧ x < (65536 : Int32) := by
  rw [Int32.lt_iff_toInt_lt] at h1
  have e255 : (255 : Int32).toInt = 255 := rfl
  have e := own_asN h0
  have q := own_l1 ⟨x.toInt.toNat, by omega⟩
  have e' : Int32.ofNat (⟨x.toInt.toNat, by omega⟩ : Fin 256).val = x := e.symm
  rw [e'] at q
  have l2 : x < (2048 : Int32) := by rw [Int32.lt_iff_toInt_lt]; have : (2048 : Int32).toInt = 2048 := rfl; omega
  refine ⟨q.1, fun h => own_put1 (own_nlt0 h0) h, fun h => ?_, own_nSu l2, ?_⟩
  · rw [own_put2 (own_nlt0 h0) h l2, q.2.2.1, q.2.2.2]
  · rw [Int32.lt_iff_toInt_lt]; have : (65536 : Int32).toInt = 65536 := rfl; omega
theorem own_Ec_asc {f : Nat → Int32} {n : Nat} (h : ∀ i, i < n → 0 ≤ (f i).toInt ∧ f i < (128 : Int32)) : ∀ k i, i + k = n → own_Ec f n i = (List.range k).map (fun j => own_b8 (f (i + j)))
  | 0, i, hk => by rw [own_Ec_end (by omega)]; rfl
  | k + 1, i, hk => by
    have hi := h i (by omega)
    have l2 := own_n128 hi.2
    rw [own_Ec_on (by omega), own_cpC (own_nSu l2), own_put1 (own_nlt0 hi.1) hi.2, show own_stp (f i) = 1 from if_pos (by rw [Int32.lt_iff_toInt_lt] at *; have a : (128 : Int32).toInt = 128 := rfl; have b : (65536 : Int32).toInt = 65536 := rfl; omega), own_Ec_asc h k (i + 1) (by omega), List.range_succ_eq_map, List.map_cons, List.map_map]
    show own_b8 (f i) :: _ = own_b8 (f (i + 0)) :: _
    rw [Nat.add_zero]
    congr 1
    apply List.map_congr_left
    intro j _
    show own_b8 (f (i + 1 + j)) = own_b8 (f (i + (j + 1)))
    rw [show i + 1 + j = i + (j + 1) by omega]
theorem own_ascB {Z : State} {h : Heap} {b : Addr} {f g : Nat → Int32} {n : Nat} (ha : ∀ i, i < n → 0 ≤ (f i).toInt ∧ f i < (128 : Int32)) (hg : ∀ i, i < n → g i = own_b8 (f i)) (F : own_Fa Z h b .byte "[B" (fun _ => True) n (fun y => .int (g y))) : own_Bl Z h b (own_Ec f n 0) := by
  rw [own_Ec_asc ha n 0 (by omega)]
  have e : ((List.range n).map (fun j => own_b8 (f (0 + j)))).length = n := by simp
  unfold own_Bl
  rw [e]
  refine F.congr fun i hi => ?_
  rw [hg i hi]
  simp [List.getD_eq_getElem?_getD, hi]
/-! the Latin-1 text, the builder -/
def own_SL (Z : State) (h : Heap) (a : Addr) (bs : List Int32) : Prop := Exa Z h a "java/lang/String" ∧ Fld Z h a "java/lang/String" "coder" "B" (.int (0 : Int32)) ∧ ∃ b : Addr, Fld Z h a "java/lang/String" "value" "[B" (.ref b) ∧ own_Bl Z h b bs
theorem own_SL.ext {Z : State} {h h' : Heap} {a : Addr} {bs : List Int32} (F : own_SL Z h a bs) (E : Ext h h') : own_SL Z h' a bs := by
  obtain ⟨A, c, b, v, B⟩ := F; exact ⟨A.ext E, c.ext E, b, v.ext E, B.ext E⟩
def own_SB2 (Z : State) (h : Heap) (sb vb : Addr) (out : List Int32) : Prop := Exa Z h sb "java/lang/StringBuilder" ∧ Fld Z h sb "java/lang/AbstractStringBuilder" "value" "[B" (.ref vb) ∧ Fld Z h sb "java/lang/AbstractStringBuilder" "coder" "B" (.int (0 : Int32)) ∧ Fld Z h sb "java/lang/AbstractStringBuilder" "count" "I" (.int (Int32.ofNat out.length)) ∧ own_Pre Z h vb 16 out ∧ sb ≠ vb
theorem own_SB2.ext {Z : State} {h h' : Heap} {sb vb : Addr} {out : List Int32} (F : own_SB2 Z h sb vb out) (E : Ext h h') : own_SB2 Z h' sb vb out := by
  obtain ⟨A, v, c, n, P, q⟩ := F; exact ⟨A.ext E, v.ext E, c.ext E, n.ext E, P.ext E, q⟩
theorem own_ss1 {p : Nat} (h : p < 10) : (-10 : Int32) < -(Int32.ofNat p) := (by decide +kernel : ∀ k : Fin 10, (-10 : Int32) < -(Int32.ofNat k.val)) ⟨p, h⟩
theorem own_ss2 {p : Nat} (h1 : 10 ≤ p) (h : p < 13) : ¬ ((-10 : Int32) < -(Int32.ofNat p)) ∧ ((10 : Int32) * (-10 : Int32)) < -(Int32.ofNat p) := (by decide +kernel : ∀ k : Fin 13, 10 ≤ k.val → ¬ ((-10 : Int32) < -(Int32.ofNat k.val)) ∧ ((10 : Int32) * (-10 : Int32)) < -(Int32.ofNat k.val)) ⟨p, h⟩ h1
theorem own_cap16 {k : Nat} (h : k ≤ 16) : ¬ ((0 : Int32) < (Int32.ofNat k - (Int32.ofNat 16 >>> ((0 : Int32) &&& 31)))) := (by decide +kernel : ∀ k : Fin 17, ¬ ((0 : Int32) < (Int32.ofNat k.val - (Int32.ofNat 16 >>> ((0 : Int32) &&& 31))))) ⟨k, by omega⟩
theorem own_gc100 {p : Nat} (h : p < 13) : (-100 : Int32) < -(Int32.ofNat p) := (by decide +kernel : ∀ k : Fin 13, (-100 : Int32) < -(Int32.ofNat k.val)) ⟨p, h⟩
theorem own_gc9 {p : Nat} (h : p < 10) : ¬ (-(Int32.ofNat p) < (-9 : Int32)) := (by decide +kernel : ∀ k : Fin 10, ¬ (-(Int32.ofNat k.val) < (-9 : Int32))) ⟨p, h⟩
theorem own_gc9' {p : Nat} (h1 : 10 ≤ p) (h : p < 13) : -(Int32.ofNat p) < (-9 : Int32) := (by decide +kernel : ∀ k : Fin 13, 10 ≤ k.val → -(Int32.ofNat k.val) < (-9 : Int32)) ⟨p, h⟩ h1
def own_on (i : Nat) : Int32 := (48 : Int32) + Int32.ofNat i % (10 : Int32)
def own_te (i : Nat) : Int32 := (48 : Int32) + Int32.ofNat i / (10 : Int32)
theorem own_onn {p : Nat} (h : p < 13) : nar .byte (own_on p) = own_on p := (by decide +kernel : ∀ k : Fin 13, nar .byte (own_on k.val) = own_on k.val) ⟨p, h⟩
theorem own_ten {p : Nat} (h : p < 13) : nar .byte (own_te p) = own_te p := (by decide +kernel : ∀ k : Fin 13, nar .byte (own_te k.val) = own_te k.val) ⟨p, h⟩
/-- the digits of a length below 13 -/
def own_dg (p : Nat) : List Int32 := if p < 10 then [own_b8 ((48 : Int32) + Int32.ofNat p)] else [(49 : Int32), own_b8 (((48 : Int32) + Int32.ofNat p) - (10 : Int32))]
theorem own_dg1 {p : Nat} (h : p < 10) : own_dg p = [own_on p] := (by decide +kernel : ∀ k : Fin 10, own_dg k.val = [own_on k.val]) ⟨p, h⟩
theorem own_dg2 {p : Nat} (h1 : 10 ≤ p) (h : p < 13) : own_dg p = [own_te p, own_on p] := (by decide +kernel : ∀ k : Fin 13, 10 ≤ k.val → own_dg k.val = [own_te k.val, own_on k.val]) ⟨p, h⟩ h1
theorem own_dgl {p : Nat} : (own_dg p).length ≤ 2 := by unfold own_dg; split <;> simp
theorem own_dgP1 {Z : State} {h : Heap} {vb : Addr} {p : Nat} {g : Nat → Int32} (hp : p < 10) (F : own_Fa Z h vb .byte "[B" (fun _ => True) 16 (own_up (fun y => .int (g y)) 0 (.int (own_on p)))) : own_Pre Z h vb 16 (own_dg p) := by
  rw [own_dg1 hp]
  refine ⟨fun i => if i = 0 then own_on p else g i, F.congr fun i _ => ?_, Nat.le_of_ble_eq_true rfl, fun i hi => ?_⟩
  · show _ = Value.int (if i = 0 then own_on p else g i)
    by_cases z : i = 0
    · subst z; rw [own_up_same, if_pos rfl]
    · rw [own_up_ne z, if_neg z]
  · have : i = 0 := by simpa using hi
    subst this; rfl
theorem own_dgP2 {Z : State} {h : Heap} {vb : Addr} {p : Nat} {g : Nat → Int32} (h1 : 10 ≤ p) (hp : p < 13) (F : own_Fa Z h vb .byte "[B" (fun _ => True) 16 (own_up (own_up (fun y => .int (g y)) 1 (.int (own_on p))) 0 (.int (own_te p)))) : own_Pre Z h vb 16 (own_dg p) := by
  rw [own_dg2 h1 hp]
  refine ⟨fun i => if i = 0 then own_te p else if i = 1 then own_on p else g i, F.congr fun i _ => ?_, Nat.le_of_ble_eq_true rfl, fun i hi => ?_⟩
  · show _ = Value.int (if i = 0 then own_te p else if i = 1 then own_on p else g i)
    by_cases z : i = 0
    · subst z; rw [own_up_same, if_pos rfl]
    · rw [own_up_ne z, if_neg z]
      by_cases y : i = 1
      · subst y; rw [own_up_same, if_pos rfl]
      · rw [own_up_ne y, if_neg y]
  · have : i = 0 ∨ i = 1 := by have : i < 2 := hi; omega
    rcases this with rfl | rfl <;> rfl
theorem own_shr0 {n : Nat} (h : n ≤ 8) : Int32.ofNat n >>> ((0 : Int32) &&& 31) = Int32.ofNat n := (by decide +kernel : ∀ k : Fin 9, Int32.ofNat k.val >>> ((0 : Int32) &&& 31) = Int32.ofNat k.val) ⟨n, by omega⟩
theorem own_shl0 {n : Nat} (h : n ≤ 16) : Int32.ofNat n <<< ((0 : Int32) &&& 31) = Int32.ofNat n := (by decide +kernel : ∀ k : Fin 17, Int32.ofNat k.val <<< ((0 : Int32) &&& 31) = Int32.ofNat k.val) ⟨n, by omega⟩
theorem own_cpPre {Z : State} {h : Heap} {vb : Addr} {N : Nat} {out bs : List Int32} {g : Nat → Int32} (hl : out.length + bs.length ≤ N) (hg : ∀ i, i < out.length → g i = out.getD i 0) (F : own_Fa Z h vb .byte "[B" (fun _ => True) N (own_cpf (fun i => .int (bs.getD i 0)) (fun i => .int (g i)) 0 out.length bs.length)) : own_Pre Z h vb N (out ++ bs) := by
  refine ⟨fun i => if out.length ≤ i ∧ i < out.length + bs.length then bs.getD (0 + (i - out.length)) 0 else g i, F.congr fun i _ => ?_, by rw [List.length_append]; exact hl, fun i hi => ?_⟩
  · show own_cpf _ _ _ _ _ i = Value.int (if _ then _ else _)
    unfold own_cpf
    split <;> rfl
  · rw [List.length_append] at hi
    show (if out.length ≤ i ∧ i < out.length + bs.length then bs.getD (0 + (i - out.length)) 0 else g i) = _
    by_cases q : i < out.length
    · rw [if_neg (by omega), hg i q]; simp only [List.getD_eq_getElem?_getD]; rw [List.getElem?_append_left q]
    · rw [if_pos ⟨by omega, hi⟩]; simp only [List.getD_eq_getElem?_getD]; rw [List.getElem?_append_right (by omega), Nat.zero_add]
def own_Te (Z : State) (h : Heap) (ws : List Addr) : Prop := ∀ x ∈ ws, ∃ C, Exa Z h x C ∧ C ≠ "java/lang/String" ∧ C ≠ "[B"
theorem own_te0 {Z : State} {h : Heap} : own_Te Z h [] := fun x hx => by cases hx
theorem own_teS {Z : State} {h : Heap} {x : Addr} {ws : List Addr} {C : String} (E : Exa Z h x C) (h1 : C ≠ "java/lang/String") (h2 : C ≠ "[B") (r : own_Te Z h ws) : own_Te Z h (x :: ws) := fun y hy => (List.mem_cons.mp hy).elim (fun e => e ▸ ⟨C, E, h1, h2⟩) (r y)
theorem own_SV.keepT {Z : State} {h h' : Heap} {a : Addr} {f : Nat → Int32} {n : Nat} {ws : List Addr} (F : own_SV Z h a f n) (K : Keep h h' ws) (T : own_Te Z h ws) : own_SV Z h' a f n := by
  obtain ⟨A, b, co, v, c, q⟩ := F
  have na : a ∉ ws := fun hm => by obtain ⟨C, E, h1, h2⟩ := T a hm; exact Exa.ne A E (fun e => h1 e.symm) rfl
  have nb : ∀ {x : Addr}, Exa Z h x "[B" → x ∉ ws := fun {x} Ex hm => by obtain ⟨C, E, h1, h2⟩ := T x hm; exact Exa.ne Ex E (fun e => h2 e.symm) rfl
  exact ⟨A.keep K, b, co, v.keep K na, c.keep K na, q.imp (fun ⟨x, y, z⟩ => ⟨x, y, z.keep K (nb z.exa)⟩) (fun ⟨x, y, g, u, z⟩ => ⟨x, y, g, u, z.keep K (nb z.exa)⟩)⟩
theorem own_SL.keepT {Z : State} {h h' : Heap} {a : Addr} {bs : List Int32} {ws : List Addr} (F : own_SL Z h a bs) (K : Keep h h' ws) (T : own_Te Z h ws) : own_SL Z h' a bs := by
  obtain ⟨A, c, b, v, B⟩ := F
  have na : a ∉ ws := fun hm => by obtain ⟨C, E, h1, h2⟩ := T a hm; exact Exa.ne A E (fun e => h1 e.symm) rfl
  have nb : ∀ {x : Addr}, Exa Z h x "[B" → x ∉ ws := fun {x} Ex hm => by obtain ⟨C, E, h1, h2⟩ := T x hm; exact Exa.ne Ex E (fun e => h2 e.symm) rfl
  exact ⟨A.keep K, c.keep K na, b, v.keep K na, B.keep K (nb B.exa)⟩
theorem own_SL0 {Z : State} {h : Heap} {a : Addr} {f : Nat → Int32} (A : Exa Z h a "java/lang/String") {b : Addr} (v : Fld Z h a "java/lang/String" "value" "[B" (.ref b)) (c : Fld Z h a "java/lang/String" "coder" "B" (.int (0 : Int32))) (B : own_Bl Z h b []) : own_SV Z h a f 0 :=
  ⟨A, b, 0, v, c, Or.inl ⟨rfl, fun i hi => absurd hi (Nat.not_lt_zero i), B.pre⟩⟩
theorem own_put_ln4 {cp : Int32} : (own_put cp).length ≤ 4 ∧ (cp < (65536 : Int32) → (own_put cp).length ≤ 3) := by
  unfold own_put
  refine ⟨?_, fun h => ?_⟩
  · split
    · decide
    · split
      · exact Nat.le_of_ble_eq_true rfl
      · split
        · exact Nat.le_of_ble_eq_true rfl
        · split <;> exact Nat.le_of_ble_eq_true rfl
  · split
    · decide
    · split
      · exact Nat.le_of_ble_eq_true rfl
      · split
        · exact Nat.le_of_ble_eq_true rfl
        · exact Nat.le_of_ble_eq_true rfl
theorem own_enc_len {f : Nat → Int32} {n : Nat} (hc : own_Cb f n) : ∀ k i, (own_enc f n k i).length ≤ 3 * (n - i)
  | 0, i => Nat.zero_le _
  | k + 1, i => by
    by_cases hi : i < n
    · rw [own_enc_on hi, List.length_append]
      have ih := own_enc_len hc k (i + own_stp (own_cpAt f n i))
      by_cases p : own_Hi (f i) ∧ i + 1 < n ∧ own_Lo (f (i + 1))
      · have e := own_cpA p.1 p.2.1 p.2.2
        have b := own_cp2b p.1 p.2.2
        have l4 := (own_put_ln4 (cp := own_cpAt f n i)).1
        have s2 : own_stp (own_cpAt f n i) = 2 := by rw [e]; exact if_neg b.2.2.2
        rw [s2] at ih ⊢
        have := p.2.1
        omega
      · have lt : own_cpAt f n i < (65536 : Int32) := by
          by_cases q : own_Su (f i)
          · rw [own_cpB p q]; decide
          · rw [own_cpC q]; exact own_lt65 (hc i hi).2
        have l3 := (own_put_ln4 (cp := own_cpAt f n i)).2 lt
        have s1 : own_stp (own_cpAt f n i) = 1 := if_pos lt
        rw [s1] at ih ⊢
        omega
    · rw [own_enc_end hi]; exact Nat.zero_le _
theorem own_Ec_len {f : Nat → Int32} {n : Nat} (hc : own_Cb f n) (h4 : n ≤ 4) : (own_Ec f n 0).length < 13 := by
  have := own_enc_len hc n 0
  unfold own_Ec
  omega
abbrev own_crlf : List Int32 := [(13 : Int32), (10 : Int32), (13 : Int32), (10 : Int32)]
theorem own_dgpos {p : Nat} (h : p < 13) : (own_dg p ++ own_crlf).length ≤ 6 ∧ ∀ i, i < (own_dg p ++ own_crlf).length → ¬ (own_dg p ++ own_crlf).getD i 0 < (0 : Int32) := by
  have t : ∀ k : Fin 13, (own_dg k.val ++ own_crlf).length ≤ 6 ∧ ∀ i : Fin 6, i.val < (own_dg k.val ++ own_crlf).length → ¬ (own_dg k.val ++ own_crlf).getD i.val 0 < (0 : Int32) := by decide +kernel
  have q := t ⟨p, h⟩
  exact ⟨q.1, fun i hi => q.2 ⟨i, Nat.lt_of_lt_of_le hi q.1⟩ hi⟩
theorem own_cat3 {Z : State} {h : Heap} {b : Addr} {H M C : List Int32} {e : Nat → Value} {N : Nat} (hN : N = H.length + M.length + C.length) (F : own_Fa Z h b .byte "[B" (fun _ => True) N (own_cpf (fun i => .int (C.getD i 0)) (own_cpf (fun i => .int (M.getD i 0)) (own_cpf (fun i => .int (H.getD i 0)) e 0 0 H.length) 0 H.length M.length) 0 (H.length + M.length) C.length)) : own_Bl Z h b ((H ++ M) ++ C) := by
  have hl : ((H ++ M) ++ C).length = N := by rw [List.length_append, List.length_append, hN]
  unfold own_Bl
  rw [hl]
  refine F.congr fun i hi => ?_
  unfold own_cpf
  simp only [List.getD_eq_getElem?_getD]
  by_cases a : i < H.length
  · rw [if_neg (by omega), if_neg (by omega), if_pos ⟨by omega, by omega⟩, List.append_assoc, List.getElem?_append_left a, show 0 + (i - 0) = i by omega]
  · by_cases c : i < H.length + M.length
    · rw [if_neg (by omega), if_pos ⟨by omega, c⟩, List.getElem?_append_left (by rw [List.length_append]; exact c), List.getElem?_append_right (by omega), Nat.zero_add]
    · rw [if_pos ⟨by omega, by omega⟩, List.getElem?_append_right (by rw [List.length_append]; omega), List.length_append, Nat.zero_add]
theorem own_i2cb (x : Int32) : 0 ≤ (x.toUInt32.toUInt16.toUInt32.toInt32).toInt ∧ (x.toUInt32.toUInt16.toUInt32.toInt32).toInt < 65536 := by
  generalize x.toUInt32.toUInt16 = u
  show 0 ≤ (u.toUInt32.toBitVec).toInt ∧ (u.toUInt32.toBitVec).toInt < 65536
  have h : u.toUInt32.toBitVec.toNat = u.toNat := UInt16.toNat_toUInt32 u
  have := u.toNat_lt
  rw [BitVec.toInt_eq_toNat_cond, h]
  split <;> omega
theorem own_narC {c : Int32} (h : 0 ≤ c.toInt ∧ c.toInt < 65536) : nar .char c = c := by
  have e := own_gc h.1 h.2
  rw [← e]
  exact own_narc _
def own_f4 (c0 c1 c2 c3 : Int32) : Nat → Int32 := fun i => if i = 0 then c0 else if i = 1 then c1 else if i = 2 then c2 else c3
theorem own_f4b {c0 c1 c2 c3 : Int32} {n : Nat} (h0 : 0 ≤ c0.toInt ∧ c0.toInt < 65536) (h1 : 0 ≤ c1.toInt ∧ c1.toInt < 65536) (h2 : 0 ≤ c2.toInt ∧ c2.toInt < 65536) (h3 : 0 ≤ c3.toInt ∧ c3.toInt < 65536) : own_Cb (own_f4 c0 c1 c2 c3) n := fun i _ => by
  unfold own_f4
  split
  · exact h0
  · split
    · exact h1
    · split
      · exact h2
      · exact h3
def own_exv (xs : List Int32) (k : Nat) : Int32 := if k < xs.length then xs.getD k 0 else (-1000 : Int32)
theorem own_subN {a b : Nat} (h : b ≤ a) : Int32.ofNat a - Int32.ofNat b = Int32.ofNat (a - b) := by
  have e : Int32.ofNat a = Int32.ofNat (a - b) + Int32.ofNat b := by rw [← Int32.ofNat_add]; congr 1; omega
  rw [e, Int32.add_sub_cancel]
theorem own_exH {H M C : List Int32} {k : Nat} (h : k < H.length) : own_exv ((H ++ M) ++ C) k = H.getD k 0 := by
  unfold own_exv
  rw [if_pos (by simp; omega)]; simp only [List.getD_eq_getElem?_getD]; rw [List.append_assoc, List.getElem?_append_left h]
theorem own_exM {H M C : List Int32} {k : Nat} (h : ¬ k < H.length) (h' : k - H.length < M.length) : own_exv ((H ++ M) ++ C) k = M.getD (k - H.length) 0 := by
  unfold own_exv
  rw [if_pos (by simp; omega)]; simp only [List.getD_eq_getElem?_getD]; rw [List.append_assoc, List.getElem?_append_right (by omega), List.getElem?_append_left h']
theorem own_exC {H M C : List Int32} {k : Nat} (h : ¬ k < H.length) (h' : ¬ k - H.length < M.length) (h3 : k - H.length - M.length < C.length) : own_exv ((H ++ M) ++ C) k = C.getD (k - H.length - M.length) 0 := by
  unfold own_exv
  rw [if_pos (by simp; omega)]; simp only [List.getD_eq_getElem?_getD]; rw [List.append_assoc, List.getElem?_append_right (by omega), List.getElem?_append_right (by omega)]
theorem own_exN {H M C : List Int32} {k : Nat} (h : ¬ k < H.length) (h' : ¬ k - H.length < M.length) (h3 : ¬ k - H.length - M.length < C.length) : own_exv ((H ++ M) ++ C) k = (-1000 : Int32) := by
  unfold own_exv
  exact if_neg (by simp; omega)
theorem own_len3 {H M C : List Int32} : Int32.ofNat ((H ++ M) ++ C).length = (Int32.ofNat H.length + Int32.ofNat M.length) + Int32.ofNat C.length := by
  rw [List.length_append, List.length_append, Int32.ofNat_add, Int32.ofNat_add]
theorem own_andN (x : Int32) (k : Int32) (hk : 0 ≤ k.toInt) : ∃ a : Nat, a < 2147483648 ∧ (x &&& k) = Int32.ofNat a ∧ (a : Int) ≤ k.toInt := by
  have kb : k.toBitVec.msb = false := by rw [BitVec.msb_eq_false_iff_two_mul_lt]; have := Int32.toInt_lt k; rw [← Int32.toInt_toBitVec, BitVec.toInt_eq_toNat_cond] at hk; have := k.toBitVec.isLt; split at hk <;> omega
  have e1 : k.toInt = k.toBitVec.toNat := by rw [← Int32.toInt_toBitVec]; exact BitVec.toInt_eq_toNat_of_msb kb
  have m2 : (x.toBitVec &&& k.toBitVec).msb = false := by rw [BitVec.msb_and, kb, Bool.and_false]
  have e2 : (x &&& k).toInt = (x.toBitVec &&& k.toBitVec).toNat := by rw [← Int32.toInt_toBitVec, Int32.toBitVec_and]; exact BitVec.toInt_eq_toNat_of_msb m2
  have e3 : (x.toBitVec &&& k.toBitVec).toNat ≤ k.toBitVec.toNat := by rw [BitVec.toNat_and]; exact Nat.and_le_right
  have := Int32.toInt_lt k
  refine ⟨(x &&& k).toInt.toNat, by omega, own_asN (by omega), by omega⟩
theorem own_remN {a b : Nat} (ha : a < 2147483648) (hb : b < 2147483648) (h0 : 0 < b) : Int32.ofNat a % Int32.ofNat b = Int32.ofNat (a % b) := by
  apply Int32.toInt_inj.mp
  have := Nat.mod_lt a h0
  rw [Int32.toInt_mod, own_nat32 ha, own_nat32 hb, own_nat32 (by omega), Int.tmod_eq_emod_of_nonneg (by omega)]
  rfl
theorem own_hl (x : Int32) : ∃ a : Nat, a < 3 ∧ ((x &&& (3 : Int32)) % (3 : Int32)) = Int32.ofNat a := by
  obtain ⟨a, h1, h2, h3⟩ := own_andN x 3 (by decide)
  exact ⟨a % 3, Nat.mod_lt _ (by decide), by rw [h2]; exact own_remN (b := 3) h1 (by decide) (by decide)⟩
theorem own_n5 (x : Int32) : ∃ a : Nat, a < 5 ∧ ((x &&& (2147483647 : Int32)) % (5 : Int32)) = Int32.ofNat a := by
  obtain ⟨a, h1, h2, h3⟩ := own_andN x 2147483647 (by decide)
  exact ⟨a % 5, Nat.mod_lt _ (by decide), by rw [h2]; exact own_remN (b := 5) h1 (by decide) (by decide)⟩
theorem own_s26 {s0 s1 s2 s3 s4 s5 s6 s7 s8 s9 s10 s11 s12 s13 s14 s15 s16 s17 s18 s19 s20 s21 s23 s24 s25 u : Slot} {v : Value} (h : own_s1 u) (hv : v.category = 1) : storeLocals #[s0, s1, s2, s3, s4, s5, s6, s7, s8, s9, s10, s11, s12, s13, s14, s15, s16, s17, s18, s19, s20, s21, u, s23, s24, s25] 22 v = some #[s0, s1, s2, s3, s4, s5, s6, s7, s8, s9, s10, s11, s12, s13, s14, s15, s16, s17, s18, s19, s20, s21, .val v, s23, s24, s25] := by
  rcases h with rfl | ⟨x, rfl, hx⟩ <;> simp [storeLocals, storeSelf, setAt, hv, *]

section OwnNine
variable {p : Program} {l : Launch} {e : Env} {R : Room} {s : State} {m : MethodId} {args : Array Value} {below : List Frame} {meth : Method} {c : Code} {T : State} {locs : List Loc} {cells slots : Nat} {G : State → Outcome → Prop} {B : ByteArray} {pc pc' : Nat} {Ls Ls' : Array Slot} {st : List Value} {Z : State} {a0 : Array Value} {h h' h'' : Heap}
theorem own_gP (X : Stand p l e R s m args below meth c T locs cells slots) (hx : p.tables.exec = Jvm.exec) (hby : c.code = B) (hZ : Z.Warmed39 s.vm) (eT : T.heap = h) {a : Addr} {N : Nat} {out : List Int32} {v w : Int32} (F : own_Pre Z h a N out) (hJ : out.length < N) (hw : nar .byte v = w) {J : Int32} (hJe : J = Int32.ofNat out.length) (hd : decode B pc = .ok (.bastore, 1)) (hp : pc + 1 = pc')
    (k : ∀ (T' : State) (h' : Heap), Stand p l e R s m args below meth c T' (locs ++ [⟨a, out.length⟩]) cells slots → T'.heap = h' → Wr h h' a out.length (.int w) → own_Pre Z h' a N (out ++ [w]) → own_E p.tables e below G (T'.setTop (mkF m pc' Ls (st)))) : own_E p.tables e below G (T.setTop (mkF m pc Ls (.int v :: .int J :: .ref a :: st))) := by
  subst hJe
  obtain ⟨g, A, -, r⟩ := F
  exact own_gB X hx hby hZ eT A hJ hw hd hp fun T' h' X' e' W' F' => k T' h' X' e' W' (own_Pre.push A r hJ F')
theorem own_rP (X : Stand p l e R s m args below meth c T locs cells slots) (hx : p.tables.exec = Jvm.exec) (hby : c.code = B) (hZ : Z.Warmed39 s.vm) (eT : T.heap = h) {a : Addr} {N J : Nat} {out : List Int32} {v : Int32} (F : own_Pre Z h a N out) (hJ : J < out.length) (hv : out.getD J 0 = v) (hd : decode B pc = .ok (.baload, 1)) (hp : pc + 1 = pc')
    (k : own_E p.tables e below G (T.setTop (mkF m pc' Ls (.int v :: st)))) : own_E p.tables e below G (T.setTop (mkF m pc Ls (.int (Int32.ofNat J) :: .ref a :: st))) := by
  obtain ⟨g, A, hl, r⟩ := F
  exact own_fB X hx hby hZ eT A (Nat.lt_of_lt_of_le hJ hl) (by rw [r J hJ, hv]) hd hp k
theorem own_lP (X : Stand p l e R s m args below meth c T locs cells slots) (hx : p.tables.exec = Jvm.exec) (hby : c.code = B) (hZ : Z.Warmed39 s.vm) (eT : T.heap = h) {a : Addr} {N : Nat} {out : List Int32} (F : own_Pre Z h a N out) (hd : decode B pc = .ok (.arraylength, 1)) (hp : pc + 1 = pc')
    (k : own_E p.tables e below G (T.setTop (mkF m pc' Ls (.int (Int32.ofNat N) :: st)))) : own_E p.tables e below G (T.setTop (mkF m pc Ls (.ref a :: st))) := by
  obtain ⟨g, A, hl, r⟩ := F
  exact own_fL X hx hby hZ eT A hd hp k
end OwnNine

section OwnTen
variable {p : Program} {l : Launch} {e : Env} {R : Room} {s : State} {m : MethodId} {args : Array Value} {below : List Frame} {meth : Method} {c : Code} {T : State} {locs : List Loc} {cells slots : Nat} {G : State → Outcome → Prop} {B : ByteArray} {pc pc' : Nat} {Ls Ls' : Array Slot} {st : List Value} {Z : State} {a0 : Array Value} {h h' h'' hb0 : Heap} {EL : List (String × Nat)} {vm0 v0 : Vm}
theorem own_bkB {b : Addr} {k : ClassId} {z : Int32} {vs : List Value} {d : Value} (hal : Z.vm.Alike vm0) (B : Bk Z EL vm0 h b) (A : Arv Z h b k .byte z vs d) : Exa Z h b "[B" := by
  obtain ⟨cl, ⟨A1, ⟨-, kA, hkA, compA, hkindA⟩, -⟩, -⟩ := A
  obtain ⟨kA', hkA', ekA⟩ := hal.2.2 _ _ hkA
  obtain ⟨p, -, u, a, -, q, -, F, rfl | rfl⟩ := B
  · cases (show h[q.sa]? = some q.sC from F.ha).symm.trans A1
    obtain ⟨cS, ⟨-, -, e⟩, ⟨kS, g1, g2, -⟩, -⟩ := F
    subst e
    cases (show vm0.classes[q.sC.cls]? = some kS from g1).symm.trans hkA'
    rw [ekA] at g2
    have := hkindA.symm.trans g2
    cases this
  · have hd := F.hd
    obtain ⟨cS, ⟨⟨-, -, -, -, -, -, -, -, -, -, ⟨hst, -⟩, -⟩, -, -⟩, -, hB, -⟩ := F
    have hBZ : Z.vm.findClass "[B" = some q.SA.cls := by rw [← hal.findClass]; exact hB
    cases (show h[q.sd]? = some q.SA from hd).symm.trans A1
    refine ⟨q.SA, kA, hd, hBZ, hkA, ?_, fun ho => ?_⟩
    · cases hv : q.SA.vm with
      | statics k => exact absurd hv (hst k)
      | _ => rfl
    · have := hkindA.symm.trans ho
      cases this
theorem own_ldcS (X : Stand p l e R (s.setVm vm0) m args below meth c T locs cells slots) (hx : p.tables.exec = Jvm.exec) (hby : c.code = B) {own text : String} {index : Nat} (hZ : Z.Warmed39 vm0) (hown : vm0.findClass own = some m.cls) (SN : own_Sn s vm0 h) (A : own_CH Z EL v0 hb0 vm0 h) (hEL : EW Z a0 EL) (wS : ∀ a ∈ Bundle.stringAtoms, a.before a0 Z = true) (w : (Cond.stringLink own index text).before a0 Z = true) (eT : T.heap = h) (hd : decode B pc = .ok (.ldc index, 2)) (hp : pc + 2 = pc') {n : Nat} (hn : 4 * text.toList.length ≤ n) (hbig : n ≤ 536870912) (hc : cells + 2 ≤ R.cells) (hl : slots + (n + 4) ≤ R.slots) (hmem : (own, index) ∈ EL) (bs : List Int32) (ht : (∀ c ∈ text.toList, c.toNat < 256) ∧ text.toList.map (fun c => Value.int (Jvm.Lit.byteI c.toNat.toUInt16)) = bs.map Value.int) (r : bs.length < 2147483648)
    (k : ∀ (T' : State) (vm1 : Vm) (h' : Heap) (a : Addr), Stand p l e R (s.setVm vm1) m args below meth c T' locs (cells + 2) (slots + (n + 4)) → T'.heap = h' → Z.Warmed39 vm1 → vm1.findClass own = some m.cls → own_Sn s vm1 h' → own_CH Z EL v0 hb0 vm1 h' → Ext h h' → own_SL Z h' a bs → own_E p.tables e below G (T'.setTop (mkF m pc' Ls (.ref a :: st)))) : own_E p.tables e below G (T.setTop (mkF m pc Ls st)) := by
  subst hp
  obtain ⟨k0, s1, s2⟩ := SN
  obtain ⟨a, T', h', k1, b, kb, X', e', E', s3, s4, hW, hf, t1, t2, t3, t4, -, -, hC, -, hne, stp⟩ := ldcCH X hx hZ hown w wS eT s1 s2 hEL hmem A.1 ht (own_ipos r) (by rw [own_clamp r]; simp) (g := mkF m pc Ls st) rfl (hb hby hd) hn hbig hc hl
  have hW' : Z.Warmed39 T'.vm := hW
  have EB := own_bkB hW'.alike (Classical.byContradiction fun n => (hne b n).2 rfl) t4
  have VB : own_Bl Z h' b bs := (own_Fa.ofArv (P := fun _ => True) t4 r EB trivial).congr fun i hi => by simp [List.getD_eq_getElem?_getD, hi]
  exact own_go stp (k T' T'.vm h' a X' e' hW hf ⟨k1, s3, s4⟩ (CHr.trans A hC) E' ⟨t1, t2, b, t3, VB⟩)
theorem own_Fa.safe {x : Addr} {ty : FieldType} {ad : String} {P : ClassId → Prop} {N : Nat} {f : Nat → Value} (F : own_Fa Z h x ty ad P N f) (hal : Z.vm.Alike vm0) (ht : ty ≠ .byte) : Safe Z EL vm0 h x := by
  obtain ⟨cl, A, -⟩ := F; exact Safe.arr hal A ht
end OwnTen


theorem own_dig {Z : State} {args a0 : Array Value} {C n d : String} {V : Term} {F : Nat → Int32} {x : Addr} (wa : (Jvm.Cond.arrayClass .byte).before a0 Z = true) (e : (Term.static C n d).eval args Z none [] Z = some (.ref x)) (k2 : (Jvm.Cond.exactly (Term.static C n d) "[B").value args Z none Z [] = some true) (k3 : (Jvm.Cond.eq (.length (Term.static C n d)) (.int (100 : Int32))).value args Z none Z [] = some true)
    (hV : ∀ i, i < 100 → V.eval args Z none [i] Z = some (.int (F i))) (hF : ∀ i, i < 100 → fits .byte (.int (F i)) = true) (k4 : (Jvm.Cond.all (Term.static C n d) (.eq (.elem (Term.static C n d) (.index 0)) V)).value args Z none Z [] = some true) : own_Fa Z Z.heap x .byte "[B" (fun _ => True) 100 (fun i => .int (F i)) := by
  have e' : ∀ idx, (Term.static C n d).eval args Z none idx Z = some (.ref x) := fun idx => by simpa [Term.eval] using e
  have E := Exa.start e k2
  obtain ⟨cell, k, e1, e2, e3, e4, e5⟩ := id E
  obtain ⟨cA, kA, comp, g1, g2, g3⟩ := Cond.arrayClass_spec wa
  have g1' : Z.vm.findClass "[B" = some cA := g1
  cases e2.symm.trans g1'
  cases e3.symm.trans g2
  have l1 := eqv_i (Term.int_eval (100)) k3
  cases ha : Z.arrayAt? x with
  | none => simp [Term.eval, ha] at l1; simp [Term.eval] at e; simp [e, ha] at l1
  | some c =>
    have hu : cell.vm ≠ .unknown := fun q => by simp [State.arrayAt?, e1, e3, q] at ha
    have A0 : Arr Z Z.heap x cell .byte := ⟨e1, ⟨fun k q => (by rw [q] at e4; cases e4), k, e3, comp, g3⟩, hu⟩
    have ha2 : Z.arrayAt? x = some cell := IntBox.arrayAt_of A0.1 A0.2.1 A0.2.2
    cases ha.symm.trans ha2
    have hs : cell.slots.size = 100 := by
      by_cases q : cell.slots.size < 2 ^ 31
      · rw [len_f e ha q] at l1
        have q2 : cell.slots.size.toInt32 = (100 : Int32) := by simpa using l1
        have q3 := congrArg Int32.toInt q2
        have q4 : (cell.slots.size.toInt32).toInt = cell.slots.size := own_nat32 (by omega)
        rw [q4] at q3
        have : (100 : Int32).toInt = 100 := rfl
        omega
      · exfalso; simp [Term.eval] at l1 e; simp [e, ha] at l1; omega
    refine ⟨cell, A0, E, trivial, hs, by decide, fun i hi => ?_, hF⟩
    have ki := Cond.all_elim e ha k4 i (by rw [hs]; exact hi)
    have l2 := eqv_i (hV i hi) ki
    have hx : (Term.index 0).eval args Z none [i] Z = some (.int (Int32.ofNat i)) := by simp [Term.eval]
    rw [elem_f (e' [i]) hx ha (own_ipos (by omega)), own_clamp (by omega)] at l2
    exact l2
theorem own_ond : ∀ i, i < 100 → fits .byte (.int (own_on i)) = true := fun i hi => (by decide +kernel : ∀ k : Fin 100, fits .byte (.int (own_on k.val)) = true) ⟨i, hi⟩
theorem own_ted : ∀ i, i < 100 → fits .byte (.int (own_te i)) = true := fun i hi => (by decide +kernel : ∀ k : Fin 100, fits .byte (.int (own_te k.val)) = true) ⟨i, hi⟩
theorem own_onv {Z : State} {args : Array Value} : ∀ i, i < 100 → (Term.add (Term.int (48 : Int32)) (Term.rem (Term.index 0) (Term.int (10 : Int32)))).eval args Z none [i] Z = some (.int (own_on i)) := fun i hi => by simp [Term.eval, own_on]
theorem own_tev {Z : State} {args : Array Value} : ∀ i, i < 100 → (Term.add (Term.int (48 : Int32)) (Term.div (Term.index 0) (Term.int (10 : Int32)))).eval args Z none [i] Z = some (.int (own_te i)) := fun i hi => by simp [Term.eval, own_te]

theorem own_eqr {Z : State} {args : Array Value} {X F : Term} {idx : List Nat} {y : Addr} (hF : F.eval args Z none idx Z = some (.ref y)) (h : (Jvm.Cond.eq X F).value args Z none Z idx = some true) : X.eval args Z none idx Z = some (.ref y) := by
  cases hX : X.eval args Z none idx Z with
  | none => simp [Cond.value, hX, hF] at h
  | some x => cases x <;> simp [Cond.value, hX, hF] at h ⊢; exact h
section OwnWords
variable {Z : State} {a0 : Array Value}
abbrev own_HW (Z : State) (a0 : Array Value) : Prop := ∀ d ∈ tables_1, d.before a0 Z = true
theorem own_mw (hw : own_HW Z a0) {c : Cond} (i : Nat) (h : tables_1[i]? = some c) : c.before a0 Z = true := hw _ (List.mem_of_getElem? h)
theorem ow_0 (hw : own_HW Z a0) : (Jvm.Cond.arrayClass Jvm.ClassFile.FieldType.byte).before a0 Z = true := own_mw hw 0 rfl
theorem ow_1 (hw : own_HW Z a0) : (Jvm.Cond.constant "com/example/reservation/reservation/server/TargetRequestPinLaw" 7 (2147483647 : Int32)).before a0 Z = true := own_mw hw 1 rfl
theorem ow_2 (hw : own_HW Z a0) : (Jvm.Cond.methodLink "com/example/reservation/reservation/server/TargetRequestPinLaw" 8 ⟨"com/example/reservation/reservation/server/TargetRequestPinLaw", "shape", "(CI)C"⟩).before a0 Z = true := own_mw hw 2 rfl
theorem ow_3 (hw : own_HW Z a0) : (Jvm.Cond.static ⟨"com/example/reservation/reservation/server/TargetRequestPinLaw", "shape", "(CI)C"⟩).before a0 Z = true := own_mw hw 3 rfl
theorem ow_4 (hw : own_HW Z a0) : (Jvm.Cond.initialized "com/example/reservation/reservation/server/TargetRequestPinLaw").before a0 Z = true := own_mw hw 4 rfl
theorem ow_5 (hw : own_HW Z a0) : (Jvm.Cond.code ⟨"com/example/reservation/reservation/server/TargetRequestPinLaw", "shape", "(CI)C"⟩ method_3_code 3 (Option.some Jvm.ClassFile.FieldType.char)).before a0 Z = true := own_mw hw 5 rfl
theorem ow_6 (hw : own_HW Z a0) : (Jvm.Cond.arrayClass Jvm.ClassFile.FieldType.char).before a0 Z = true := own_mw hw 6 rfl
theorem ow_7 (hw : own_HW Z a0) : (Jvm.Cond.classLink "com/example/reservation/reservation/server/TargetRequestPinLaw" 14 "java/lang/String").before a0 Z = true := own_mw hw 7 rfl
theorem ow_8 (hw : own_HW Z a0) : (Jvm.Cond.instantiable "java/lang/String" 4).before a0 Z = true := own_mw hw 8 rfl
theorem ow_9 (hw : own_HW Z a0) : (Jvm.Cond.initialized "java/lang/String").before a0 Z = true := own_mw hw 9 rfl
theorem ow_10 (hw : own_HW Z a0) : (Jvm.Cond.methodLink "com/example/reservation/reservation/server/TargetRequestPinLaw" 16 ⟨"java/lang/String", "<init>", "([C)V"⟩).before a0 Z = true := own_mw hw 10 rfl
theorem ow_11 (hw : own_HW Z a0) : (Jvm.Cond.instanceMethod ⟨"java/lang/String", "<init>", "([C)V"⟩).before a0 Z = true := own_mw hw 11 rfl
theorem ow_12 (hw : own_HW Z a0) : (Jvm.Cond.code ⟨"java/lang/String", "<init>", "([C)V"⟩ jdk_42_method_3_code 2 (Option.none : Option Jvm.ClassFile.FieldType)).before a0 Z = true := own_mw hw 12 rfl
theorem ow_13 (hw : own_HW Z a0) : (Jvm.Cond.methodLink "java/lang/String" 27 ⟨"java/lang/String", "<init>", "([CIILjava/lang/Void;)V"⟩).before a0 Z = true := own_mw hw 13 rfl
theorem ow_14 (hw : own_HW Z a0) : (Jvm.Cond.instanceMethod ⟨"java/lang/String", "<init>", "([CIILjava/lang/Void;)V"⟩).before a0 Z = true := own_mw hw 14 rfl
theorem ow_16 (hw : own_HW Z a0) : (Jvm.Cond.code ⟨"java/lang/String", "<init>", "([CIILjava/lang/Void;)V"⟩ jdk_42_method_149_code 6 (Option.none : Option Jvm.ClassFile.FieldType)).before a0 Z = true := own_mw hw 16 rfl
theorem ow_17 (hw : own_HW Z a0) : (Jvm.Cond.methodLink "java/lang/String" 1 ⟨"java/lang/Object", "<init>", "()V"⟩).before a0 Z = true := own_mw hw 17 rfl
theorem ow_18 (hw : own_HW Z a0) : (Jvm.Cond.instanceMethod ⟨"java/lang/Object", "<init>", "()V"⟩).before a0 Z = true := own_mw hw 18 rfl
theorem ow_19 (hw : own_HW Z a0) : (Jvm.Cond.code ⟨"java/lang/Object", "<init>", "()V"⟩ object_method_1_code 1 (Option.none : Option Jvm.ClassFile.FieldType)).before a0 Z = true := own_mw hw 19 rfl
theorem ow_20 (hw : own_HW Z a0) : (Jvm.Cond.stringLink "java/lang/String" 7 "").before a0 Z = true := own_mw hw 20 rfl
theorem ow_21 (hw : own_HW Z a0) : (Jvm.Cond.laysFinal "java/lang/String" "java/lang/String" "value" "[B").before a0 Z = true := own_mw hw 21 rfl
theorem ow_22 (hw : own_HW Z a0) : (Jvm.Cond.laysFinal "java/lang/String" "java/lang/String" "coder" "B").before a0 Z = true := own_mw hw 22 rfl
theorem ow_25 (hw : own_HW Z a0) : (Jvm.Cond.fieldLink "java/lang/String" 9 "java/lang/String" "value" "[B").before a0 Z = true := own_mw hw 25 rfl
theorem ow_26 (hw : own_HW Z a0) : (Jvm.Cond.fieldLink "java/lang/String" 15 "java/lang/String" "coder" "B").before a0 Z = true := own_mw hw 26 rfl
theorem ow_27 (hw : own_HW Z a0) : (Jvm.Cond.classLink "com/example/reservation/reservation/server/TargetRequestPinLaw" 19 "com/example/reservation/reservation/server/CallbackConnection$Target").before a0 Z = true := own_mw hw 27 rfl
theorem ow_28 (hw : own_HW Z a0) : (Jvm.Cond.instantiable "com/example/reservation/reservation/server/CallbackConnection$Target" 5).before a0 Z = true := own_mw hw 28 rfl
theorem ow_29 (hw : own_HW Z a0) : (Jvm.Cond.initialized "com/example/reservation/reservation/server/CallbackConnection$Target").before a0 Z = true := own_mw hw 29 rfl
theorem ow_30 (hw : own_HW Z a0) : (Jvm.Cond.stringLink "com/example/reservation/reservation/server/TargetRequestPinLaw" 21 "http://a:80").before a0 Z = true := own_mw hw 30 rfl
theorem ow_31 (hw : own_HW Z a0) : (Jvm.Cond.stringLink "com/example/reservation/reservation/server/TargetRequestPinLaw" 23 "a").before a0 Z = true := own_mw hw 31 rfl
theorem ow_32 (hw : own_HW Z a0) : (Jvm.Cond.methodLink "com/example/reservation/reservation/server/TargetRequestPinLaw" 25 ⟨"com/example/reservation/reservation/server/CallbackConnection$Target", "<init>", "(Ljava/lang/String;Ljava/lang/String;IZ[B)V"⟩).before a0 Z = true := own_mw hw 32 rfl
theorem ow_33 (hw : own_HW Z a0) : (Jvm.Cond.instanceMethod ⟨"com/example/reservation/reservation/server/CallbackConnection$Target", "<init>", "(Ljava/lang/String;Ljava/lang/String;IZ[B)V"⟩).before a0 Z = true := own_mw hw 33 rfl
theorem ow_34 (hw : own_HW Z a0) : (Jvm.Cond.code ⟨"com/example/reservation/reservation/server/CallbackConnection$Target", "<init>", "(Ljava/lang/String;Ljava/lang/String;IZ[B)V"⟩ prog_65_method_1_code 6 (Option.none : Option Jvm.ClassFile.FieldType)).before a0 Z = true := own_mw hw 34 rfl
theorem ow_35 (hw : own_HW Z a0) : (Jvm.Cond.methodLink "com/example/reservation/reservation/server/CallbackConnection$Target" 1 ⟨"java/lang/Record", "<init>", "()V"⟩).before a0 Z = true := own_mw hw 35 rfl
theorem ow_36 (hw : own_HW Z a0) : (Jvm.Cond.instanceMethod ⟨"java/lang/Record", "<init>", "()V"⟩).before a0 Z = true := own_mw hw 36 rfl
theorem ow_38 (hw : own_HW Z a0) : (Jvm.Cond.initialized "java/lang/Record").before a0 Z = true := own_mw hw 38 rfl
theorem ow_39 (hw : own_HW Z a0) : (Jvm.Cond.code ⟨"java/lang/Record", "<init>", "()V"⟩ jdk_30_method_1_code 1 (Option.none : Option Jvm.ClassFile.FieldType)).before a0 Z = true := own_mw hw 39 rfl
theorem ow_40 (hw : own_HW Z a0) : (Jvm.Cond.methodLink "java/lang/Record" 1 ⟨"java/lang/Object", "<init>", "()V"⟩).before a0 Z = true := own_mw hw 40 rfl
theorem ow_41 (hw : own_HW Z a0) : (Jvm.Cond.fieldLink "com/example/reservation/reservation/server/CallbackConnection$Target" 7 "com/example/reservation/reservation/server/CallbackConnection$Target" "endpoint" "Ljava/lang/String;").before a0 Z = true := own_mw hw 41 rfl
theorem ow_42 (hw : own_HW Z a0) : (Jvm.Cond.laysFinal "com/example/reservation/reservation/server/CallbackConnection$Target" "com/example/reservation/reservation/server/CallbackConnection$Target" "endpoint" "Ljava/lang/String;").before a0 Z = true := own_mw hw 42 rfl
theorem ow_43 (hw : own_HW Z a0) : (Jvm.Cond.fieldLink "com/example/reservation/reservation/server/CallbackConnection$Target" 13 "com/example/reservation/reservation/server/CallbackConnection$Target" "host" "Ljava/lang/String;").before a0 Z = true := own_mw hw 43 rfl
theorem ow_44 (hw : own_HW Z a0) : (Jvm.Cond.laysFinal "com/example/reservation/reservation/server/CallbackConnection$Target" "com/example/reservation/reservation/server/CallbackConnection$Target" "host" "Ljava/lang/String;").before a0 Z = true := own_mw hw 44 rfl
theorem ow_45 (hw : own_HW Z a0) : (Jvm.Cond.fieldLink "com/example/reservation/reservation/server/CallbackConnection$Target" 16 "com/example/reservation/reservation/server/CallbackConnection$Target" "port" "I").before a0 Z = true := own_mw hw 45 rfl
theorem ow_46 (hw : own_HW Z a0) : (Jvm.Cond.laysFinal "com/example/reservation/reservation/server/CallbackConnection$Target" "com/example/reservation/reservation/server/CallbackConnection$Target" "port" "I").before a0 Z = true := own_mw hw 46 rfl
theorem ow_47 (hw : own_HW Z a0) : (Jvm.Cond.fieldLink "com/example/reservation/reservation/server/CallbackConnection$Target" 20 "com/example/reservation/reservation/server/CallbackConnection$Target" "secure" "Z").before a0 Z = true := own_mw hw 47 rfl
theorem ow_48 (hw : own_HW Z a0) : (Jvm.Cond.laysFinal "com/example/reservation/reservation/server/CallbackConnection$Target" "com/example/reservation/reservation/server/CallbackConnection$Target" "secure" "Z").before a0 Z = true := own_mw hw 48 rfl
theorem ow_49 (hw : own_HW Z a0) : (Jvm.Cond.fieldLink "com/example/reservation/reservation/server/CallbackConnection$Target" 24 "com/example/reservation/reservation/server/CallbackConnection$Target" "head" "[B").before a0 Z = true := own_mw hw 49 rfl
theorem ow_50 (hw : own_HW Z a0) : (Jvm.Cond.laysFinal "com/example/reservation/reservation/server/CallbackConnection$Target" "com/example/reservation/reservation/server/CallbackConnection$Target" "head" "[B").before a0 Z = true := own_mw hw 50 rfl
theorem ow_51 (hw : own_HW Z a0) : (Jvm.Cond.methodLink "com/example/reservation/reservation/server/TargetRequestPinLaw" 28 ⟨"com/example/reservation/reservation/server/CallbackConnection$Target", "request", "(Ljava/lang/String;)[B"⟩).before a0 Z = true := own_mw hw 51 rfl
theorem ow_52 (hw : own_HW Z a0) : (Jvm.Cond.declares ⟨"com/example/reservation/reservation/server/CallbackConnection$Target", "request", "(Ljava/lang/String;)[B"⟩).before a0 Z = true := own_mw hw 52 rfl
theorem ow_53 (hw : own_HW Z a0) : (Jvm.Cond.instanceMethod ⟨"com/example/reservation/reservation/server/CallbackConnection$Target", "request", "(Ljava/lang/String;)[B"⟩).before a0 Z = true := own_mw hw 53 rfl
theorem ow_54 (hw : own_HW Z a0) : (Jvm.Cond.selects "com/example/reservation/reservation/server/CallbackConnection$Target" ⟨"com/example/reservation/reservation/server/CallbackConnection$Target", "request", "(Ljava/lang/String;)[B"⟩ ⟨"com/example/reservation/reservation/server/CallbackConnection$Target", "request", "(Ljava/lang/String;)[B"⟩).before a0 Z = true := own_mw hw 54 rfl
theorem ow_55 (hw : own_HW Z a0) : (Jvm.Cond.code ⟨"com/example/reservation/reservation/server/CallbackConnection$Target", "request", "(Ljava/lang/String;)[B"⟩ prog_65_method_3_code 5 (Option.some (Jvm.ClassFile.FieldType.array Jvm.ClassFile.FieldType.byte))).before a0 Z = true := own_mw hw 55 rfl
theorem ow_56 (hw : own_HW Z a0) : (Jvm.Cond.fieldLink "com/example/reservation/reservation/server/CallbackConnection$Target" 141 "java/nio/charset/StandardCharsets" "UTF_8" "Ljava/nio/charset/Charset;").before a0 Z = true := own_mw hw 56 rfl
theorem ow_58 (hw : own_HW Z a0) : (Jvm.Cond.methodLink "com/example/reservation/reservation/server/CallbackConnection$Target" 134 ⟨"java/lang/String", "getBytes", "(Ljava/nio/charset/Charset;)[B"⟩).before a0 Z = true := own_mw hw 58 rfl
theorem ow_59 (hw : own_HW Z a0) : (Jvm.Cond.declares ⟨"java/lang/String", "getBytes", "(Ljava/nio/charset/Charset;)[B"⟩).before a0 Z = true := own_mw hw 59 rfl
theorem ow_60 (hw : own_HW Z a0) : (Jvm.Cond.instanceMethod ⟨"java/lang/String", "getBytes", "(Ljava/nio/charset/Charset;)[B"⟩).before a0 Z = true := own_mw hw 60 rfl
theorem ow_61 (hw : own_HW Z a0) : (Jvm.Cond.selects "java/lang/String" ⟨"java/lang/String", "getBytes", "(Ljava/nio/charset/Charset;)[B"⟩ ⟨"java/lang/String", "getBytes", "(Ljava/nio/charset/Charset;)[B"⟩).before a0 Z = true := own_mw hw 61 rfl
theorem ow_62 (hw : own_HW Z a0) : (Jvm.Cond.code ⟨"java/lang/String", "getBytes", "(Ljava/nio/charset/Charset;)[B"⟩ jdk_42_method_64_code 2 (Option.some (Jvm.ClassFile.FieldType.array Jvm.ClassFile.FieldType.byte))).before a0 Z = true := own_mw hw 62 rfl
theorem ow_63 (hw : own_HW Z a0) : (Jvm.Cond.methodLink "java/lang/String" 335 ⟨"java/lang/String", "coder", "()B"⟩).before a0 Z = true := own_mw hw 63 rfl
theorem ow_64 (hw : own_HW Z a0) : (Jvm.Cond.declares ⟨"java/lang/String", "coder", "()B"⟩).before a0 Z = true := own_mw hw 64 rfl
theorem ow_65 (hw : own_HW Z a0) : (Jvm.Cond.instanceMethod ⟨"java/lang/String", "coder", "()B"⟩).before a0 Z = true := own_mw hw 65 rfl
theorem ow_66 (hw : own_HW Z a0) : (Jvm.Cond.selects "java/lang/String" ⟨"java/lang/String", "coder", "()B"⟩ ⟨"java/lang/String", "coder", "()B"⟩).before a0 Z = true := own_mw hw 66 rfl
theorem ow_67 (hw : own_HW Z a0) : (Jvm.Cond.code ⟨"java/lang/String", "coder", "()B"⟩ jdk_42_method_152_code 1 (Option.some Jvm.ClassFile.FieldType.byte)).before a0 Z = true := own_mw hw 67 rfl
theorem ow_68 (hw : own_HW Z a0) : (Jvm.Cond.fieldLink "java/lang/String" 38 "java/lang/String" "COMPACT_STRINGS" "Z").before a0 Z = true := own_mw hw 68 rfl
theorem ow_69 (hw : own_HW Z a0) : (Jvm.Cond.methodLink "java/lang/String" 535 ⟨"java/lang/String", "encode", "(Ljava/nio/charset/Charset;B[B)[B"⟩).before a0 Z = true := own_mw hw 69 rfl
theorem ow_70 (hw : own_HW Z a0) : (Jvm.Cond.static ⟨"java/lang/String", "encode", "(Ljava/nio/charset/Charset;B[B)[B"⟩).before a0 Z = true := own_mw hw 70 rfl
theorem ow_71 (hw : own_HW Z a0) : (Jvm.Cond.code ⟨"java/lang/String", "encode", "(Ljava/nio/charset/Charset;B[B)[B"⟩ jdk_42_method_18_code 3 (Option.some (Jvm.ClassFile.FieldType.array Jvm.ClassFile.FieldType.byte))).before a0 Z = true := own_mw hw 71 rfl
theorem ow_72 (hw : own_HW Z a0) : (Jvm.Cond.fieldLink "java/lang/String" 86 "sun/nio/cs/UTF_8" "INSTANCE" "Lsun/nio/cs/UTF_8;").before a0 Z = true := own_mw hw 72 rfl
theorem ow_74 (hw : own_HW Z a0) : (Jvm.Cond.methodLink "java/lang/String" 252 ⟨"java/lang/String", "encodeUTF8", "(B[BZ)[B"⟩).before a0 Z = true := own_mw hw 74 rfl
theorem ow_75 (hw : own_HW Z a0) : (Jvm.Cond.static ⟨"java/lang/String", "encodeUTF8", "(B[BZ)[B"⟩).before a0 Z = true := own_mw hw 75 rfl
theorem ow_76 (hw : own_HW Z a0) : (Jvm.Cond.code ⟨"java/lang/String", "encodeUTF8", "(B[BZ)[B"⟩ jdk_42_method_46_code 9 (Option.some (Jvm.ClassFile.FieldType.array Jvm.ClassFile.FieldType.byte))).before a0 Z = true := own_mw hw 76 rfl
theorem ow_77 (hw : own_HW Z a0) : (Jvm.Cond.methodLink "java/lang/String" 128 ⟨"java/lang/StringCoding", "hasNegatives", "([BII)Z"⟩).before a0 Z = true := own_mw hw 77 rfl
theorem ow_78 (hw : own_HW Z a0) : (Jvm.Cond.static ⟨"java/lang/StringCoding", "hasNegatives", "([BII)Z"⟩).before a0 Z = true := own_mw hw 78 rfl
theorem ow_79 (hw : own_HW Z a0) : (Jvm.Cond.initialized "java/lang/StringCoding").before a0 Z = true := own_mw hw 79 rfl
theorem ow_80 (hw : own_HW Z a0) : (Jvm.Cond.code ⟨"java/lang/StringCoding", "hasNegatives", "([BII)Z"⟩ jdk_123_method_2_code 3 (Option.some Jvm.ClassFile.FieldType.boolean)).before a0 Z = true := own_mw hw 80 rfl
theorem ow_81 (hw : own_HW Z a0) : (Jvm.Cond.methodLink "java/lang/StringCoding" 7 ⟨"java/lang/StringCoding", "countPositives", "([BII)I"⟩).before a0 Z = true := own_mw hw 81 rfl
theorem ow_82 (hw : own_HW Z a0) : (Jvm.Cond.static ⟨"java/lang/StringCoding", "countPositives", "([BII)I"⟩).before a0 Z = true := own_mw hw 82 rfl
theorem ow_83 (hw : own_HW Z a0) : (Jvm.Cond.code ⟨"java/lang/StringCoding", "countPositives", "([BII)I"⟩ jdk_123_method_3_code 5 (Option.some Jvm.ClassFile.FieldType.int)).before a0 Z = true := own_mw hw 83 rfl
theorem ow_84 (hw : own_HW Z a0) : (Jvm.Cond.methodLink "java/lang/String" 279 ⟨"[B", "clone", "()Ljava/lang/Object;"⟩).before a0 Z = true := own_mw hw 84 rfl
theorem ow_85 (hw : own_HW Z a0) : (Jvm.Cond.sameMethod "[B" "java/lang/Object" "clone" "()Ljava/lang/Object;").before a0 Z = true := own_mw hw 85 rfl
theorem ow_87 (hw : own_HW Z a0) : (Jvm.Cond.instanceMethod ⟨"java/lang/Object", "clone", "()Ljava/lang/Object;"⟩).before a0 Z = true := own_mw hw 87 rfl
theorem ow_88 (hw : own_HW Z a0) : (Jvm.Cond.selects "[B" ⟨"[B", "clone", "()Ljava/lang/Object;"⟩ ⟨"java/lang/Object", "clone", "()Ljava/lang/Object;"⟩).before a0 Z = true := own_mw hw 88 rfl
theorem ow_89 (hw : own_HW Z a0) : (Jvm.Cond.native ⟨"java/lang/Object", "clone", "()Ljava/lang/Object;"⟩).before a0 Z = true := own_mw hw 89 rfl
theorem ow_90 (hw : own_HW Z a0) : (Jvm.Cond.castable "[B" "java/lang/Cloneable").before a0 Z = true := own_mw hw 90 rfl
theorem ow_91 (hw : own_HW Z a0) : (Jvm.Cond.classLink "java/lang/String" 280 "[B").before a0 Z = true := own_mw hw 91 rfl
theorem ow_93 (hw : own_HW Z a0) : (Jvm.Cond.classLink "com/example/reservation/reservation/server/CallbackConnection$Target" 67 "java/lang/StringBuilder").before a0 Z = true := own_mw hw 93 rfl
theorem ow_94 (hw : own_HW Z a0) : (Jvm.Cond.instantiable "java/lang/StringBuilder" 4).before a0 Z = true := own_mw hw 94 rfl
theorem ow_95 (hw : own_HW Z a0) : (Jvm.Cond.initialized "java/lang/StringBuilder").before a0 Z = true := own_mw hw 95 rfl
theorem ow_96 (hw : own_HW Z a0) : (Jvm.Cond.methodLink "com/example/reservation/reservation/server/CallbackConnection$Target" 69 ⟨"java/lang/StringBuilder", "<init>", "()V"⟩).before a0 Z = true := own_mw hw 96 rfl
theorem ow_97 (hw : own_HW Z a0) : (Jvm.Cond.instanceMethod ⟨"java/lang/StringBuilder", "<init>", "()V"⟩).before a0 Z = true := own_mw hw 97 rfl
theorem ow_98 (hw : own_HW Z a0) : (Jvm.Cond.code ⟨"java/lang/StringBuilder", "<init>", "()V"⟩ jdk_67_method_1_code 1 (Option.none : Option Jvm.ClassFile.FieldType)).before a0 Z = true := own_mw hw 98 rfl
theorem ow_99 (hw : own_HW Z a0) : (Jvm.Cond.methodLink "java/lang/StringBuilder" 1 ⟨"java/lang/AbstractStringBuilder", "<init>", "(I)V"⟩).before a0 Z = true := own_mw hw 99 rfl
theorem ow_100 (hw : own_HW Z a0) : (Jvm.Cond.instanceMethod ⟨"java/lang/AbstractStringBuilder", "<init>", "(I)V"⟩).before a0 Z = true := own_mw hw 100 rfl
theorem ow_103 (hw : own_HW Z a0) : (Jvm.Cond.initialized "java/lang/AbstractStringBuilder").before a0 Z = true := own_mw hw 103 rfl
theorem ow_104 (hw : own_HW Z a0) : (Jvm.Cond.code ⟨"java/lang/AbstractStringBuilder", "<init>", "(I)V"⟩ jdk_68_method_2_code 2 (Option.none : Option Jvm.ClassFile.FieldType)).before a0 Z = true := own_mw hw 104 rfl
theorem ow_105 (hw : own_HW Z a0) : (Jvm.Cond.methodLink "java/lang/AbstractStringBuilder" 3 ⟨"java/lang/Object", "<init>", "()V"⟩).before a0 Z = true := own_mw hw 105 rfl
theorem ow_106 (hw : own_HW Z a0) : (Jvm.Cond.fieldLink "java/lang/AbstractStringBuilder" 18 "java/lang/String" "COMPACT_STRINGS" "Z").before a0 Z = true := own_mw hw 106 rfl
theorem ow_107 (hw : own_HW Z a0) : (Jvm.Cond.fieldLink "java/lang/AbstractStringBuilder" 15 "java/lang/AbstractStringBuilder" "value" "[B").before a0 Z = true := own_mw hw 107 rfl
theorem ow_108 (hw : own_HW Z a0) : (Jvm.Cond.lays "java/lang/StringBuilder" "java/lang/AbstractStringBuilder" "value" "[B").before a0 Z = true := own_mw hw 108 rfl
theorem ow_109 (hw : own_HW Z a0) : (Jvm.Cond.fieldLink "java/lang/AbstractStringBuilder" 22 "java/lang/AbstractStringBuilder" "coder" "B").before a0 Z = true := own_mw hw 109 rfl
theorem ow_110 (hw : own_HW Z a0) : (Jvm.Cond.lays "java/lang/StringBuilder" "java/lang/AbstractStringBuilder" "coder" "B").before a0 Z = true := own_mw hw 110 rfl
theorem ow_111 (hw : own_HW Z a0) : (Jvm.Cond.methodLink "com/example/reservation/reservation/server/CallbackConnection$Target" 108 ⟨"java/lang/StringBuilder", "append", "(I)Ljava/lang/StringBuilder;"⟩).before a0 Z = true := own_mw hw 111 rfl
theorem ow_112 (hw : own_HW Z a0) : (Jvm.Cond.declares ⟨"java/lang/StringBuilder", "append", "(I)Ljava/lang/StringBuilder;"⟩).before a0 Z = true := own_mw hw 112 rfl
theorem ow_113 (hw : own_HW Z a0) : (Jvm.Cond.instanceMethod ⟨"java/lang/StringBuilder", "append", "(I)Ljava/lang/StringBuilder;"⟩).before a0 Z = true := own_mw hw 113 rfl
theorem ow_114 (hw : own_HW Z a0) : (Jvm.Cond.selects "java/lang/StringBuilder" ⟨"java/lang/StringBuilder", "append", "(I)Ljava/lang/StringBuilder;"⟩ ⟨"java/lang/StringBuilder", "append", "(I)Ljava/lang/StringBuilder;"⟩).before a0 Z = true := own_mw hw 114 rfl
theorem ow_115 (hw : own_HW Z a0) : (Jvm.Cond.code ⟨"java/lang/StringBuilder", "append", "(I)Ljava/lang/StringBuilder;"⟩ jdk_67_method_15_code 2 (Option.some (Jvm.ClassFile.FieldType.object "java/lang/StringBuilder"))).before a0 Z = true := own_mw hw 115 rfl
theorem ow_116 (hw : own_HW Z a0) : (Jvm.Cond.methodLink "java/lang/StringBuilder" 53 ⟨"java/lang/AbstractStringBuilder", "append", "(I)Ljava/lang/AbstractStringBuilder;"⟩).before a0 Z = true := own_mw hw 116 rfl
theorem ow_117 (hw : own_HW Z a0) : (Jvm.Cond.instanceMethod ⟨"java/lang/AbstractStringBuilder", "append", "(I)Ljava/lang/AbstractStringBuilder;"⟩).before a0 Z = true := own_mw hw 117 rfl
theorem ow_118 (hw : own_HW Z a0) : (Jvm.Cond.superclass "java/lang/StringBuilder" "java/lang/AbstractStringBuilder").before a0 Z = true := own_mw hw 118 rfl
theorem ow_119 (hw : own_HW Z a0) : (Jvm.Cond.declares ⟨"java/lang/AbstractStringBuilder", "append", "(I)Ljava/lang/AbstractStringBuilder;"⟩).before a0 Z = true := own_mw hw 119 rfl
theorem ow_120 (hw : own_HW Z a0) : (Jvm.Cond.code ⟨"java/lang/AbstractStringBuilder", "append", "(I)Ljava/lang/AbstractStringBuilder;"⟩ jdk_68_method_32_code 4 (Option.some (Jvm.ClassFile.FieldType.object "java/lang/AbstractStringBuilder"))).before a0 Z = true := own_mw hw 120 rfl
theorem ow_121 (hw : own_HW Z a0) : (Jvm.Cond.fieldLink "java/lang/AbstractStringBuilder" 79 "java/lang/AbstractStringBuilder" "count" "I").before a0 Z = true := own_mw hw 121 rfl
theorem ow_122 (hw : own_HW Z a0) : (Jvm.Cond.lays "java/lang/StringBuilder" "java/lang/AbstractStringBuilder" "count" "I").before a0 Z = true := own_mw hw 122 rfl
theorem ow_123 (hw : own_HW Z a0) : (Jvm.Cond.methodLink "java/lang/AbstractStringBuilder" 245 ⟨"java/lang/Integer", "stringSize", "(I)I"⟩).before a0 Z = true := own_mw hw 123 rfl
theorem ow_124 (hw : own_HW Z a0) : (Jvm.Cond.static ⟨"java/lang/Integer", "stringSize", "(I)I"⟩).before a0 Z = true := own_mw hw 124 rfl
theorem ow_125 (hw : own_HW Z a0) : (Jvm.Cond.initialized "java/lang/Integer").before a0 Z = true := own_mw hw 125 rfl
theorem ow_126 (hw : own_HW Z a0) : (Jvm.Cond.code ⟨"java/lang/Integer", "stringSize", "(I)I"⟩ jdk_33_method_13_code 4 (Option.some Jvm.ClassFile.FieldType.int)).before a0 Z = true := own_mw hw 126 rfl
theorem ow_127 (hw : own_HW Z a0) : (Jvm.Cond.methodLink "java/lang/AbstractStringBuilder" 100 ⟨"java/lang/AbstractStringBuilder", "ensureCapacityInternal", "(I)V"⟩).before a0 Z = true := own_mw hw 127 rfl
theorem ow_128 (hw : own_HW Z a0) : (Jvm.Cond.instanceMethod ⟨"java/lang/AbstractStringBuilder", "ensureCapacityInternal", "(I)V"⟩).before a0 Z = true := own_mw hw 128 rfl
theorem ow_129 (hw : own_HW Z a0) : (Jvm.Cond.privateMethod ⟨"java/lang/AbstractStringBuilder", "ensureCapacityInternal", "(I)V"⟩).before a0 Z = true := own_mw hw 129 rfl
theorem ow_130 (hw : own_HW Z a0) : (Jvm.Cond.selects "java/lang/StringBuilder" ⟨"java/lang/AbstractStringBuilder", "ensureCapacityInternal", "(I)V"⟩ ⟨"java/lang/AbstractStringBuilder", "ensureCapacityInternal", "(I)V"⟩).before a0 Z = true := own_mw hw 130 rfl
theorem ow_131 (hw : own_HW Z a0) : (Jvm.Cond.code ⟨"java/lang/AbstractStringBuilder", "ensureCapacityInternal", "(I)V"⟩ jdk_68_method_9_code 3 (Option.none : Option Jvm.ClassFile.FieldType)).before a0 Z = true := own_mw hw 131 rfl
theorem ow_132 (hw : own_HW Z a0) : (Jvm.Cond.methodLink "java/lang/AbstractStringBuilder" 83 ⟨"java/lang/AbstractStringBuilder", "isLatin1", "()Z"⟩).before a0 Z = true := own_mw hw 132 rfl
theorem ow_133 (hw : own_HW Z a0) : (Jvm.Cond.declares ⟨"java/lang/AbstractStringBuilder", "isLatin1", "()Z"⟩).before a0 Z = true := own_mw hw 133 rfl
theorem ow_134 (hw : own_HW Z a0) : (Jvm.Cond.instanceMethod ⟨"java/lang/AbstractStringBuilder", "isLatin1", "()Z"⟩).before a0 Z = true := own_mw hw 134 rfl
theorem ow_135 (hw : own_HW Z a0) : (Jvm.Cond.selects "java/lang/StringBuilder" ⟨"java/lang/AbstractStringBuilder", "isLatin1", "()Z"⟩ ⟨"java/lang/AbstractStringBuilder", "isLatin1", "()Z"⟩).before a0 Z = true := own_mw hw 135 rfl
theorem ow_136 (hw : own_HW Z a0) : (Jvm.Cond.code ⟨"java/lang/AbstractStringBuilder", "isLatin1", "()Z"⟩ jdk_68_method_68_code 1 (Option.some Jvm.ClassFile.FieldType.boolean)).before a0 Z = true := own_mw hw 136 rfl
theorem ow_137 (hw : own_HW Z a0) : (Jvm.Cond.methodLink "java/lang/AbstractStringBuilder" 248 ⟨"java/lang/Integer", "getChars", "(II[B)I"⟩).before a0 Z = true := own_mw hw 137 rfl
theorem ow_138 (hw : own_HW Z a0) : (Jvm.Cond.static ⟨"java/lang/Integer", "getChars", "(II[B)I"⟩).before a0 Z = true := own_mw hw 138 rfl
theorem ow_139 (hw : own_HW Z a0) : (Jvm.Cond.code ⟨"java/lang/Integer", "getChars", "(II[B)I"⟩ jdk_33_method_12_code 7 (Option.some Jvm.ClassFile.FieldType.int)).before a0 Z = true := own_mw hw 139 rfl
theorem ow_140 (hw : own_HW Z a0) : (Jvm.Cond.fieldLink "java/lang/Integer" 83 "java/lang/Integer" "DigitOnes" "[B").before a0 Z = true := own_mw hw 140 rfl
theorem ow_141 (hw : own_HW Z a0) : (Jvm.Cond.stringLink "com/example/reservation/reservation/server/CallbackConnection$Target" 144 "\r\n\r\n").before a0 Z = true := own_mw hw 141 rfl
theorem ow_142 (hw : own_HW Z a0) : (Jvm.Cond.methodLink "com/example/reservation/reservation/server/CallbackConnection$Target" 72 ⟨"java/lang/StringBuilder", "append", "(Ljava/lang/String;)Ljava/lang/StringBuilder;"⟩).before a0 Z = true := own_mw hw 142 rfl
theorem ow_143 (hw : own_HW Z a0) : (Jvm.Cond.declares ⟨"java/lang/StringBuilder", "append", "(Ljava/lang/String;)Ljava/lang/StringBuilder;"⟩).before a0 Z = true := own_mw hw 143 rfl
theorem ow_144 (hw : own_HW Z a0) : (Jvm.Cond.instanceMethod ⟨"java/lang/StringBuilder", "append", "(Ljava/lang/String;)Ljava/lang/StringBuilder;"⟩).before a0 Z = true := own_mw hw 144 rfl
theorem ow_145 (hw : own_HW Z a0) : (Jvm.Cond.selects "java/lang/StringBuilder" ⟨"java/lang/StringBuilder", "append", "(Ljava/lang/String;)Ljava/lang/StringBuilder;"⟩ ⟨"java/lang/StringBuilder", "append", "(Ljava/lang/String;)Ljava/lang/StringBuilder;"⟩).before a0 Z = true := own_mw hw 145 rfl
theorem ow_146 (hw : own_HW Z a0) : (Jvm.Cond.code ⟨"java/lang/StringBuilder", "append", "(Ljava/lang/String;)Ljava/lang/StringBuilder;"⟩ jdk_67_method_7_code 2 (Option.some (Jvm.ClassFile.FieldType.object "java/lang/StringBuilder"))).before a0 Z = true := own_mw hw 146 rfl
theorem ow_147 (hw : own_HW Z a0) : (Jvm.Cond.methodLink "java/lang/StringBuilder" 29 ⟨"java/lang/AbstractStringBuilder", "append", "(Ljava/lang/String;)Ljava/lang/AbstractStringBuilder;"⟩).before a0 Z = true := own_mw hw 147 rfl
theorem ow_148 (hw : own_HW Z a0) : (Jvm.Cond.instanceMethod ⟨"java/lang/AbstractStringBuilder", "append", "(Ljava/lang/String;)Ljava/lang/AbstractStringBuilder;"⟩).before a0 Z = true := own_mw hw 148 rfl
theorem ow_149 (hw : own_HW Z a0) : (Jvm.Cond.declares ⟨"java/lang/AbstractStringBuilder", "append", "(Ljava/lang/String;)Ljava/lang/AbstractStringBuilder;"⟩).before a0 Z = true := own_mw hw 149 rfl
theorem ow_150 (hw : own_HW Z a0) : (Jvm.Cond.code ⟨"java/lang/AbstractStringBuilder", "append", "(Ljava/lang/String;)Ljava/lang/AbstractStringBuilder;"⟩ jdk_68_method_22_code 3 (Option.some (Jvm.ClassFile.FieldType.object "java/lang/AbstractStringBuilder"))).before a0 Z = true := own_mw hw 150 rfl
theorem ow_151 (hw : own_HW Z a0) : (Jvm.Cond.methodLink "java/lang/AbstractStringBuilder" 32 ⟨"java/lang/String", "length", "()I"⟩).before a0 Z = true := own_mw hw 151 rfl
theorem ow_152 (hw : own_HW Z a0) : (Jvm.Cond.declares ⟨"java/lang/String", "length", "()I"⟩).before a0 Z = true := own_mw hw 152 rfl
theorem ow_153 (hw : own_HW Z a0) : (Jvm.Cond.instanceMethod ⟨"java/lang/String", "length", "()I"⟩).before a0 Z = true := own_mw hw 153 rfl
theorem ow_154 (hw : own_HW Z a0) : (Jvm.Cond.selects "java/lang/String" ⟨"java/lang/String", "length", "()I"⟩ ⟨"java/lang/String", "length", "()I"⟩).before a0 Z = true := own_mw hw 154 rfl
theorem ow_155 (hw : own_HW Z a0) : (Jvm.Cond.code ⟨"java/lang/String", "length", "()I"⟩ jdk_42_method_54_code 1 (Option.some Jvm.ClassFile.FieldType.int)).before a0 Z = true := own_mw hw 155 rfl
theorem ow_156 (hw : own_HW Z a0) : (Jvm.Cond.methodLink "java/lang/AbstractStringBuilder" 208 ⟨"java/lang/AbstractStringBuilder", "putStringAt", "(ILjava/lang/String;)V"⟩).before a0 Z = true := own_mw hw 156 rfl
theorem ow_157 (hw : own_HW Z a0) : (Jvm.Cond.instanceMethod ⟨"java/lang/AbstractStringBuilder", "putStringAt", "(ILjava/lang/String;)V"⟩).before a0 Z = true := own_mw hw 157 rfl
theorem ow_158 (hw : own_HW Z a0) : (Jvm.Cond.privateMethod ⟨"java/lang/AbstractStringBuilder", "putStringAt", "(ILjava/lang/String;)V"⟩).before a0 Z = true := own_mw hw 158 rfl
theorem ow_160 (hw : own_HW Z a0) : (Jvm.Cond.code ⟨"java/lang/AbstractStringBuilder", "putStringAt", "(ILjava/lang/String;)V"⟩ jdk_68_method_73_code 3 (Option.none : Option Jvm.ClassFile.FieldType)).before a0 Z = true := own_mw hw 160 rfl
theorem ow_161 (hw : own_HW Z a0) : (Jvm.Cond.methodLink "java/lang/AbstractStringBuilder" 397 ⟨"java/lang/AbstractStringBuilder", "inflateIfNeededFor", "(Ljava/lang/String;)V"⟩).before a0 Z = true := own_mw hw 161 rfl
theorem ow_162 (hw : own_HW Z a0) : (Jvm.Cond.instanceMethod ⟨"java/lang/AbstractStringBuilder", "inflateIfNeededFor", "(Ljava/lang/String;)V"⟩).before a0 Z = true := own_mw hw 162 rfl
theorem ow_163 (hw : own_HW Z a0) : (Jvm.Cond.privateMethod ⟨"java/lang/AbstractStringBuilder", "inflateIfNeededFor", "(Ljava/lang/String;)V"⟩).before a0 Z = true := own_mw hw 163 rfl
theorem ow_165 (hw : own_HW Z a0) : (Jvm.Cond.code ⟨"java/lang/AbstractStringBuilder", "inflateIfNeededFor", "(Ljava/lang/String;)V"⟩ jdk_68_method_71_code 2 (Option.none : Option Jvm.ClassFile.FieldType)).before a0 Z = true := own_mw hw 165 rfl
theorem ow_166 (hw : own_HW Z a0) : (Jvm.Cond.methodLink "java/lang/AbstractStringBuilder" 40 ⟨"java/lang/String", "coder", "()B"⟩).before a0 Z = true := own_mw hw 166 rfl
theorem ow_167 (hw : own_HW Z a0) : (Jvm.Cond.methodLink "java/lang/AbstractStringBuilder" 399 ⟨"java/lang/String", "getBytes", "([BIB)V"⟩).before a0 Z = true := own_mw hw 167 rfl
theorem ow_168 (hw : own_HW Z a0) : (Jvm.Cond.declares ⟨"java/lang/String", "getBytes", "([BIB)V"⟩).before a0 Z = true := own_mw hw 168 rfl
theorem ow_169 (hw : own_HW Z a0) : (Jvm.Cond.instanceMethod ⟨"java/lang/String", "getBytes", "([BIB)V"⟩).before a0 Z = true := own_mw hw 169 rfl
theorem ow_170 (hw : own_HW Z a0) : (Jvm.Cond.selects "java/lang/String" ⟨"java/lang/String", "getBytes", "([BIB)V"⟩ ⟨"java/lang/String", "getBytes", "([BIB)V"⟩).before a0 Z = true := own_mw hw 170 rfl
theorem ow_171 (hw : own_HW Z a0) : (Jvm.Cond.code ⟨"java/lang/String", "getBytes", "([BIB)V"⟩ jdk_42_method_147_code 4 (Option.none : Option Jvm.ClassFile.FieldType)).before a0 Z = true := own_mw hw 171 rfl
theorem ow_172 (hw : own_HW Z a0) : (Jvm.Cond.methodLink "java/lang/String" 212 ⟨"java/lang/System", "arraycopy", "(Ljava/lang/Object;ILjava/lang/Object;II)V"⟩).before a0 Z = true := own_mw hw 172 rfl
theorem ow_173 (hw : own_HW Z a0) : (Jvm.Cond.static ⟨"java/lang/System", "arraycopy", "(Ljava/lang/Object;ILjava/lang/Object;II)V"⟩).before a0 Z = true := own_mw hw 173 rfl
theorem ow_174 (hw : own_HW Z a0) : (Jvm.Cond.initialized "java/lang/System").before a0 Z = true := own_mw hw 174 rfl
theorem ow_175 (hw : own_HW Z a0) : (Jvm.Cond.native ⟨"java/lang/System", "arraycopy", "(Ljava/lang/Object;ILjava/lang/Object;II)V"⟩).before a0 Z = true := own_mw hw 175 rfl
theorem ow_176 (hw : own_HW Z a0) : (Jvm.Cond.methodLink "com/example/reservation/reservation/server/CallbackConnection$Target" 76 ⟨"java/lang/StringBuilder", "toString", "()Ljava/lang/String;"⟩).before a0 Z = true := own_mw hw 176 rfl
theorem ow_177 (hw : own_HW Z a0) : (Jvm.Cond.declares ⟨"java/lang/StringBuilder", "toString", "()Ljava/lang/String;"⟩).before a0 Z = true := own_mw hw 177 rfl
theorem ow_178 (hw : own_HW Z a0) : (Jvm.Cond.instanceMethod ⟨"java/lang/StringBuilder", "toString", "()Ljava/lang/String;"⟩).before a0 Z = true := own_mw hw 178 rfl
theorem ow_179 (hw : own_HW Z a0) : (Jvm.Cond.selects "java/lang/StringBuilder" ⟨"java/lang/StringBuilder", "toString", "()Ljava/lang/String;"⟩ ⟨"java/lang/StringBuilder", "toString", "()Ljava/lang/String;"⟩).before a0 Z = true := own_mw hw 179 rfl
theorem ow_180 (hw : own_HW Z a0) : (Jvm.Cond.code ⟨"java/lang/StringBuilder", "toString", "()Ljava/lang/String;"⟩ jdk_67_method_42_code 1 (Option.some (Jvm.ClassFile.FieldType.object "java/lang/String"))).before a0 Z = true := own_mw hw 180 rfl
theorem ow_181 (hw : own_HW Z a0) : (Jvm.Cond.classLink "java/lang/StringBuilder" 18 "java/lang/String").before a0 Z = true := own_mw hw 181 rfl
theorem ow_182 (hw : own_HW Z a0) : (Jvm.Cond.methodLink "java/lang/StringBuilder" 137 ⟨"java/lang/String", "<init>", "(Ljava/lang/StringBuilder;)V"⟩).before a0 Z = true := own_mw hw 182 rfl
theorem ow_183 (hw : own_HW Z a0) : (Jvm.Cond.instanceMethod ⟨"java/lang/String", "<init>", "(Ljava/lang/StringBuilder;)V"⟩).before a0 Z = true := own_mw hw 183 rfl
theorem ow_184 (hw : own_HW Z a0) : (Jvm.Cond.code ⟨"java/lang/String", "<init>", "(Ljava/lang/StringBuilder;)V"⟩ jdk_42_method_53_code 2 (Option.none : Option Jvm.ClassFile.FieldType)).before a0 Z = true := own_mw hw 184 rfl
theorem ow_185 (hw : own_HW Z a0) : (Jvm.Cond.methodLink "java/lang/String" 489 ⟨"java/lang/String", "<init>", "(Ljava/lang/AbstractStringBuilder;Ljava/lang/Void;)V"⟩).before a0 Z = true := own_mw hw 185 rfl
theorem ow_186 (hw : own_HW Z a0) : (Jvm.Cond.instanceMethod ⟨"java/lang/String", "<init>", "(Ljava/lang/AbstractStringBuilder;Ljava/lang/Void;)V"⟩).before a0 Z = true := own_mw hw 186 rfl
theorem ow_187 (hw : own_HW Z a0) : (Jvm.Cond.code ⟨"java/lang/String", "<init>", "(Ljava/lang/AbstractStringBuilder;Ljava/lang/Void;)V"⟩ jdk_42_method_150_code 5 (Option.none : Option Jvm.ClassFile.FieldType)).before a0 Z = true := own_mw hw 187 rfl
theorem ow_188 (hw : own_HW Z a0) : (Jvm.Cond.methodLink "java/lang/String" 552 ⟨"java/lang/AbstractStringBuilder", "getValue", "()[B"⟩).before a0 Z = true := own_mw hw 188 rfl
theorem ow_189 (hw : own_HW Z a0) : (Jvm.Cond.declares ⟨"java/lang/AbstractStringBuilder", "getValue", "()[B"⟩).before a0 Z = true := own_mw hw 189 rfl
theorem ow_190 (hw : own_HW Z a0) : (Jvm.Cond.instanceMethod ⟨"java/lang/AbstractStringBuilder", "getValue", "()[B"⟩).before a0 Z = true := own_mw hw 190 rfl
theorem ow_191 (hw : own_HW Z a0) : (Jvm.Cond.selects "java/lang/StringBuilder" ⟨"java/lang/AbstractStringBuilder", "getValue", "()[B"⟩ ⟨"java/lang/AbstractStringBuilder", "getValue", "()[B"⟩).before a0 Z = true := own_mw hw 191 rfl
theorem ow_192 (hw : own_HW Z a0) : (Jvm.Cond.code ⟨"java/lang/AbstractStringBuilder", "getValue", "()[B"⟩ jdk_68_method_64_code 1 (Option.some (Jvm.ClassFile.FieldType.array Jvm.ClassFile.FieldType.byte))).before a0 Z = true := own_mw hw 192 rfl
theorem ow_193 (hw : own_HW Z a0) : (Jvm.Cond.methodLink "java/lang/String" 549 ⟨"java/lang/AbstractStringBuilder", "length", "()I"⟩).before a0 Z = true := own_mw hw 193 rfl
theorem ow_194 (hw : own_HW Z a0) : (Jvm.Cond.declares ⟨"java/lang/AbstractStringBuilder", "length", "()I"⟩).before a0 Z = true := own_mw hw 194 rfl
theorem ow_195 (hw : own_HW Z a0) : (Jvm.Cond.instanceMethod ⟨"java/lang/AbstractStringBuilder", "length", "()I"⟩).before a0 Z = true := own_mw hw 195 rfl
theorem ow_196 (hw : own_HW Z a0) : (Jvm.Cond.selects "java/lang/StringBuilder" ⟨"java/lang/AbstractStringBuilder", "length", "()I"⟩ ⟨"java/lang/StringBuilder", "length", "()I"⟩).before a0 Z = true := own_mw hw 196 rfl
theorem ow_197 (hw : own_HW Z a0) : (Jvm.Cond.instanceMethod ⟨"java/lang/StringBuilder", "length", "()I"⟩).before a0 Z = true := own_mw hw 197 rfl
theorem ow_198 (hw : own_HW Z a0) : (Jvm.Cond.code ⟨"java/lang/StringBuilder", "length", "()I"⟩ jdk_67_method_93_code 1 (Option.some Jvm.ClassFile.FieldType.int)).before a0 Z = true := own_mw hw 198 rfl
theorem ow_199 (hw : own_HW Z a0) : (Jvm.Cond.methodLink "java/lang/StringBuilder" 343 ⟨"java/lang/AbstractStringBuilder", "length", "()I"⟩).before a0 Z = true := own_mw hw 199 rfl
theorem ow_200 (hw : own_HW Z a0) : (Jvm.Cond.code ⟨"java/lang/AbstractStringBuilder", "length", "()I"⟩ jdk_68_method_6_code 1 (Option.some Jvm.ClassFile.FieldType.int)).before a0 Z = true := own_mw hw 200 rfl
theorem ow_201 (hw : own_HW Z a0) : (Jvm.Cond.methodLink "java/lang/String" 1047 ⟨"java/lang/AbstractStringBuilder", "isLatin1", "()Z"⟩).before a0 Z = true := own_mw hw 201 rfl
theorem ow_202 (hw : own_HW Z a0) : (Jvm.Cond.methodLink "java/lang/String" 54 ⟨"java/util/Arrays", "copyOfRange", "([BII)[B"⟩).before a0 Z = true := own_mw hw 202 rfl
theorem ow_203 (hw : own_HW Z a0) : (Jvm.Cond.static ⟨"java/util/Arrays", "copyOfRange", "([BII)[B"⟩).before a0 Z = true := own_mw hw 203 rfl
theorem ow_204 (hw : own_HW Z a0) : (Jvm.Cond.initialized "java/util/Arrays").before a0 Z = true := own_mw hw 204 rfl
theorem ow_205 (hw : own_HW Z a0) : (Jvm.Cond.code ⟨"java/util/Arrays", "copyOfRange", "([BII)[B"⟩ jdk_65_method_132_code 3 (Option.some (Jvm.ClassFile.FieldType.array Jvm.ClassFile.FieldType.byte))).before a0 Z = true := own_mw hw 205 rfl
theorem ow_206 (hw : own_HW Z a0) : (Jvm.Cond.methodLink "java/util/Arrays" 339 ⟨"java/util/Arrays", "copyOfRangeByte", "([BII)[B"⟩).before a0 Z = true := own_mw hw 206 rfl
theorem ow_207 (hw : own_HW Z a0) : (Jvm.Cond.static ⟨"java/util/Arrays", "copyOfRangeByte", "([BII)[B"⟩).before a0 Z = true := own_mw hw 207 rfl
theorem ow_208 (hw : own_HW Z a0) : (Jvm.Cond.code ⟨"java/util/Arrays", "copyOfRangeByte", "([BII)[B"⟩ jdk_65_method_133_code 5 (Option.some (Jvm.ClassFile.FieldType.array Jvm.ClassFile.FieldType.byte))).before a0 Z = true := own_mw hw 208 rfl
theorem ow_209 (hw : own_HW Z a0) : (Jvm.Cond.methodLink "java/util/Arrays" 343 ⟨"java/util/Arrays", "checkLength", "(II)V"⟩).before a0 Z = true := own_mw hw 209 rfl
theorem ow_210 (hw : own_HW Z a0) : (Jvm.Cond.static ⟨"java/util/Arrays", "checkLength", "(II)V"⟩).before a0 Z = true := own_mw hw 210 rfl
theorem ow_211 (hw : own_HW Z a0) : (Jvm.Cond.code ⟨"java/util/Arrays", "checkLength", "(II)V"⟩ jdk_65_method_131_code 2 (Option.none : Option Jvm.ClassFile.FieldType)).before a0 Z = true := own_mw hw 211 rfl
theorem ow_212 (hw : own_HW Z a0) : (Jvm.Cond.methodLink "java/util/Arrays" 304 ⟨"java/lang/Math", "min", "(II)I"⟩).before a0 Z = true := own_mw hw 212 rfl
theorem ow_213 (hw : own_HW Z a0) : (Jvm.Cond.static ⟨"java/lang/Math", "min", "(II)I"⟩).before a0 Z = true := own_mw hw 213 rfl
theorem ow_214 (hw : own_HW Z a0) : (Jvm.Cond.initialized "java/lang/Math").before a0 Z = true := own_mw hw 214 rfl
theorem ow_215 (hw : own_HW Z a0) : (Jvm.Cond.code ⟨"java/lang/Math", "min", "(II)I"⟩ jdk_29_method_69_code 2 (Option.some Jvm.ClassFile.FieldType.int)).before a0 Z = true := own_mw hw 215 rfl
theorem ow_216 (hw : own_HW Z a0) : (Jvm.Cond.methodLink "java/util/Arrays" 150 ⟨"java/lang/System", "arraycopy", "(Ljava/lang/Object;ILjava/lang/Object;II)V"⟩).before a0 Z = true := own_mw hw 216 rfl
theorem ow_217 (hw : own_HW Z a0) : (Jvm.Cond.fieldLink "com/example/reservation/reservation/server/CallbackConnection$Target" 128 "java/nio/charset/StandardCharsets" "US_ASCII" "Ljava/nio/charset/Charset;").before a0 Z = true := own_mw hw 217 rfl
theorem ow_218 (hw : own_HW Z a0) : (Jvm.Cond.fieldLink "java/lang/String" 116 "sun/nio/cs/ISO_8859_1" "INSTANCE" "Lsun/nio/cs/ISO_8859_1;").before a0 Z = true := own_mw hw 218 rfl
theorem ow_220 (hw : own_HW Z a0) : (Jvm.Cond.fieldLink "java/lang/String" 123 "sun/nio/cs/US_ASCII" "INSTANCE" "Lsun/nio/cs/US_ASCII;").before a0 Z = true := own_mw hw 220 rfl
theorem ow_222 (hw : own_HW Z a0) : (Jvm.Cond.methodLink "java/lang/String" 260 ⟨"java/lang/String", "encodeASCII", "(B[B)[B"⟩).before a0 Z = true := own_mw hw 222 rfl
theorem ow_223 (hw : own_HW Z a0) : (Jvm.Cond.static ⟨"java/lang/String", "encodeASCII", "(B[B)[B"⟩).before a0 Z = true := own_mw hw 223 rfl
theorem ow_224 (hw : own_HW Z a0) : (Jvm.Cond.code ⟨"java/lang/String", "encodeASCII", "(B[B)[B"⟩ jdk_42_method_24_code 7 (Option.some (Jvm.ClassFile.FieldType.array Jvm.ClassFile.FieldType.byte))).before a0 Z = true := own_mw hw 224 rfl
theorem ow_225 (hw : own_HW Z a0) : (Jvm.Cond.methodLink "java/lang/String" 92 ⟨"java/lang/StringCoding", "countPositives", "([BII)I"⟩).before a0 Z = true := own_mw hw 225 rfl
theorem ow_226 (hw : own_HW Z a0) : (Jvm.Cond.methodLink "com/example/reservation/reservation/server/CallbackConnection$Target" 146 ⟨"java/lang/System", "arraycopy", "(Ljava/lang/Object;ILjava/lang/Object;II)V"⟩).before a0 Z = true := own_mw hw 226 rfl
theorem ow_227 (hw : own_HW Z a0) : (Jvm.Cond.methodLink "com/example/reservation/reservation/server/TargetRequestPinLaw" 41 ⟨"com/example/reservation/reservation/server/TargetRequestPinLaw", "same", "([BI[BI[BI[BI)Z"⟩).before a0 Z = true := own_mw hw 227 rfl
theorem ow_228 (hw : own_HW Z a0) : (Jvm.Cond.static ⟨"com/example/reservation/reservation/server/TargetRequestPinLaw", "same", "([BI[BI[BI[BI)Z"⟩).before a0 Z = true := own_mw hw 228 rfl
theorem ow_229 (hw : own_HW Z a0) : (Jvm.Cond.code ⟨"com/example/reservation/reservation/server/TargetRequestPinLaw", "same", "([BI[BI[BI[BI)Z"⟩ method_7_code 9 (Option.some Jvm.ClassFile.FieldType.boolean)).before a0 Z = true := own_mw hw 229 rfl
theorem ow_230 (hw : own_HW Z a0) : (Jvm.Cond.methodLink "com/example/reservation/reservation/server/TargetRequestPinLaw" 49 ⟨"com/example/reservation/reservation/server/TargetRequestPinLaw", "ex", "([BI[BI[BII)I"⟩).before a0 Z = true := own_mw hw 230 rfl
theorem ow_231 (hw : own_HW Z a0) : (Jvm.Cond.static ⟨"com/example/reservation/reservation/server/TargetRequestPinLaw", "ex", "([BI[BI[BII)I"⟩).before a0 Z = true := own_mw hw 231 rfl
theorem ow_232 (hw : own_HW Z a0) : (Jvm.Cond.code ⟨"com/example/reservation/reservation/server/TargetRequestPinLaw", "ex", "([BI[BI[BII)I"⟩ method_6_code 8 (Option.some Jvm.ClassFile.FieldType.int)).before a0 Z = true := own_mw hw 232 rfl
theorem ow_233 (hw : own_HW Z a0) : (Jvm.Cond.constant "com/example/reservation/reservation/server/TargetRequestPinLaw" 45 (55296 : Int32)).before a0 Z = true := own_mw hw 233 rfl
theorem ow_234 (hw : own_HW Z a0) : (Jvm.Cond.methodLink "java/lang/String" 177 ⟨"java/lang/StringUTF16", "compress", "([CII)[B"⟩).before a0 Z = true := own_mw hw 234 rfl
theorem ow_235 (hw : own_HW Z a0) : (Jvm.Cond.static ⟨"java/lang/StringUTF16", "compress", "([CII)[B"⟩).before a0 Z = true := own_mw hw 235 rfl
theorem ow_236 (hw : own_HW Z a0) : (Jvm.Cond.initialized "java/lang/StringUTF16").before a0 Z = true := own_mw hw 236 rfl
theorem ow_237 (hw : own_HW Z a0) : (Jvm.Cond.code ⟨"java/lang/StringUTF16", "compress", "([CII)[B"⟩ jdk_52_method_16_code 6 (Option.some (Jvm.ClassFile.FieldType.array Jvm.ClassFile.FieldType.byte))).before a0 Z = true := own_mw hw 237 rfl
theorem ow_238 (hw : own_HW Z a0) : (Jvm.Cond.methodLink "java/lang/StringUTF16" 115 ⟨"java/lang/StringUTF16", "compress", "([CI[BII)I"⟩).before a0 Z = true := own_mw hw 238 rfl
theorem ow_239 (hw : own_HW Z a0) : (Jvm.Cond.static ⟨"java/lang/StringUTF16", "compress", "([CI[BII)I"⟩).before a0 Z = true := own_mw hw 239 rfl
theorem ow_240 (hw : own_HW Z a0) : (Jvm.Cond.code ⟨"java/lang/StringUTF16", "compress", "([CI[BII)I"⟩ jdk_52_method_21_code 7 (Option.some Jvm.ClassFile.FieldType.int)).before a0 Z = true := own_mw hw 240 rfl
theorem ow_241 (hw : own_HW Z a0) : (Jvm.Cond.methodLink "java/lang/StringUTF16" 119 ⟨"java/lang/StringUTF16", "toBytes", "([CII)[B"⟩).before a0 Z = true := own_mw hw 241 rfl
theorem ow_242 (hw : own_HW Z a0) : (Jvm.Cond.static ⟨"java/lang/StringUTF16", "toBytes", "([CII)[B"⟩).before a0 Z = true := own_mw hw 242 rfl
theorem ow_243 (hw : own_HW Z a0) : (Jvm.Cond.code ⟨"java/lang/StringUTF16", "toBytes", "([CII)[B"⟩ jdk_52_method_14_code 5 (Option.some (Jvm.ClassFile.FieldType.array Jvm.ClassFile.FieldType.byte))).before a0 Z = true := own_mw hw 243 rfl
theorem ow_244 (hw : own_HW Z a0) : (Jvm.Cond.methodLink "java/lang/StringUTF16" 107 ⟨"java/lang/StringUTF16", "newBytesFor", "(I)[B"⟩).before a0 Z = true := own_mw hw 244 rfl
theorem ow_245 (hw : own_HW Z a0) : (Jvm.Cond.static ⟨"java/lang/StringUTF16", "newBytesFor", "(I)[B"⟩).before a0 Z = true := own_mw hw 245 rfl
theorem ow_246 (hw : own_HW Z a0) : (Jvm.Cond.code ⟨"java/lang/StringUTF16", "newBytesFor", "(I)[B"⟩ jdk_52_method_2_code 1 (Option.some (Jvm.ClassFile.FieldType.array Jvm.ClassFile.FieldType.byte))).before a0 Z = true := own_mw hw 246 rfl
theorem ow_247 (hw : own_HW Z a0) : (Jvm.Cond.methodLink "java/lang/StringUTF16" 11 ⟨"java/lang/StringUTF16", "newBytesLength", "(I)I"⟩).before a0 Z = true := own_mw hw 247 rfl
theorem ow_248 (hw : own_HW Z a0) : (Jvm.Cond.static ⟨"java/lang/StringUTF16", "newBytesLength", "(I)I"⟩).before a0 Z = true := own_mw hw 248 rfl
theorem ow_249 (hw : own_HW Z a0) : (Jvm.Cond.code ⟨"java/lang/StringUTF16", "newBytesLength", "(I)I"⟩ jdk_52_method_3_code 1 (Option.some Jvm.ClassFile.FieldType.int)).before a0 Z = true := own_mw hw 249 rfl
theorem ow_250 (hw : own_HW Z a0) : (Jvm.Cond.constant "java/lang/StringUTF16" 20 (1073741823 : Int32)).before a0 Z = true := own_mw hw 250 rfl
theorem ow_251 (hw : own_HW Z a0) : (Jvm.Cond.methodLink "java/lang/StringUTF16" 111 ⟨"java/lang/StringUTF16", "putChar", "([BII)V"⟩).before a0 Z = true := own_mw hw 251 rfl
theorem ow_252 (hw : own_HW Z a0) : (Jvm.Cond.static ⟨"java/lang/StringUTF16", "putChar", "([BII)V"⟩).before a0 Z = true := own_mw hw 252 rfl
theorem ow_253 (hw : own_HW Z a0) : (Jvm.Cond.code ⟨"java/lang/StringUTF16", "putChar", "([BII)V"⟩ jdk_52_method_4_code 3 (Option.none : Option Jvm.ClassFile.FieldType)).before a0 Z = true := own_mw hw 253 rfl
theorem ow_254 (hw : own_HW Z a0) : (Jvm.Cond.fieldLink "java/lang/StringUTF16" 44 "java/lang/StringUTF16" "$assertionsDisabled" "Z").before a0 Z = true := own_mw hw 254 rfl
theorem ow_255 (hw : own_HW Z a0) : (Jvm.Cond.fieldLink "java/lang/StringUTF16" 59 "java/lang/StringUTF16" "HI_BYTE_SHIFT" "I").before a0 Z = true := own_mw hw 255 rfl
theorem ow_256 (hw : own_HW Z a0) : (Jvm.Cond.fieldLink "java/lang/StringUTF16" 63 "java/lang/StringUTF16" "LO_BYTE_SHIFT" "I").before a0 Z = true := own_mw hw 256 rfl
theorem ow_257 (hw : own_HW Z a0) : (Jvm.Cond.methodLink "java/lang/StringUTF16" 71 ⟨"java/lang/StringUTF16", "getChar", "([BI)C"⟩).before a0 Z = true := own_mw hw 257 rfl
theorem ow_258 (hw : own_HW Z a0) : (Jvm.Cond.static ⟨"java/lang/StringUTF16", "getChar", "([BI)C"⟩).before a0 Z = true := own_mw hw 258 rfl
theorem ow_259 (hw : own_HW Z a0) : (Jvm.Cond.code ⟨"java/lang/StringUTF16", "getChar", "([BI)C"⟩ jdk_52_method_5_code 2 (Option.some Jvm.ClassFile.FieldType.char)).before a0 Z = true := own_mw hw 259 rfl
theorem ow_260 (hw : own_HW Z a0) : (Jvm.Cond.methodLink "java/lang/String" 47 ⟨"java/lang/StringUTF16", "coderFromArrayLen", "([BI)B"⟩).before a0 Z = true := own_mw hw 260 rfl
theorem ow_261 (hw : own_HW Z a0) : (Jvm.Cond.static ⟨"java/lang/StringUTF16", "coderFromArrayLen", "([BI)B"⟩).before a0 Z = true := own_mw hw 261 rfl
theorem ow_262 (hw : own_HW Z a0) : (Jvm.Cond.code ⟨"java/lang/StringUTF16", "coderFromArrayLen", "([BI)B"⟩ jdk_52_method_15_code 2 (Option.some Jvm.ClassFile.FieldType.byte)).before a0 Z = true := own_mw hw 262 rfl
theorem ow_263 (hw : own_HW Z a0) : (Jvm.Cond.methodLink "java/lang/String" 473 ⟨"java/lang/String", "encodeUTF8_UTF16", "([BZ)[B"⟩).before a0 Z = true := own_mw hw 263 rfl
theorem ow_264 (hw : own_HW Z a0) : (Jvm.Cond.static ⟨"java/lang/String", "encodeUTF8_UTF16", "([BZ)[B"⟩).before a0 Z = true := own_mw hw 264 rfl
theorem ow_265 (hw : own_HW Z a0) : (Jvm.Cond.code ⟨"java/lang/String", "encodeUTF8_UTF16", "([BZ)[B"⟩ jdk_42_method_47_code 9 (Option.some (Jvm.ClassFile.FieldType.array Jvm.ClassFile.FieldType.byte))).before a0 Z = true := own_mw hw 265 rfl
theorem ow_266 (hw : own_HW Z a0) : (Jvm.Cond.methodLink "java/lang/String" 360 ⟨"java/lang/StringUTF16", "getChar", "([BI)C"⟩).before a0 Z = true := own_mw hw 266 rfl
theorem ow_267 (hw : own_HW Z a0) : (Jvm.Cond.methodLink "java/lang/String" 404 ⟨"java/lang/Character", "isSurrogate", "(C)Z"⟩).before a0 Z = true := own_mw hw 267 rfl
theorem ow_268 (hw : own_HW Z a0) : (Jvm.Cond.static ⟨"java/lang/Character", "isSurrogate", "(C)Z"⟩).before a0 Z = true := own_mw hw 268 rfl
theorem ow_269 (hw : own_HW Z a0) : (Jvm.Cond.initialized "java/lang/Character").before a0 Z = true := own_mw hw 269 rfl
theorem ow_270 (hw : own_HW Z a0) : (Jvm.Cond.code ⟨"java/lang/Character", "isSurrogate", "(C)Z"⟩ jdk_89_method_16_code 1 (Option.some Jvm.ClassFile.FieldType.boolean)).before a0 Z = true := own_mw hw 270 rfl
theorem ow_271 (hw : own_HW Z a0) : (Jvm.Cond.constant "java/lang/Character" 75 (55296 : Int32)).before a0 Z = true := own_mw hw 271 rfl
theorem ow_272 (hw : own_HW Z a0) : (Jvm.Cond.constant "java/lang/Character" 77 (57344 : Int32)).before a0 Z = true := own_mw hw 272 rfl
theorem ow_273 (hw : own_HW Z a0) : (Jvm.Cond.methodLink "java/lang/String" 364 ⟨"java/lang/Character", "isHighSurrogate", "(C)Z"⟩).before a0 Z = true := own_mw hw 273 rfl
theorem ow_274 (hw : own_HW Z a0) : (Jvm.Cond.static ⟨"java/lang/Character", "isHighSurrogate", "(C)Z"⟩).before a0 Z = true := own_mw hw 274 rfl
theorem ow_275 (hw : own_HW Z a0) : (Jvm.Cond.code ⟨"java/lang/Character", "isHighSurrogate", "(C)Z"⟩ jdk_89_method_14_code 1 (Option.some Jvm.ClassFile.FieldType.boolean)).before a0 Z = true := own_mw hw 275 rfl
theorem ow_276 (hw : own_HW Z a0) : (Jvm.Cond.constant "java/lang/Character" 76 (56320 : Int32)).before a0 Z = true := own_mw hw 276 rfl
theorem ow_277 (hw : own_HW Z a0) : (Jvm.Cond.methodLink "java/lang/String" 370 ⟨"java/lang/Character", "isLowSurrogate", "(C)Z"⟩).before a0 Z = true := own_mw hw 277 rfl
theorem ow_278 (hw : own_HW Z a0) : (Jvm.Cond.static ⟨"java/lang/Character", "isLowSurrogate", "(C)Z"⟩).before a0 Z = true := own_mw hw 278 rfl
theorem ow_279 (hw : own_HW Z a0) : (Jvm.Cond.code ⟨"java/lang/Character", "isLowSurrogate", "(C)Z"⟩ jdk_89_method_15_code 1 (Option.some Jvm.ClassFile.FieldType.boolean)).before a0 Z = true := own_mw hw 279 rfl
theorem ow_280 (hw : own_HW Z a0) : (Jvm.Cond.methodLink "java/lang/String" 102 ⟨"java/util/Arrays", "copyOf", "([BI)[B"⟩).before a0 Z = true := own_mw hw 280 rfl
theorem ow_281 (hw : own_HW Z a0) : (Jvm.Cond.static ⟨"java/util/Arrays", "copyOf", "([BI)[B"⟩).before a0 Z = true := own_mw hw 281 rfl
theorem ow_282 (hw : own_HW Z a0) : (Jvm.Cond.code ⟨"java/util/Arrays", "copyOf", "([BI)[B"⟩ jdk_65_method_121_code 3 (Option.some (Jvm.ClassFile.FieldType.array Jvm.ClassFile.FieldType.byte))).before a0 Z = true := own_mw hw 282 rfl
theorem ow_283 (hw : own_HW Z a0) : (Jvm.Cond.methodLink "com/example/reservation/reservation/server/TargetRequestPinLaw" 32 ⟨"com/example/reservation/reservation/server/TargetRequestPinLaw", "cpAt", "([CII)I"⟩).before a0 Z = true := own_mw hw 283 rfl
theorem ow_284 (hw : own_HW Z a0) : (Jvm.Cond.static ⟨"com/example/reservation/reservation/server/TargetRequestPinLaw", "cpAt", "([CII)I"⟩).before a0 Z = true := own_mw hw 284 rfl
theorem ow_285 (hw : own_HW Z a0) : (Jvm.Cond.code ⟨"com/example/reservation/reservation/server/TargetRequestPinLaw", "cpAt", "([CII)I"⟩ method_4_code 5 (Option.some Jvm.ClassFile.FieldType.int)).before a0 Z = true := own_mw hw 285 rfl
theorem ow_286 (hw : own_HW Z a0) : (Jvm.Cond.constant "com/example/reservation/reservation/server/TargetRequestPinLaw" 46 (56319 : Int32)).before a0 Z = true := own_mw hw 286 rfl
theorem ow_287 (hw : own_HW Z a0) : (Jvm.Cond.constant "com/example/reservation/reservation/server/TargetRequestPinLaw" 47 (56320 : Int32)).before a0 Z = true := own_mw hw 287 rfl
theorem ow_288 (hw : own_HW Z a0) : (Jvm.Cond.constant "com/example/reservation/reservation/server/TargetRequestPinLaw" 48 (57343 : Int32)).before a0 Z = true := own_mw hw 288 rfl
theorem ow_289 (hw : own_HW Z a0) : (Jvm.Cond.methodLink "com/example/reservation/reservation/server/TargetRequestPinLaw" 36 ⟨"com/example/reservation/reservation/server/TargetRequestPinLaw", "put", "([BII)I"⟩).before a0 Z = true := own_mw hw 289 rfl
theorem ow_290 (hw : own_HW Z a0) : (Jvm.Cond.static ⟨"com/example/reservation/reservation/server/TargetRequestPinLaw", "put", "([BII)I"⟩).before a0 Z = true := own_mw hw 290 rfl
theorem ow_291 (hw : own_HW Z a0) : (Jvm.Cond.code ⟨"com/example/reservation/reservation/server/TargetRequestPinLaw", "put", "([BII)I"⟩ method_5_code 3 (Option.some Jvm.ClassFile.FieldType.int)).before a0 Z = true := own_mw hw 291 rfl
theorem ow_292 (hw : own_HW Z a0) : (Jvm.Cond.constant "com/example/reservation/reservation/server/TargetRequestPinLaw" 40 (65536 : Int32)).before a0 Z = true := own_mw hw 292 rfl
theorem ow_293 (hw : own_HW Z a0) : (Jvm.Cond.methodLink "java/lang/String" 477 ⟨"java/lang/Character", "toCodePoint", "(CC)I"⟩).before a0 Z = true := own_mw hw 293 rfl
theorem ow_294 (hw : own_HW Z a0) : (Jvm.Cond.static ⟨"java/lang/Character", "toCodePoint", "(CC)I"⟩).before a0 Z = true := own_mw hw 294 rfl
theorem ow_295 (hw : own_HW Z a0) : (Jvm.Cond.code ⟨"java/lang/Character", "toCodePoint", "(CC)I"⟩ jdk_89_method_19_code 2 (Option.some Jvm.ClassFile.FieldType.int)).before a0 Z = true := own_mw hw 295 rfl
theorem ow_296 (hw : own_HW Z a0) : (Jvm.Cond.constant "java/lang/Character" 85 (-56613888 : Int32)).before a0 Z = true := own_mw hw 296 rfl
theorem ow_297 (hw : own_HW Z a0) : (Jvm.Cond.methodLink "java/lang/String" 60 ⟨"java/lang/StringUTF16", "newBytesFor", "(I)[B"⟩).before a0 Z = true := own_mw hw 297 rfl
theorem ow_298 (hw : own_HW Z a0) : (Jvm.Cond.fieldLink "java/lang/Integer" 87 "java/lang/Integer" "DigitTens" "[B").before a0 Z = true := own_mw hw 298 rfl
end OwnWords
abbrev own_EL : List (String × Nat) := [("com/example/reservation/reservation/server/CallbackConnection$Target", 144), ("com/example/reservation/reservation/server/TargetRequestPinLaw", 21), ("com/example/reservation/reservation/server/TargetRequestPinLaw", 23), ("java/lang/String", 7)]
theorem own_ew {Z : State} {a0 : Array Value} (hw : ∀ d ∈ tables_1, d.before a0 Z = true) : EW Z a0 own_EL := (EW.cons (ow_141 hw) (by decide) (EW.cons (ow_30 hw) (by decide) (EW.cons (ow_31 hw) (by decide) (EW.cons (ow_20 hw) (by decide) EW.nil))))
theorem own_ws {Z : State} {a0 : Array Value} (hw : ∀ d ∈ tables_1, d.before a0 Z = true) : ∀ a ∈ Bundle.stringAtoms, a.before a0 Z = true := fun d hd => hw d ((by decide +kernel : ∀ d ∈ Bundle.stringAtoms, d ∈ tables_1) d hd)
abbrev k0 : ByteArray := method_5_code
abbrev k1 : ByteArray := method_4_code
abbrev k2 : ByteArray := jdk_89_method_16_code
abbrev k3 : ByteArray := jdk_89_method_14_code
abbrev k4 : ByteArray := jdk_89_method_15_code
abbrev k5 : ByteArray := jdk_89_method_19_code
abbrev k6 : ByteArray := jdk_52_method_3_code
abbrev k7 : ByteArray := jdk_52_method_2_code
abbrev k8 : ByteArray := jdk_52_method_4_code
abbrev k9 : ByteArray := jdk_52_method_5_code
abbrev k10 : ByteArray := jdk_52_method_21_code
abbrev k11 : ByteArray := jdk_52_method_14_code
abbrev k12 : ByteArray := jdk_52_method_16_code
abbrev k13 : ByteArray := jdk_52_method_15_code
abbrev k14 : ByteArray := jdk_42_method_149_code
abbrev k15 : ByteArray := jdk_42_method_152_code
abbrev k16 : ByteArray := jdk_123_method_3_code
abbrev k17 : ByteArray := jdk_123_method_2_code
abbrev k18 : ByteArray := jdk_29_method_69_code
abbrev k19 : ByteArray := jdk_65_method_121_code
abbrev k20 : ByteArray := jdk_42_method_47_code
abbrev k21 : ByteArray := jdk_42_method_46_code
abbrev k22 : ByteArray := jdk_42_method_18_code
abbrev k23 : ByteArray := jdk_42_method_64_code
abbrev k24 : ByteArray := jdk_42_method_24_code
abbrev k25 : ByteArray := jdk_68_method_2_code
abbrev k26 : ByteArray := jdk_67_method_1_code
abbrev k27 : ByteArray := jdk_33_method_13_code
abbrev k28 : ByteArray := jdk_68_method_9_code
abbrev k29 : ByteArray := jdk_68_method_68_code
abbrev k30 : ByteArray := jdk_33_method_12_code
abbrev k31 : ByteArray := jdk_68_method_32_code
abbrev k32 : ByteArray := jdk_67_method_15_code
abbrev k33 : ByteArray := jdk_42_method_54_code
abbrev k34 : ByteArray := jdk_68_method_71_code
abbrev k35 : ByteArray := jdk_42_method_147_code
abbrev k36 : ByteArray := jdk_68_method_73_code
abbrev k37 : ByteArray := jdk_68_method_22_code
abbrev k38 : ByteArray := jdk_67_method_7_code
abbrev k39 : ByteArray := jdk_65_method_131_code
abbrev k40 : ByteArray := jdk_65_method_133_code
abbrev k41 : ByteArray := jdk_65_method_132_code
abbrev k42 : ByteArray := jdk_68_method_64_code
abbrev k43 : ByteArray := jdk_68_method_6_code
abbrev k44 : ByteArray := jdk_67_method_93_code
abbrev k45 : ByteArray := jdk_42_method_150_code
abbrev k46 : ByteArray := jdk_42_method_53_code
abbrev k47 : ByteArray := jdk_67_method_42_code
abbrev k48 : ByteArray := jdk_42_method_3_code
abbrev k49 : ByteArray := jdk_30_method_1_code
abbrev k50 : ByteArray := prog_65_method_1_code
abbrev k51 : ByteArray := method_3_code
abbrev k52 : ByteArray := method_6_code
abbrev k53 : ByteArray := method_7_code
abbrev k54 : ByteArray := prog_65_method_3_code
theorem o0_0 : decode k0 0 = .ok (.iload_n 2, 1) := by decide +kernel
theorem o0_1 : decode k0 1 = .ok (.ifCond .ge 12, 3) := by decide +kernel
theorem o0_4 : decode k0 4 = .ok (.aload_n 0, 1) := by decide +kernel
theorem o0_5 : decode k0 5 = .ok (.iload_n 1, 1) := by decide +kernel
theorem o0_6 : decode k0 6 = .ok (.bipush 63, 2) := by decide +kernel
theorem o0_8 : decode k0 8 = .ok (.bastore, 1) := by decide +kernel
theorem o0_9 : decode k0 9 = .ok (.iload_n 1, 1) := by decide +kernel
theorem o0_10 : decode k0 10 = .ok (.iconst 1, 1) := by decide +kernel
theorem o0_11 : decode k0 11 = .ok (.iadd, 1) := by decide +kernel
theorem o0_12 : decode k0 12 = .ok (.ireturn, 1) := by decide +kernel
theorem o0_13 : decode k0 13 = .ok (.iload_n 2, 1) := by decide +kernel
theorem o0_14 : decode k0 14 = .ok (.sipush 128, 3) := by decide +kernel
theorem o0_17 : decode k0 17 = .ok (.if_icmp .ge 12, 3) := by decide +kernel
theorem o0_20 : decode k0 20 = .ok (.aload_n 0, 1) := by decide +kernel
theorem o0_21 : decode k0 21 = .ok (.iload_n 1, 1) := by decide +kernel
theorem o0_22 : decode k0 22 = .ok (.iload_n 2, 1) := by decide +kernel
theorem o0_23 : decode k0 23 = .ok (.i2b, 1) := by decide +kernel
theorem o0_24 : decode k0 24 = .ok (.bastore, 1) := by decide +kernel
theorem o0_25 : decode k0 25 = .ok (.iload_n 1, 1) := by decide +kernel
theorem o0_26 : decode k0 26 = .ok (.iconst 1, 1) := by decide +kernel
theorem o0_27 : decode k0 27 = .ok (.iadd, 1) := by decide +kernel
theorem o0_28 : decode k0 28 = .ok (.ireturn, 1) := by decide +kernel
theorem o0_29 : decode k0 29 = .ok (.iload_n 2, 1) := by decide +kernel
theorem o0_30 : decode k0 30 = .ok (.sipush 2048, 3) := by decide +kernel
theorem o0_33 : decode k0 33 = .ok (.if_icmp .ge 33, 3) := by decide +kernel
theorem o0_36 : decode k0 36 = .ok (.aload_n 0, 1) := by decide +kernel
theorem o0_37 : decode k0 37 = .ok (.iload_n 1, 1) := by decide +kernel
theorem o0_38 : decode k0 38 = .ok (.sipush 192, 3) := by decide +kernel
theorem o0_41 : decode k0 41 = .ok (.iload_n 2, 1) := by decide +kernel
theorem o0_42 : decode k0 42 = .ok (.bipush 6, 2) := by decide +kernel
theorem o0_44 : decode k0 44 = .ok (.ishr, 1) := by decide +kernel
theorem o0_45 : decode k0 45 = .ok (.ior, 1) := by decide +kernel
theorem o0_46 : decode k0 46 = .ok (.i2b, 1) := by decide +kernel
theorem o0_47 : decode k0 47 = .ok (.bastore, 1) := by decide +kernel
theorem o0_48 : decode k0 48 = .ok (.aload_n 0, 1) := by decide +kernel
theorem o0_49 : decode k0 49 = .ok (.iload_n 1, 1) := by decide +kernel
theorem o0_50 : decode k0 50 = .ok (.iconst 1, 1) := by decide +kernel
theorem o0_51 : decode k0 51 = .ok (.iadd, 1) := by decide +kernel
theorem o0_52 : decode k0 52 = .ok (.sipush 128, 3) := by decide +kernel
theorem o0_55 : decode k0 55 = .ok (.iload_n 2, 1) := by decide +kernel
theorem o0_56 : decode k0 56 = .ok (.bipush 63, 2) := by decide +kernel
theorem o0_58 : decode k0 58 = .ok (.iand, 1) := by decide +kernel
theorem o0_59 : decode k0 59 = .ok (.ior, 1) := by decide +kernel
theorem o0_60 : decode k0 60 = .ok (.i2b, 1) := by decide +kernel
theorem o0_61 : decode k0 61 = .ok (.bastore, 1) := by decide +kernel
theorem o0_62 : decode k0 62 = .ok (.iload_n 1, 1) := by decide +kernel
theorem o0_63 : decode k0 63 = .ok (.iconst 2, 1) := by decide +kernel
theorem o0_64 : decode k0 64 = .ok (.iadd, 1) := by decide +kernel
theorem o0_65 : decode k0 65 = .ok (.ireturn, 1) := by decide +kernel
theorem o0_66 : decode k0 66 = .ok (.iload_n 2, 1) := by decide +kernel
theorem o0_67 : decode k0 67 = .ok (.ldc 40, 2) := by decide +kernel
theorem o0_69 : decode k0 69 = .ok (.if_icmp .ge 50, 3) := by decide +kernel
theorem o0_72 : decode k0 72 = .ok (.aload_n 0, 1) := by decide +kernel
theorem o0_73 : decode k0 73 = .ok (.iload_n 1, 1) := by decide +kernel
theorem o0_74 : decode k0 74 = .ok (.sipush 224, 3) := by decide +kernel
theorem o0_77 : decode k0 77 = .ok (.iload_n 2, 1) := by decide +kernel
theorem o0_78 : decode k0 78 = .ok (.bipush 12, 2) := by decide +kernel
theorem o0_80 : decode k0 80 = .ok (.ishr, 1) := by decide +kernel
theorem o0_81 : decode k0 81 = .ok (.ior, 1) := by decide +kernel
theorem o0_82 : decode k0 82 = .ok (.i2b, 1) := by decide +kernel
theorem o0_83 : decode k0 83 = .ok (.bastore, 1) := by decide +kernel
theorem o0_84 : decode k0 84 = .ok (.aload_n 0, 1) := by decide +kernel
theorem o0_85 : decode k0 85 = .ok (.iload_n 1, 1) := by decide +kernel
theorem o0_86 : decode k0 86 = .ok (.iconst 1, 1) := by decide +kernel
theorem o0_87 : decode k0 87 = .ok (.iadd, 1) := by decide +kernel
theorem o0_88 : decode k0 88 = .ok (.sipush 128, 3) := by decide +kernel
theorem o0_91 : decode k0 91 = .ok (.iload_n 2, 1) := by decide +kernel
theorem o0_92 : decode k0 92 = .ok (.bipush 6, 2) := by decide +kernel
theorem o0_94 : decode k0 94 = .ok (.ishr, 1) := by decide +kernel
theorem o0_95 : decode k0 95 = .ok (.bipush 63, 2) := by decide +kernel
theorem o0_97 : decode k0 97 = .ok (.iand, 1) := by decide +kernel
theorem o0_98 : decode k0 98 = .ok (.ior, 1) := by decide +kernel
theorem o0_99 : decode k0 99 = .ok (.i2b, 1) := by decide +kernel
theorem o0_100 : decode k0 100 = .ok (.bastore, 1) := by decide +kernel
theorem o0_101 : decode k0 101 = .ok (.aload_n 0, 1) := by decide +kernel
theorem o0_102 : decode k0 102 = .ok (.iload_n 1, 1) := by decide +kernel
theorem o0_103 : decode k0 103 = .ok (.iconst 2, 1) := by decide +kernel
theorem o0_104 : decode k0 104 = .ok (.iadd, 1) := by decide +kernel
theorem o0_105 : decode k0 105 = .ok (.sipush 128, 3) := by decide +kernel
theorem o0_108 : decode k0 108 = .ok (.iload_n 2, 1) := by decide +kernel
theorem o0_109 : decode k0 109 = .ok (.bipush 63, 2) := by decide +kernel
theorem o0_111 : decode k0 111 = .ok (.iand, 1) := by decide +kernel
theorem o0_112 : decode k0 112 = .ok (.ior, 1) := by decide +kernel
theorem o0_113 : decode k0 113 = .ok (.i2b, 1) := by decide +kernel
theorem o0_114 : decode k0 114 = .ok (.bastore, 1) := by decide +kernel
theorem o0_115 : decode k0 115 = .ok (.iload_n 1, 1) := by decide +kernel
theorem o0_116 : decode k0 116 = .ok (.iconst 3, 1) := by decide +kernel
theorem o0_117 : decode k0 117 = .ok (.iadd, 1) := by decide +kernel
theorem o0_118 : decode k0 118 = .ok (.ireturn, 1) := by decide +kernel
theorem o0_119 : decode k0 119 = .ok (.aload_n 0, 1) := by decide +kernel
theorem o0_120 : decode k0 120 = .ok (.iload_n 1, 1) := by decide +kernel
theorem o0_121 : decode k0 121 = .ok (.sipush 240, 3) := by decide +kernel
theorem o0_124 : decode k0 124 = .ok (.iload_n 2, 1) := by decide +kernel
theorem o0_125 : decode k0 125 = .ok (.bipush 18, 2) := by decide +kernel
theorem o0_127 : decode k0 127 = .ok (.ishr, 1) := by decide +kernel
theorem o0_128 : decode k0 128 = .ok (.ior, 1) := by decide +kernel
theorem o0_129 : decode k0 129 = .ok (.i2b, 1) := by decide +kernel
theorem o0_130 : decode k0 130 = .ok (.bastore, 1) := by decide +kernel
theorem o0_131 : decode k0 131 = .ok (.aload_n 0, 1) := by decide +kernel
theorem o0_132 : decode k0 132 = .ok (.iload_n 1, 1) := by decide +kernel
theorem o0_133 : decode k0 133 = .ok (.iconst 1, 1) := by decide +kernel
theorem o0_134 : decode k0 134 = .ok (.iadd, 1) := by decide +kernel
theorem o0_135 : decode k0 135 = .ok (.sipush 128, 3) := by decide +kernel
theorem o0_138 : decode k0 138 = .ok (.iload_n 2, 1) := by decide +kernel
theorem o0_139 : decode k0 139 = .ok (.bipush 12, 2) := by decide +kernel
theorem o0_141 : decode k0 141 = .ok (.ishr, 1) := by decide +kernel
theorem o0_142 : decode k0 142 = .ok (.bipush 63, 2) := by decide +kernel
theorem o0_144 : decode k0 144 = .ok (.iand, 1) := by decide +kernel
theorem o0_145 : decode k0 145 = .ok (.ior, 1) := by decide +kernel
theorem o0_146 : decode k0 146 = .ok (.i2b, 1) := by decide +kernel
theorem o0_147 : decode k0 147 = .ok (.bastore, 1) := by decide +kernel
theorem o0_148 : decode k0 148 = .ok (.aload_n 0, 1) := by decide +kernel
theorem o0_149 : decode k0 149 = .ok (.iload_n 1, 1) := by decide +kernel
theorem o0_150 : decode k0 150 = .ok (.iconst 2, 1) := by decide +kernel
theorem o0_151 : decode k0 151 = .ok (.iadd, 1) := by decide +kernel
theorem o0_152 : decode k0 152 = .ok (.sipush 128, 3) := by decide +kernel
theorem o0_155 : decode k0 155 = .ok (.iload_n 2, 1) := by decide +kernel
theorem o0_156 : decode k0 156 = .ok (.bipush 6, 2) := by decide +kernel
theorem o0_158 : decode k0 158 = .ok (.ishr, 1) := by decide +kernel
theorem o0_159 : decode k0 159 = .ok (.bipush 63, 2) := by decide +kernel
theorem o0_161 : decode k0 161 = .ok (.iand, 1) := by decide +kernel
theorem o0_162 : decode k0 162 = .ok (.ior, 1) := by decide +kernel
theorem o0_163 : decode k0 163 = .ok (.i2b, 1) := by decide +kernel
theorem o0_164 : decode k0 164 = .ok (.bastore, 1) := by decide +kernel
theorem o0_165 : decode k0 165 = .ok (.aload_n 0, 1) := by decide +kernel
theorem o0_166 : decode k0 166 = .ok (.iload_n 1, 1) := by decide +kernel
theorem o0_167 : decode k0 167 = .ok (.iconst 3, 1) := by decide +kernel
theorem o0_168 : decode k0 168 = .ok (.iadd, 1) := by decide +kernel
theorem o0_169 : decode k0 169 = .ok (.sipush 128, 3) := by decide +kernel
theorem o0_172 : decode k0 172 = .ok (.iload_n 2, 1) := by decide +kernel
theorem o0_173 : decode k0 173 = .ok (.bipush 63, 2) := by decide +kernel
theorem o0_175 : decode k0 175 = .ok (.iand, 1) := by decide +kernel
theorem o0_176 : decode k0 176 = .ok (.ior, 1) := by decide +kernel
theorem o0_177 : decode k0 177 = .ok (.i2b, 1) := by decide +kernel
theorem o0_178 : decode k0 178 = .ok (.bastore, 1) := by decide +kernel
theorem o0_179 : decode k0 179 = .ok (.iload_n 1, 1) := by decide +kernel
theorem o0_180 : decode k0 180 = .ok (.iconst 4, 1) := by decide +kernel
theorem o0_181 : decode k0 181 = .ok (.iadd, 1) := by decide +kernel
theorem o0_182 : decode k0 182 = .ok (.ireturn, 1) := by decide +kernel
theorem o1_0 : decode k1 0 = .ok (.aload_n 0, 1) := by decide +kernel
theorem o1_1 : decode k1 1 = .ok (.iload_n 2, 1) := by decide +kernel
theorem o1_2 : decode k1 2 = .ok (.caload, 1) := by decide +kernel
theorem o1_3 : decode k1 3 = .ok (.istore_n 3, 1) := by decide +kernel
theorem o1_4 : decode k1 4 = .ok (.iload_n 3, 1) := by decide +kernel
theorem o1_5 : decode k1 5 = .ok (.ldc 45, 2) := by decide +kernel
theorem o1_7 : decode k1 7 = .ok (.if_icmp .lt 54, 3) := by decide +kernel
theorem o1_61 : decode k1 61 = .ok (.iload_n 3, 1) := by decide +kernel
theorem o1_62 : decode k1 62 = .ok (.ldc 45, 2) := by decide +kernel
theorem o1_64 : decode k1 64 = .ok (.if_icmp .lt 11, 3) := by decide +kernel
theorem o1_75 : decode k1 75 = .ok (.iload_n 3, 1) := by decide +kernel
theorem o1_76 : decode k1 76 = .ok (.ireturn, 1) := by decide +kernel
theorem o1_67 : decode k1 67 = .ok (.iload_n 3, 1) := by decide +kernel
theorem o1_68 : decode k1 68 = .ok (.ldc 48, 2) := by decide +kernel
theorem o1_70 : decode k1 70 = .ok (.if_icmp .gt 5, 3) := by decide +kernel
theorem o1_73 : decode k1 73 = .ok (.iconst (-1), 1) := by decide +kernel
theorem o1_74 : decode k1 74 = .ok (.ireturn, 1) := by decide +kernel
theorem o1_10 : decode k1 10 = .ok (.iload_n 3, 1) := by decide +kernel
theorem o1_11 : decode k1 11 = .ok (.ldc 46, 2) := by decide +kernel
theorem o1_13 : decode k1 13 = .ok (.if_icmp .gt 48, 3) := by decide +kernel
theorem o1_16 : decode k1 16 = .ok (.iload_n 2, 1) := by decide +kernel
theorem o1_17 : decode k1 17 = .ok (.iconst 1, 1) := by decide +kernel
theorem o1_18 : decode k1 18 = .ok (.iadd, 1) := by decide +kernel
theorem o1_19 : decode k1 19 = .ok (.iload_n 1, 1) := by decide +kernel
theorem o1_20 : decode k1 20 = .ok (.if_icmp .ge 41, 3) := by decide +kernel
theorem o1_23 : decode k1 23 = .ok (.aload_n 0, 1) := by decide +kernel
theorem o1_24 : decode k1 24 = .ok (.iload_n 2, 1) := by decide +kernel
theorem o1_25 : decode k1 25 = .ok (.iconst 1, 1) := by decide +kernel
theorem o1_26 : decode k1 26 = .ok (.iadd, 1) := by decide +kernel
theorem o1_27 : decode k1 27 = .ok (.caload, 1) := by decide +kernel
theorem o1_28 : decode k1 28 = .ok (.istore 4, 2) := by decide +kernel
theorem o1_30 : decode k1 30 = .ok (.iload 4, 2) := by decide +kernel
theorem o1_32 : decode k1 32 = .ok (.ldc 47, 2) := by decide +kernel
theorem o1_34 : decode k1 34 = .ok (.if_icmp .lt 27, 3) := by decide +kernel
theorem o1_37 : decode k1 37 = .ok (.iload 4, 2) := by decide +kernel
theorem o1_39 : decode k1 39 = .ok (.ldc 48, 2) := by decide +kernel
theorem o1_41 : decode k1 41 = .ok (.if_icmp .gt 20, 3) := by decide +kernel
theorem o1_44 : decode k1 44 = .ok (.iload_n 3, 1) := by decide +kernel
theorem o1_45 : decode k1 45 = .ok (.ldc 45, 2) := by decide +kernel
theorem o1_47 : decode k1 47 = .ok (.isub, 1) := by decide +kernel
theorem o1_48 : decode k1 48 = .ok (.bipush 10, 2) := by decide +kernel
theorem o1_50 : decode k1 50 = .ok (.ishl, 1) := by decide +kernel
theorem o1_51 : decode k1 51 = .ok (.iload 4, 2) := by decide +kernel
theorem o1_53 : decode k1 53 = .ok (.ldc 47, 2) := by decide +kernel
theorem o1_55 : decode k1 55 = .ok (.isub, 1) := by decide +kernel
theorem o1_56 : decode k1 56 = .ok (.iadd, 1) := by decide +kernel
theorem o1_57 : decode k1 57 = .ok (.ldc 40, 2) := by decide +kernel
theorem o1_59 : decode k1 59 = .ok (.iadd, 1) := by decide +kernel
theorem o1_60 : decode k1 60 = .ok (.ireturn, 1) := by decide +kernel
theorem o2_0 : decode k2 0 = .ok (.iload_n 0, 1) := by decide +kernel
theorem o2_1 : decode k2 1 = .ok (.ldc 75, 2) := by decide +kernel
theorem o2_3 : decode k2 3 = .ok (.if_icmp .lt 13, 3) := by decide +kernel
theorem o2_16 : decode k2 16 = .ok (.iconst 0, 1) := by decide +kernel
theorem o2_17 : decode k2 17 = .ok (.ireturn, 1) := by decide +kernel
theorem o2_6 : decode k2 6 = .ok (.iload_n 0, 1) := by decide +kernel
theorem o2_7 : decode k2 7 = .ok (.ldc 77, 2) := by decide +kernel
theorem o2_9 : decode k2 9 = .ok (.if_icmp .ge 7, 3) := by decide +kernel
theorem o2_12 : decode k2 12 = .ok (.iconst 1, 1) := by decide +kernel
theorem o2_13 : decode k2 13 = .ok (.goto 4, 3) := by decide +kernel
theorem o3_0 : decode k3 0 = .ok (.iload_n 0, 1) := by decide +kernel
theorem o3_1 : decode k3 1 = .ok (.ldc 75, 2) := by decide +kernel
theorem o3_3 : decode k3 3 = .ok (.if_icmp .lt 13, 3) := by decide +kernel
theorem o3_16 : decode k3 16 = .ok (.iconst 0, 1) := by decide +kernel
theorem o3_17 : decode k3 17 = .ok (.ireturn, 1) := by decide +kernel
theorem o3_6 : decode k3 6 = .ok (.iload_n 0, 1) := by decide +kernel
theorem o3_7 : decode k3 7 = .ok (.ldc 76, 2) := by decide +kernel
theorem o3_9 : decode k3 9 = .ok (.if_icmp .ge 7, 3) := by decide +kernel
theorem o3_12 : decode k3 12 = .ok (.iconst 1, 1) := by decide +kernel
theorem o3_13 : decode k3 13 = .ok (.goto 4, 3) := by decide +kernel
theorem o4_0 : decode k4 0 = .ok (.iload_n 0, 1) := by decide +kernel
theorem o4_1 : decode k4 1 = .ok (.ldc 76, 2) := by decide +kernel
theorem o4_3 : decode k4 3 = .ok (.if_icmp .lt 13, 3) := by decide +kernel
theorem o4_16 : decode k4 16 = .ok (.iconst 0, 1) := by decide +kernel
theorem o4_17 : decode k4 17 = .ok (.ireturn, 1) := by decide +kernel
theorem o4_6 : decode k4 6 = .ok (.iload_n 0, 1) := by decide +kernel
theorem o4_7 : decode k4 7 = .ok (.ldc 77, 2) := by decide +kernel
theorem o4_9 : decode k4 9 = .ok (.if_icmp .ge 7, 3) := by decide +kernel
theorem o4_12 : decode k4 12 = .ok (.iconst 1, 1) := by decide +kernel
theorem o4_13 : decode k4 13 = .ok (.goto 4, 3) := by decide +kernel
theorem o5_0 : decode k5 0 = .ok (.iload_n 0, 1) := by decide +kernel
theorem o5_1 : decode k5 1 = .ok (.bipush 10, 2) := by decide +kernel
theorem o5_3 : decode k5 3 = .ok (.ishl, 1) := by decide +kernel
theorem o5_4 : decode k5 4 = .ok (.iload_n 1, 1) := by decide +kernel
theorem o5_5 : decode k5 5 = .ok (.iadd, 1) := by decide +kernel
theorem o5_6 : decode k5 6 = .ok (.ldc 85, 2) := by decide +kernel
theorem o5_8 : decode k5 8 = .ok (.iadd, 1) := by decide +kernel
theorem o5_9 : decode k5 9 = .ok (.ireturn, 1) := by decide +kernel
theorem o6_0 : decode k6 0 = .ok (.iload_n 0, 1) := by decide +kernel
theorem o6_1 : decode k6 1 = .ok (.ifCond .ge 11, 3) := by decide +kernel
theorem o6_12 : decode k6 12 = .ok (.iload_n 0, 1) := by decide +kernel
theorem o6_13 : decode k6 13 = .ok (.ldc 20, 2) := by decide +kernel
theorem o6_15 : decode k6 15 = .ok (.if_icmp .lt 40, 3) := by decide +kernel
theorem o6_55 : decode k6 55 = .ok (.iload_n 0, 1) := by decide +kernel
theorem o6_56 : decode k6 56 = .ok (.iconst 1, 1) := by decide +kernel
theorem o6_57 : decode k6 57 = .ok (.ishl, 1) := by decide +kernel
theorem o6_58 : decode k6 58 = .ok (.ireturn, 1) := by decide +kernel
theorem o7_0 : decode k7 0 = .ok (.iload_n 0, 1) := by decide +kernel
theorem o7_1 : decode k7 1 = .ok (.invokestatic 11, 3) := by decide +kernel
theorem o7_4 : decode k7 4 = .ok (.newarray .byte, 2) := by decide +kernel
theorem o7_6 : decode k7 6 = .ok (.areturn, 1) := by decide +kernel
theorem o8_0 : decode k8 0 = .ok (.getstatic 44, 3) := by decide +kernel
theorem o8_3 : decode k8 3 = .ok (.ifCond .ne 25, 3) := by decide +kernel
theorem o8_28 : decode k8 28 = .ok (.iload_n 1, 1) := by decide +kernel
theorem o8_29 : decode k8 29 = .ok (.iconst 1, 1) := by decide +kernel
theorem o8_30 : decode k8 30 = .ok (.ishl, 1) := by decide +kernel
theorem o8_31 : decode k8 31 = .ok (.istore_n 1, 1) := by decide +kernel
theorem o8_32 : decode k8 32 = .ok (.aload_n 0, 1) := by decide +kernel
theorem o8_33 : decode k8 33 = .ok (.iload_n 1, 1) := by decide +kernel
theorem o8_34 : decode k8 34 = .ok (.iinc 1 1, 3) := by decide +kernel
theorem o8_37 : decode k8 37 = .ok (.iload_n 2, 1) := by decide +kernel
theorem o8_38 : decode k8 38 = .ok (.getstatic 59, 3) := by decide +kernel
theorem o8_41 : decode k8 41 = .ok (.ishr, 1) := by decide +kernel
theorem o8_42 : decode k8 42 = .ok (.i2b, 1) := by decide +kernel
theorem o8_43 : decode k8 43 = .ok (.bastore, 1) := by decide +kernel
theorem o8_44 : decode k8 44 = .ok (.aload_n 0, 1) := by decide +kernel
theorem o8_45 : decode k8 45 = .ok (.iload_n 1, 1) := by decide +kernel
theorem o8_46 : decode k8 46 = .ok (.iload_n 2, 1) := by decide +kernel
theorem o8_47 : decode k8 47 = .ok (.getstatic 63, 3) := by decide +kernel
theorem o8_50 : decode k8 50 = .ok (.ishr, 1) := by decide +kernel
theorem o8_51 : decode k8 51 = .ok (.i2b, 1) := by decide +kernel
theorem o8_52 : decode k8 52 = .ok (.bastore, 1) := by decide +kernel
theorem o8_53 : decode k8 53 = .ok (.return_, 1) := by decide +kernel
theorem o9_0 : decode k9 0 = .ok (.getstatic 44, 3) := by decide +kernel
theorem o9_3 : decode k9 3 = .ok (.ifCond .ne 25, 3) := by decide +kernel
theorem o9_28 : decode k9 28 = .ok (.iload_n 1, 1) := by decide +kernel
theorem o9_29 : decode k9 29 = .ok (.iconst 1, 1) := by decide +kernel
theorem o9_30 : decode k9 30 = .ok (.ishl, 1) := by decide +kernel
theorem o9_31 : decode k9 31 = .ok (.istore_n 1, 1) := by decide +kernel
theorem o9_32 : decode k9 32 = .ok (.aload_n 0, 1) := by decide +kernel
theorem o9_33 : decode k9 33 = .ok (.iload_n 1, 1) := by decide +kernel
theorem o9_34 : decode k9 34 = .ok (.iinc 1 1, 3) := by decide +kernel
theorem o9_37 : decode k9 37 = .ok (.baload, 1) := by decide +kernel
theorem o9_38 : decode k9 38 = .ok (.sipush 255, 3) := by decide +kernel
theorem o9_41 : decode k9 41 = .ok (.iand, 1) := by decide +kernel
theorem o9_42 : decode k9 42 = .ok (.getstatic 59, 3) := by decide +kernel
theorem o9_45 : decode k9 45 = .ok (.ishl, 1) := by decide +kernel
theorem o9_46 : decode k9 46 = .ok (.aload_n 0, 1) := by decide +kernel
theorem o9_47 : decode k9 47 = .ok (.iload_n 1, 1) := by decide +kernel
theorem o9_48 : decode k9 48 = .ok (.baload, 1) := by decide +kernel
theorem o9_49 : decode k9 49 = .ok (.sipush 255, 3) := by decide +kernel
theorem o9_52 : decode k9 52 = .ok (.iand, 1) := by decide +kernel
theorem o9_53 : decode k9 53 = .ok (.getstatic 63, 3) := by decide +kernel
theorem o9_56 : decode k9 56 = .ok (.ishl, 1) := by decide +kernel
theorem o9_57 : decode k9 57 = .ok (.ior, 1) := by decide +kernel
theorem o9_58 : decode k9 58 = .ok (.i2c, 1) := by decide +kernel
theorem o9_59 : decode k9 59 = .ok (.ireturn, 1) := by decide +kernel
theorem o10_0 : decode k10 0 = .ok (.iconst 0, 1) := by decide +kernel
theorem o10_1 : decode k10 1 = .ok (.istore 5, 2) := by decide +kernel
theorem o10_3 : decode k10 3 = .ok (.iload 5, 2) := by decide +kernel
theorem o10_5 : decode k10 5 = .ok (.iload 4, 2) := by decide +kernel
theorem o10_7 : decode k10 7 = .ok (.if_icmp .ge 37, 3) := by decide +kernel
theorem o10_44 : decode k10 44 = .ok (.iload 4, 2) := by decide +kernel
theorem o10_46 : decode k10 46 = .ok (.ireturn, 1) := by decide +kernel
theorem o10_10 : decode k10 10 = .ok (.aload_n 0, 1) := by decide +kernel
theorem o10_11 : decode k10 11 = .ok (.iload_n 1, 1) := by decide +kernel
theorem o10_12 : decode k10 12 = .ok (.caload, 1) := by decide +kernel
theorem o10_13 : decode k10 13 = .ok (.istore 6, 2) := by decide +kernel
theorem o10_15 : decode k10 15 = .ok (.iload 6, 2) := by decide +kernel
theorem o10_17 : decode k10 17 = .ok (.sipush 255, 3) := by decide +kernel
theorem o10_20 : decode k10 20 = .ok (.if_icmp .le 6, 3) := by decide +kernel
theorem o10_23 : decode k10 23 = .ok (.iload 5, 2) := by decide +kernel
theorem o10_25 : decode k10 25 = .ok (.ireturn, 1) := by decide +kernel
theorem o10_26 : decode k10 26 = .ok (.aload_n 2, 1) := by decide +kernel
theorem o10_27 : decode k10 27 = .ok (.iload_n 3, 1) := by decide +kernel
theorem o10_28 : decode k10 28 = .ok (.iload 6, 2) := by decide +kernel
theorem o10_30 : decode k10 30 = .ok (.i2b, 1) := by decide +kernel
theorem o10_31 : decode k10 31 = .ok (.bastore, 1) := by decide +kernel
theorem o10_32 : decode k10 32 = .ok (.iinc 1 1, 3) := by decide +kernel
theorem o10_35 : decode k10 35 = .ok (.iinc 3 1, 3) := by decide +kernel
theorem o10_38 : decode k10 38 = .ok (.iinc 5 1, 3) := by decide +kernel
theorem o10_41 : decode k10 41 = .ok (.goto (-38), 3) := by decide +kernel
theorem o11_0 : decode k11 0 = .ok (.iload_n 2, 1) := by decide +kernel
theorem o11_1 : decode k11 1 = .ok (.invokestatic 107, 3) := by decide +kernel
theorem o11_4 : decode k11 4 = .ok (.astore_n 3, 1) := by decide +kernel
theorem o11_5 : decode k11 5 = .ok (.iconst 0, 1) := by decide +kernel
theorem o11_6 : decode k11 6 = .ok (.istore 4, 2) := by decide +kernel
theorem o11_8 : decode k11 8 = .ok (.iload 4, 2) := by decide +kernel
theorem o11_10 : decode k11 10 = .ok (.iload_n 2, 1) := by decide +kernel
theorem o11_11 : decode k11 11 = .ok (.if_icmp .ge 21, 3) := by decide +kernel
theorem o11_32 : decode k11 32 = .ok (.aload_n 3, 1) := by decide +kernel
theorem o11_33 : decode k11 33 = .ok (.areturn, 1) := by decide +kernel
theorem o11_14 : decode k11 14 = .ok (.aload_n 3, 1) := by decide +kernel
theorem o11_15 : decode k11 15 = .ok (.iload 4, 2) := by decide +kernel
theorem o11_17 : decode k11 17 = .ok (.aload_n 0, 1) := by decide +kernel
theorem o11_18 : decode k11 18 = .ok (.iload_n 1, 1) := by decide +kernel
theorem o11_19 : decode k11 19 = .ok (.caload, 1) := by decide +kernel
theorem o11_20 : decode k11 20 = .ok (.invokestatic 111, 3) := by decide +kernel
theorem o11_23 : decode k11 23 = .ok (.iinc 1 1, 3) := by decide +kernel
theorem o11_26 : decode k11 26 = .ok (.iinc 4 1, 3) := by decide +kernel
theorem o11_29 : decode k11 29 = .ok (.goto (-21), 3) := by decide +kernel
theorem o12_0 : decode k12 0 = .ok (.iload_n 2, 1) := by decide +kernel
theorem o12_1 : decode k12 1 = .ok (.newarray .byte, 2) := by decide +kernel
theorem o12_3 : decode k12 3 = .ok (.astore_n 3, 1) := by decide +kernel
theorem o12_4 : decode k12 4 = .ok (.aload_n 0, 1) := by decide +kernel
theorem o12_5 : decode k12 5 = .ok (.iload_n 1, 1) := by decide +kernel
theorem o12_6 : decode k12 6 = .ok (.aload_n 3, 1) := by decide +kernel
theorem o12_7 : decode k12 7 = .ok (.iconst 0, 1) := by decide +kernel
theorem o12_8 : decode k12 8 = .ok (.iload_n 2, 1) := by decide +kernel
theorem o12_9 : decode k12 9 = .ok (.invokestatic 115, 3) := by decide +kernel
theorem o12_12 : decode k12 12 = .ok (.istore 4, 2) := by decide +kernel
theorem o12_14 : decode k12 14 = .ok (.iload 4, 2) := by decide +kernel
theorem o12_16 : decode k12 16 = .ok (.iload_n 2, 1) := by decide +kernel
theorem o12_17 : decode k12 17 = .ok (.if_icmp .eq 40, 3) := by decide +kernel
theorem o12_57 : decode k12 57 = .ok (.aload_n 3, 1) := by decide +kernel
theorem o12_58 : decode k12 58 = .ok (.areturn, 1) := by decide +kernel
theorem o12_20 : decode k12 20 = .ok (.aload_n 0, 1) := by decide +kernel
theorem o12_21 : decode k12 21 = .ok (.iload_n 1, 1) := by decide +kernel
theorem o12_22 : decode k12 22 = .ok (.iload_n 2, 1) := by decide +kernel
theorem o12_23 : decode k12 23 = .ok (.invokestatic 119, 3) := by decide +kernel
theorem o12_26 : decode k12 26 = .ok (.astore 5, 2) := by decide +kernel
theorem o12_28 : decode k12 28 = .ok (.aload 5, 2) := by decide +kernel
theorem o12_30 : decode k12 30 = .ok (.iload 4, 2) := by decide +kernel
theorem o12_32 : decode k12 32 = .ok (.invokestatic 71, 3) := by decide +kernel
theorem o12_35 : decode k12 35 = .ok (.sipush 255, 3) := by decide +kernel
theorem o12_38 : decode k12 38 = .ok (.if_icmp .gt 16, 3) := by decide +kernel
theorem o12_54 : decode k12 54 = .ok (.aload 5, 2) := by decide +kernel
theorem o12_56 : decode k12 56 = .ok (.areturn, 1) := by decide +kernel
theorem o13_0 : decode k13 0 = .ok (.iload_n 1, 1) := by decide +kernel
theorem o13_1 : decode k13 1 = .ok (.aload_n 0, 1) := by decide +kernel
theorem o13_2 : decode k13 2 = .ok (.arraylength, 1) := by decide +kernel
theorem o13_3 : decode k13 3 = .ok (.isub, 1) := by decide +kernel
theorem o13_4 : decode k13 4 = .ok (.bipush 31, 2) := by decide +kernel
theorem o13_6 : decode k13 6 = .ok (.iushr, 1) := by decide +kernel
theorem o13_7 : decode k13 7 = .ok (.i2b, 1) := by decide +kernel
theorem o13_8 : decode k13 8 = .ok (.ireturn, 1) := by decide +kernel
theorem o14_0 : decode k14 0 = .ok (.aload_n 0, 1) := by decide +kernel
theorem o14_1 : decode k14 1 = .ok (.invokespecial 1, 3) := by decide +kernel
theorem o14_4 : decode k14 4 = .ok (.iload_n 3, 1) := by decide +kernel
theorem o14_5 : decode k14 5 = .ok (.ifCond .ne 22, 3) := by decide +kernel
theorem o14_27 : decode k14 27 = .ok (.getstatic 38, 3) := by decide +kernel
theorem o14_30 : decode k14 30 = .ok (.ifCond .eq 28, 3) := by decide +kernel
theorem o14_33 : decode k14 33 = .ok (.aload_n 1, 1) := by decide +kernel
theorem o14_34 : decode k14 34 = .ok (.iload_n 2, 1) := by decide +kernel
theorem o14_35 : decode k14 35 = .ok (.iload_n 3, 1) := by decide +kernel
theorem o14_36 : decode k14 36 = .ok (.invokestatic 177, 3) := by decide +kernel
theorem o14_39 : decode k14 39 = .ok (.astore 5, 2) := by decide +kernel
theorem o14_41 : decode k14 41 = .ok (.aload_n 0, 1) := by decide +kernel
theorem o14_42 : decode k14 42 = .ok (.aload 5, 2) := by decide +kernel
theorem o14_44 : decode k14 44 = .ok (.iload_n 3, 1) := by decide +kernel
theorem o14_45 : decode k14 45 = .ok (.invokestatic 47, 3) := by decide +kernel
theorem o14_48 : decode k14 48 = .ok (.putfield 15, 3) := by decide +kernel
theorem o14_51 : decode k14 51 = .ok (.aload_n 0, 1) := by decide +kernel
theorem o14_52 : decode k14 52 = .ok (.aload 5, 2) := by decide +kernel
theorem o14_54 : decode k14 54 = .ok (.putfield 9, 3) := by decide +kernel
theorem o14_57 : decode k14 57 = .ok (.return_, 1) := by decide +kernel
theorem o15_0 : decode k15 0 = .ok (.getstatic 38, 3) := by decide +kernel
theorem o15_3 : decode k15 3 = .ok (.ifCond .eq 10, 3) := by decide +kernel
theorem o15_6 : decode k15 6 = .ok (.aload_n 0, 1) := by decide +kernel
theorem o15_7 : decode k15 7 = .ok (.getfield 15, 3) := by decide +kernel
theorem o15_10 : decode k15 10 = .ok (.goto 4, 3) := by decide +kernel
theorem o15_14 : decode k15 14 = .ok (.ireturn, 1) := by decide +kernel
theorem o16_0 : decode k16 0 = .ok (.iload_n 1, 1) := by decide +kernel
theorem o16_1 : decode k16 1 = .ok (.iload_n 2, 1) := by decide +kernel
theorem o16_2 : decode k16 2 = .ok (.iadd, 1) := by decide +kernel
theorem o16_3 : decode k16 3 = .ok (.istore_n 3, 1) := by decide +kernel
theorem o16_4 : decode k16 4 = .ok (.iload_n 1, 1) := by decide +kernel
theorem o16_5 : decode k16 5 = .ok (.istore 4, 2) := by decide +kernel
theorem o16_7 : decode k16 7 = .ok (.iload 4, 2) := by decide +kernel
theorem o16_9 : decode k16 9 = .ok (.iload_n 3, 1) := by decide +kernel
theorem o16_10 : decode k16 10 = .ok (.if_icmp .ge 21, 3) := by decide +kernel
theorem o16_31 : decode k16 31 = .ok (.iload_n 2, 1) := by decide +kernel
theorem o16_32 : decode k16 32 = .ok (.ireturn, 1) := by decide +kernel
theorem o16_13 : decode k16 13 = .ok (.aload_n 0, 1) := by decide +kernel
theorem o16_14 : decode k16 14 = .ok (.iload 4, 2) := by decide +kernel
theorem o16_16 : decode k16 16 = .ok (.baload, 1) := by decide +kernel
theorem o16_17 : decode k16 17 = .ok (.ifCond .ge 8, 3) := by decide +kernel
theorem o16_20 : decode k16 20 = .ok (.iload 4, 2) := by decide +kernel
theorem o16_22 : decode k16 22 = .ok (.iload_n 1, 1) := by decide +kernel
theorem o16_23 : decode k16 23 = .ok (.isub, 1) := by decide +kernel
theorem o16_24 : decode k16 24 = .ok (.ireturn, 1) := by decide +kernel
theorem o16_25 : decode k16 25 = .ok (.iinc 4 1, 3) := by decide +kernel
theorem o16_28 : decode k16 28 = .ok (.goto (-21), 3) := by decide +kernel
theorem o17_0 : decode k17 0 = .ok (.aload_n 0, 1) := by decide +kernel
theorem o17_1 : decode k17 1 = .ok (.iload_n 1, 1) := by decide +kernel
theorem o17_2 : decode k17 2 = .ok (.iload_n 2, 1) := by decide +kernel
theorem o17_3 : decode k17 3 = .ok (.invokestatic 7, 3) := by decide +kernel
theorem o17_6 : decode k17 6 = .ok (.iload_n 2, 1) := by decide +kernel
theorem o17_7 : decode k17 7 = .ok (.if_icmp .eq 7, 3) := by decide +kernel
theorem o17_14 : decode k17 14 = .ok (.iconst 0, 1) := by decide +kernel
theorem o17_15 : decode k17 15 = .ok (.ireturn, 1) := by decide +kernel
theorem o17_10 : decode k17 10 = .ok (.iconst 1, 1) := by decide +kernel
theorem o17_11 : decode k17 11 = .ok (.goto 4, 3) := by decide +kernel
theorem o18_0 : decode k18 0 = .ok (.iload_n 0, 1) := by decide +kernel
theorem o18_1 : decode k18 1 = .ok (.iload_n 1, 1) := by decide +kernel
theorem o18_2 : decode k18 2 = .ok (.if_icmp .gt 7, 3) := by decide +kernel
theorem o18_9 : decode k18 9 = .ok (.iload_n 1, 1) := by decide +kernel
theorem o18_10 : decode k18 10 = .ok (.ireturn, 1) := by decide +kernel
theorem o19_0 : decode k19 0 = .ok (.iload_n 1, 1) := by decide +kernel
theorem o19_1 : decode k19 1 = .ok (.aload_n 0, 1) := by decide +kernel
theorem o19_2 : decode k19 2 = .ok (.arraylength, 1) := by decide +kernel
theorem o19_3 : decode k19 3 = .ok (.if_icmp .ne 11, 3) := by decide +kernel
theorem o19_14 : decode k19 14 = .ok (.iload_n 1, 1) := by decide +kernel
theorem o19_15 : decode k19 15 = .ok (.newarray .byte, 2) := by decide +kernel
theorem o19_17 : decode k19 17 = .ok (.astore_n 2, 1) := by decide +kernel
theorem o19_18 : decode k19 18 = .ok (.aload_n 0, 1) := by decide +kernel
theorem o19_19 : decode k19 19 = .ok (.iconst 0, 1) := by decide +kernel
theorem o19_20 : decode k19 20 = .ok (.aload_n 2, 1) := by decide +kernel
theorem o19_21 : decode k19 21 = .ok (.iconst 0, 1) := by decide +kernel
theorem o19_22 : decode k19 22 = .ok (.aload_n 0, 1) := by decide +kernel
theorem o19_23 : decode k19 23 = .ok (.arraylength, 1) := by decide +kernel
theorem o19_24 : decode k19 24 = .ok (.iload_n 1, 1) := by decide +kernel
theorem o19_25 : decode k19 25 = .ok (.invokestatic 304, 3) := by decide +kernel
theorem o19_28 : decode k19 28 = .ok (.invokestatic 150, 3) := by decide +kernel
theorem o19_31 : decode k19 31 = .ok (.aload_n 2, 1) := by decide +kernel
theorem o19_32 : decode k19 32 = .ok (.areturn, 1) := by decide +kernel
theorem o20_0 : decode k20 0 = .ok (.iconst 0, 1) := by decide +kernel
theorem o20_1 : decode k20 1 = .ok (.istore_n 2, 1) := by decide +kernel
theorem o20_2 : decode k20 2 = .ok (.iconst 0, 1) := by decide +kernel
theorem o20_3 : decode k20 3 = .ok (.istore_n 3, 1) := by decide +kernel
theorem o20_4 : decode k20 4 = .ok (.aload_n 0, 1) := by decide +kernel
theorem o20_5 : decode k20 5 = .ok (.arraylength, 1) := by decide +kernel
theorem o20_6 : decode k20 6 = .ok (.iconst 1, 1) := by decide +kernel
theorem o20_7 : decode k20 7 = .ok (.ishr, 1) := by decide +kernel
theorem o20_8 : decode k20 8 = .ok (.istore 4, 2) := by decide +kernel
theorem o20_10 : decode k20 10 = .ok (.iload 4, 2) := by decide +kernel
theorem o20_12 : decode k20 12 = .ok (.iconst 3, 1) := by decide +kernel
theorem o20_13 : decode k20 13 = .ok (.imul, 1) := by decide +kernel
theorem o20_14 : decode k20 14 = .ok (.newarray .byte, 2) := by decide +kernel
theorem o20_16 : decode k20 16 = .ok (.astore 5, 2) := by decide +kernel
theorem o20_58 : decode k20 58 = .ok (.iload_n 3, 1) := by decide +kernel
theorem o20_59 : decode k20 59 = .ok (.iload 4, 2) := by decide +kernel
theorem o20_61 : decode k20 61 = .ok (.if_icmp .ge 294, 3) := by decide +kernel
theorem o20_355 : decode k20 355 = .ok (.iload_n 2, 1) := by decide +kernel
theorem o20_356 : decode k20 356 = .ok (.aload 5, 2) := by decide +kernel
theorem o20_358 : decode k20 358 = .ok (.arraylength, 1) := by decide +kernel
theorem o20_359 : decode k20 359 = .ok (.if_icmp .ne 6, 3) := by decide +kernel
theorem o20_362 : decode k20 362 = .ok (.aload 5, 2) := by decide +kernel
theorem o20_364 : decode k20 364 = .ok (.areturn, 1) := by decide +kernel
theorem o20_365 : decode k20 365 = .ok (.aload 5, 2) := by decide +kernel
theorem o20_367 : decode k20 367 = .ok (.iload_n 2, 1) := by decide +kernel
theorem o20_368 : decode k20 368 = .ok (.invokestatic 102, 3) := by decide +kernel
theorem o20_371 : decode k20 371 = .ok (.areturn, 1) := by decide +kernel
theorem o20_64 : decode k20 64 = .ok (.aload_n 0, 1) := by decide +kernel
theorem o20_65 : decode k20 65 = .ok (.iload_n 3, 1) := by decide +kernel
theorem o20_66 : decode k20 66 = .ok (.iinc 3 1, 3) := by decide +kernel
theorem o20_69 : decode k20 69 = .ok (.invokestatic 360, 3) := by decide +kernel
theorem o20_72 : decode k20 72 = .ok (.istore 6, 2) := by decide +kernel
theorem o20_74 : decode k20 74 = .ok (.iload 6, 2) := by decide +kernel
theorem o20_76 : decode k20 76 = .ok (.sipush 128, 3) := by decide +kernel
theorem o20_79 : decode k20 79 = .ok (.if_icmp .ge 16, 3) := by decide +kernel
theorem o20_82 : decode k20 82 = .ok (.aload 5, 2) := by decide +kernel
theorem o20_84 : decode k20 84 = .ok (.iload_n 2, 1) := by decide +kernel
theorem o20_85 : decode k20 85 = .ok (.iinc 2 1, 3) := by decide +kernel
theorem o20_88 : decode k20 88 = .ok (.iload 6, 2) := by decide +kernel
theorem o20_90 : decode k20 90 = .ok (.i2b, 1) := by decide +kernel
theorem o20_91 : decode k20 91 = .ok (.bastore, 1) := by decide +kernel
theorem o20_92 : decode k20 92 = .ok (.goto 260, 3) := by decide +kernel
theorem o20_352 : decode k20 352 = .ok (.goto (-294), 3) := by decide +kernel
theorem o20_95 : decode k20 95 = .ok (.iload 6, 2) := by decide +kernel
theorem o20_97 : decode k20 97 = .ok (.sipush 2048, 3) := by decide +kernel
theorem o20_100 : decode k20 100 = .ok (.if_icmp .ge 40, 3) := by decide +kernel
theorem o20_103 : decode k20 103 = .ok (.aload 5, 2) := by decide +kernel
theorem o20_105 : decode k20 105 = .ok (.iload_n 2, 1) := by decide +kernel
theorem o20_106 : decode k20 106 = .ok (.iinc 2 1, 3) := by decide +kernel
theorem o20_109 : decode k20 109 = .ok (.sipush 192, 3) := by decide +kernel
theorem o20_112 : decode k20 112 = .ok (.iload 6, 2) := by decide +kernel
theorem o20_114 : decode k20 114 = .ok (.bipush 6, 2) := by decide +kernel
theorem o20_116 : decode k20 116 = .ok (.ishr, 1) := by decide +kernel
theorem o20_117 : decode k20 117 = .ok (.ior, 1) := by decide +kernel
theorem o20_118 : decode k20 118 = .ok (.i2b, 1) := by decide +kernel
theorem o20_119 : decode k20 119 = .ok (.bastore, 1) := by decide +kernel
theorem o20_120 : decode k20 120 = .ok (.aload 5, 2) := by decide +kernel
theorem o20_122 : decode k20 122 = .ok (.iload_n 2, 1) := by decide +kernel
theorem o20_123 : decode k20 123 = .ok (.iinc 2 1, 3) := by decide +kernel
theorem o20_126 : decode k20 126 = .ok (.sipush 128, 3) := by decide +kernel
theorem o20_129 : decode k20 129 = .ok (.iload 6, 2) := by decide +kernel
theorem o20_131 : decode k20 131 = .ok (.bipush 63, 2) := by decide +kernel
theorem o20_133 : decode k20 133 = .ok (.iand, 1) := by decide +kernel
theorem o20_134 : decode k20 134 = .ok (.ior, 1) := by decide +kernel
theorem o20_135 : decode k20 135 = .ok (.i2b, 1) := by decide +kernel
theorem o20_136 : decode k20 136 = .ok (.bastore, 1) := by decide +kernel
theorem o20_137 : decode k20 137 = .ok (.goto 215, 3) := by decide +kernel
theorem o20_140 : decode k20 140 = .ok (.iload 6, 2) := by decide +kernel
theorem o20_142 : decode k20 142 = .ok (.invokestatic 404, 3) := by decide +kernel
theorem o20_145 : decode k20 145 = .ok (.ifCond .eq 153, 3) := by decide +kernel
theorem o20_148 : decode k20 148 = .ok (.iconst (-1), 1) := by decide +kernel
theorem o20_149 : decode k20 149 = .ok (.istore 7, 2) := by decide +kernel
theorem o20_151 : decode k20 151 = .ok (.iload 6, 2) := by decide +kernel
theorem o20_153 : decode k20 153 = .ok (.invokestatic 364, 3) := by decide +kernel
theorem o20_156 : decode k20 156 = .ok (.ifCond .eq 32, 3) := by decide +kernel
theorem o20_159 : decode k20 159 = .ok (.iload_n 3, 1) := by decide +kernel
theorem o20_160 : decode k20 160 = .ok (.iload 4, 2) := by decide +kernel
theorem o20_162 : decode k20 162 = .ok (.if_icmp .ge 26, 3) := by decide +kernel
theorem o20_165 : decode k20 165 = .ok (.aload_n 0, 1) := by decide +kernel
theorem o20_166 : decode k20 166 = .ok (.iload_n 3, 1) := by decide +kernel
theorem o20_167 : decode k20 167 = .ok (.invokestatic 360, 3) := by decide +kernel
theorem o20_170 : decode k20 170 = .ok (.dup, 1) := by decide +kernel
theorem o20_171 : decode k20 171 = .ok (.istore 8, 2) := by decide +kernel
theorem o20_173 : decode k20 173 = .ok (.invokestatic 370, 3) := by decide +kernel
theorem o20_176 : decode k20 176 = .ok (.ifCond .eq 12, 3) := by decide +kernel
theorem o20_179 : decode k20 179 = .ok (.iload 6, 2) := by decide +kernel
theorem o20_181 : decode k20 181 = .ok (.iload 8, 2) := by decide +kernel
theorem o20_183 : decode k20 183 = .ok (.invokestatic 477, 3) := by decide +kernel
theorem o20_186 : decode k20 186 = .ok (.istore 7, 2) := by decide +kernel
theorem o20_188 : decode k20 188 = .ok (.iload 7, 2) := by decide +kernel
theorem o20_190 : decode k20 190 = .ok (.ifCond .ge 28, 3) := by decide +kernel
theorem o20_218 : decode k20 218 = .ok (.aload 5, 2) := by decide +kernel
theorem o20_220 : decode k20 220 = .ok (.iload_n 2, 1) := by decide +kernel
theorem o20_221 : decode k20 221 = .ok (.iinc 2 1, 3) := by decide +kernel
theorem o20_224 : decode k20 224 = .ok (.sipush 240, 3) := by decide +kernel
theorem o20_227 : decode k20 227 = .ok (.iload 7, 2) := by decide +kernel
theorem o20_229 : decode k20 229 = .ok (.bipush 18, 2) := by decide +kernel
theorem o20_231 : decode k20 231 = .ok (.ishr, 1) := by decide +kernel
theorem o20_232 : decode k20 232 = .ok (.ior, 1) := by decide +kernel
theorem o20_233 : decode k20 233 = .ok (.i2b, 1) := by decide +kernel
theorem o20_234 : decode k20 234 = .ok (.bastore, 1) := by decide +kernel
theorem o20_235 : decode k20 235 = .ok (.aload 5, 2) := by decide +kernel
theorem o20_237 : decode k20 237 = .ok (.iload_n 2, 1) := by decide +kernel
theorem o20_238 : decode k20 238 = .ok (.iinc 2 1, 3) := by decide +kernel
theorem o20_241 : decode k20 241 = .ok (.sipush 128, 3) := by decide +kernel
theorem o20_244 : decode k20 244 = .ok (.iload 7, 2) := by decide +kernel
theorem o20_246 : decode k20 246 = .ok (.bipush 12, 2) := by decide +kernel
theorem o20_248 : decode k20 248 = .ok (.ishr, 1) := by decide +kernel
theorem o20_249 : decode k20 249 = .ok (.bipush 63, 2) := by decide +kernel
theorem o20_251 : decode k20 251 = .ok (.iand, 1) := by decide +kernel
theorem o20_252 : decode k20 252 = .ok (.ior, 1) := by decide +kernel
theorem o20_253 : decode k20 253 = .ok (.i2b, 1) := by decide +kernel
theorem o20_254 : decode k20 254 = .ok (.bastore, 1) := by decide +kernel
theorem o20_255 : decode k20 255 = .ok (.aload 5, 2) := by decide +kernel
theorem o20_257 : decode k20 257 = .ok (.iload_n 2, 1) := by decide +kernel
theorem o20_258 : decode k20 258 = .ok (.iinc 2 1, 3) := by decide +kernel
theorem o20_261 : decode k20 261 = .ok (.sipush 128, 3) := by decide +kernel
theorem o20_264 : decode k20 264 = .ok (.iload 7, 2) := by decide +kernel
theorem o20_266 : decode k20 266 = .ok (.bipush 6, 2) := by decide +kernel
theorem o20_268 : decode k20 268 = .ok (.ishr, 1) := by decide +kernel
theorem o20_269 : decode k20 269 = .ok (.bipush 63, 2) := by decide +kernel
theorem o20_271 : decode k20 271 = .ok (.iand, 1) := by decide +kernel
theorem o20_272 : decode k20 272 = .ok (.ior, 1) := by decide +kernel
theorem o20_273 : decode k20 273 = .ok (.i2b, 1) := by decide +kernel
theorem o20_274 : decode k20 274 = .ok (.bastore, 1) := by decide +kernel
theorem o20_275 : decode k20 275 = .ok (.aload 5, 2) := by decide +kernel
theorem o20_277 : decode k20 277 = .ok (.iload_n 2, 1) := by decide +kernel
theorem o20_278 : decode k20 278 = .ok (.iinc 2 1, 3) := by decide +kernel
theorem o20_281 : decode k20 281 = .ok (.sipush 128, 3) := by decide +kernel
theorem o20_284 : decode k20 284 = .ok (.iload 7, 2) := by decide +kernel
theorem o20_286 : decode k20 286 = .ok (.bipush 63, 2) := by decide +kernel
theorem o20_288 : decode k20 288 = .ok (.iand, 1) := by decide +kernel
theorem o20_289 : decode k20 289 = .ok (.ior, 1) := by decide +kernel
theorem o20_290 : decode k20 290 = .ok (.i2b, 1) := by decide +kernel
theorem o20_291 : decode k20 291 = .ok (.bastore, 1) := by decide +kernel
theorem o20_292 : decode k20 292 = .ok (.iinc 3 1, 3) := by decide +kernel
theorem o20_295 : decode k20 295 = .ok (.goto 57, 3) := by decide +kernel
theorem o20_193 : decode k20 193 = .ok (.iload_n 1, 1) := by decide +kernel
theorem o20_194 : decode k20 194 = .ok (.ifCond .eq 15, 3) := by decide +kernel
theorem o20_197 : decode k20 197 = .ok (.aload 5, 2) := by decide +kernel
theorem o20_199 : decode k20 199 = .ok (.iload_n 2, 1) := by decide +kernel
theorem o20_200 : decode k20 200 = .ok (.iinc 2 1, 3) := by decide +kernel
theorem o20_203 : decode k20 203 = .ok (.bipush 63, 2) := by decide +kernel
theorem o20_205 : decode k20 205 = .ok (.bastore, 1) := by decide +kernel
theorem o20_206 : decode k20 206 = .ok (.goto 89, 3) := by decide +kernel
theorem o20_298 : decode k20 298 = .ok (.aload 5, 2) := by decide +kernel
theorem o20_300 : decode k20 300 = .ok (.iload_n 2, 1) := by decide +kernel
theorem o20_301 : decode k20 301 = .ok (.iinc 2 1, 3) := by decide +kernel
theorem o20_304 : decode k20 304 = .ok (.sipush 224, 3) := by decide +kernel
theorem o20_307 : decode k20 307 = .ok (.iload 6, 2) := by decide +kernel
theorem o20_309 : decode k20 309 = .ok (.bipush 12, 2) := by decide +kernel
theorem o20_311 : decode k20 311 = .ok (.ishr, 1) := by decide +kernel
theorem o20_312 : decode k20 312 = .ok (.ior, 1) := by decide +kernel
theorem o20_313 : decode k20 313 = .ok (.i2b, 1) := by decide +kernel
theorem o20_314 : decode k20 314 = .ok (.bastore, 1) := by decide +kernel
theorem o20_315 : decode k20 315 = .ok (.aload 5, 2) := by decide +kernel
theorem o20_317 : decode k20 317 = .ok (.iload_n 2, 1) := by decide +kernel
theorem o20_318 : decode k20 318 = .ok (.iinc 2 1, 3) := by decide +kernel
theorem o20_321 : decode k20 321 = .ok (.sipush 128, 3) := by decide +kernel
theorem o20_324 : decode k20 324 = .ok (.iload 6, 2) := by decide +kernel
theorem o20_326 : decode k20 326 = .ok (.bipush 6, 2) := by decide +kernel
theorem o20_328 : decode k20 328 = .ok (.ishr, 1) := by decide +kernel
theorem o20_329 : decode k20 329 = .ok (.bipush 63, 2) := by decide +kernel
theorem o20_331 : decode k20 331 = .ok (.iand, 1) := by decide +kernel
theorem o20_332 : decode k20 332 = .ok (.ior, 1) := by decide +kernel
theorem o20_333 : decode k20 333 = .ok (.i2b, 1) := by decide +kernel
theorem o20_334 : decode k20 334 = .ok (.bastore, 1) := by decide +kernel
theorem o20_335 : decode k20 335 = .ok (.aload 5, 2) := by decide +kernel
theorem o20_337 : decode k20 337 = .ok (.iload_n 2, 1) := by decide +kernel
theorem o20_338 : decode k20 338 = .ok (.iinc 2 1, 3) := by decide +kernel
theorem o20_341 : decode k20 341 = .ok (.sipush 128, 3) := by decide +kernel
theorem o20_344 : decode k20 344 = .ok (.iload 6, 2) := by decide +kernel
theorem o20_346 : decode k20 346 = .ok (.bipush 63, 2) := by decide +kernel
theorem o20_348 : decode k20 348 = .ok (.iand, 1) := by decide +kernel
theorem o20_349 : decode k20 349 = .ok (.ior, 1) := by decide +kernel
theorem o20_350 : decode k20 350 = .ok (.i2b, 1) := by decide +kernel
theorem o20_351 : decode k20 351 = .ok (.bastore, 1) := by decide +kernel
theorem o20_18 : decode k20 18 = .ok (.iload_n 3, 1) := by decide +kernel
theorem o20_19 : decode k20 19 = .ok (.iload 4, 2) := by decide +kernel
theorem o20_21 : decode k20 21 = .ok (.if_icmp .ge 37, 3) := by decide +kernel
theorem o20_24 : decode k20 24 = .ok (.aload_n 0, 1) := by decide +kernel
theorem o20_25 : decode k20 25 = .ok (.iload_n 3, 1) := by decide +kernel
theorem o20_26 : decode k20 26 = .ok (.invokestatic 360, 3) := by decide +kernel
theorem o20_29 : decode k20 29 = .ok (.istore 6, 2) := by decide +kernel
theorem o20_31 : decode k20 31 = .ok (.iload 6, 2) := by decide +kernel
theorem o20_33 : decode k20 33 = .ok (.sipush 128, 3) := by decide +kernel
theorem o20_36 : decode k20 36 = .ok (.if_icmp .lt 6, 3) := by decide +kernel
theorem o20_42 : decode k20 42 = .ok (.aload 5, 2) := by decide +kernel
theorem o20_44 : decode k20 44 = .ok (.iload_n 2, 1) := by decide +kernel
theorem o20_45 : decode k20 45 = .ok (.iinc 2 1, 3) := by decide +kernel
theorem o20_48 : decode k20 48 = .ok (.iload 6, 2) := by decide +kernel
theorem o20_50 : decode k20 50 = .ok (.i2b, 1) := by decide +kernel
theorem o20_51 : decode k20 51 = .ok (.bastore, 1) := by decide +kernel
theorem o20_52 : decode k20 52 = .ok (.iinc 3 1, 3) := by decide +kernel
theorem o20_55 : decode k20 55 = .ok (.goto (-37), 3) := by decide +kernel
theorem o20_39 : decode k20 39 = .ok (.goto 19, 3) := by decide +kernel
theorem o21_0 : decode k21 0 = .ok (.iload_n 0, 1) := by decide +kernel
theorem o21_1 : decode k21 1 = .ok (.iconst 1, 1) := by decide +kernel
theorem o21_2 : decode k21 2 = .ok (.if_icmp .ne 9, 3) := by decide +kernel
theorem o21_5 : decode k21 5 = .ok (.aload_n 1, 1) := by decide +kernel
theorem o21_6 : decode k21 6 = .ok (.iload_n 2, 1) := by decide +kernel
theorem o21_7 : decode k21 7 = .ok (.invokestatic 473, 3) := by decide +kernel
theorem o21_10 : decode k21 10 = .ok (.areturn, 1) := by decide +kernel
theorem o21_11 : decode k21 11 = .ok (.aload_n 1, 1) := by decide +kernel
theorem o21_12 : decode k21 12 = .ok (.iconst 0, 1) := by decide +kernel
theorem o21_13 : decode k21 13 = .ok (.aload_n 1, 1) := by decide +kernel
theorem o21_14 : decode k21 14 = .ok (.arraylength, 1) := by decide +kernel
theorem o21_15 : decode k21 15 = .ok (.invokestatic 128, 3) := by decide +kernel
theorem o21_18 : decode k21 18 = .ok (.ifCond .ne 11, 3) := by decide +kernel
theorem o21_21 : decode k21 21 = .ok (.aload_n 1, 1) := by decide +kernel
theorem o21_22 : decode k21 22 = .ok (.invokevirtual 279, 3) := by decide +kernel
theorem o21_25 : decode k21 25 = .ok (.checkcast 280, 3) := by decide +kernel
theorem o21_28 : decode k21 28 = .ok (.areturn, 1) := by decide +kernel
theorem o21_29 : decode k21 29 = .ok (.iconst 0, 1) := by decide +kernel
theorem o21_30 : decode k21 30 = .ok (.istore_n 3, 1) := by decide +kernel
theorem o21_31 : decode k21 31 = .ok (.aload_n 1, 1) := by decide +kernel
theorem o21_32 : decode k21 32 = .ok (.arraylength, 1) := by decide +kernel
theorem o21_33 : decode k21 33 = .ok (.invokestatic 60, 3) := by decide +kernel
theorem o21_36 : decode k21 36 = .ok (.astore 4, 2) := by decide +kernel
theorem o21_38 : decode k21 38 = .ok (.aload_n 1, 1) := by decide +kernel
theorem o21_39 : decode k21 39 = .ok (.astore 5, 2) := by decide +kernel
theorem o21_41 : decode k21 41 = .ok (.aload 5, 2) := by decide +kernel
theorem o21_43 : decode k21 43 = .ok (.arraylength, 1) := by decide +kernel
theorem o21_44 : decode k21 44 = .ok (.istore 6, 2) := by decide +kernel
theorem o21_46 : decode k21 46 = .ok (.iconst 0, 1) := by decide +kernel
theorem o21_47 : decode k21 47 = .ok (.istore 7, 2) := by decide +kernel
theorem o21_49 : decode k21 49 = .ok (.iload 7, 2) := by decide +kernel
theorem o21_51 : decode k21 51 = .ok (.iload 6, 2) := by decide +kernel
theorem o21_53 : decode k21 53 = .ok (.if_icmp .ge 71, 3) := by decide +kernel
theorem o21_124 : decode k21 124 = .ok (.iload_n 3, 1) := by decide +kernel
theorem o21_125 : decode k21 125 = .ok (.aload 4, 2) := by decide +kernel
theorem o21_127 : decode k21 127 = .ok (.arraylength, 1) := by decide +kernel
theorem o21_128 : decode k21 128 = .ok (.if_icmp .ne 6, 3) := by decide +kernel
theorem o21_131 : decode k21 131 = .ok (.aload 4, 2) := by decide +kernel
theorem o21_133 : decode k21 133 = .ok (.areturn, 1) := by decide +kernel
theorem o21_134 : decode k21 134 = .ok (.aload 4, 2) := by decide +kernel
theorem o21_136 : decode k21 136 = .ok (.iload_n 3, 1) := by decide +kernel
theorem o21_137 : decode k21 137 = .ok (.invokestatic 102, 3) := by decide +kernel
theorem o21_140 : decode k21 140 = .ok (.areturn, 1) := by decide +kernel
theorem o21_56 : decode k21 56 = .ok (.aload 5, 2) := by decide +kernel
theorem o21_58 : decode k21 58 = .ok (.iload 7, 2) := by decide +kernel
theorem o21_60 : decode k21 60 = .ok (.baload, 1) := by decide +kernel
theorem o21_61 : decode k21 61 = .ok (.istore 8, 2) := by decide +kernel
theorem o21_63 : decode k21 63 = .ok (.iload 8, 2) := by decide +kernel
theorem o21_65 : decode k21 65 = .ok (.ifCond .ge 44, 3) := by decide +kernel
theorem o21_68 : decode k21 68 = .ok (.aload 4, 2) := by decide +kernel
theorem o21_70 : decode k21 70 = .ok (.iload_n 3, 1) := by decide +kernel
theorem o21_71 : decode k21 71 = .ok (.iinc 3 1, 3) := by decide +kernel
theorem o21_74 : decode k21 74 = .ok (.sipush 192, 3) := by decide +kernel
theorem o21_77 : decode k21 77 = .ok (.iload 8, 2) := by decide +kernel
theorem o21_79 : decode k21 79 = .ok (.sipush 255, 3) := by decide +kernel
theorem o21_82 : decode k21 82 = .ok (.iand, 1) := by decide +kernel
theorem o21_83 : decode k21 83 = .ok (.bipush 6, 2) := by decide +kernel
theorem o21_85 : decode k21 85 = .ok (.ishr, 1) := by decide +kernel
theorem o21_86 : decode k21 86 = .ok (.ior, 1) := by decide +kernel
theorem o21_87 : decode k21 87 = .ok (.i2b, 1) := by decide +kernel
theorem o21_88 : decode k21 88 = .ok (.bastore, 1) := by decide +kernel
theorem o21_89 : decode k21 89 = .ok (.aload 4, 2) := by decide +kernel
theorem o21_91 : decode k21 91 = .ok (.iload_n 3, 1) := by decide +kernel
theorem o21_92 : decode k21 92 = .ok (.iinc 3 1, 3) := by decide +kernel
theorem o21_95 : decode k21 95 = .ok (.sipush 128, 3) := by decide +kernel
theorem o21_98 : decode k21 98 = .ok (.iload 8, 2) := by decide +kernel
theorem o21_100 : decode k21 100 = .ok (.bipush 63, 2) := by decide +kernel
theorem o21_102 : decode k21 102 = .ok (.iand, 1) := by decide +kernel
theorem o21_103 : decode k21 103 = .ok (.ior, 1) := by decide +kernel
theorem o21_104 : decode k21 104 = .ok (.i2b, 1) := by decide +kernel
theorem o21_105 : decode k21 105 = .ok (.bastore, 1) := by decide +kernel
theorem o21_106 : decode k21 106 = .ok (.goto 12, 3) := by decide +kernel
theorem o21_118 : decode k21 118 = .ok (.iinc 7 1, 3) := by decide +kernel
theorem o21_121 : decode k21 121 = .ok (.goto (-72), 3) := by decide +kernel
theorem o21_109 : decode k21 109 = .ok (.aload 4, 2) := by decide +kernel
theorem o21_111 : decode k21 111 = .ok (.iload_n 3, 1) := by decide +kernel
theorem o21_112 : decode k21 112 = .ok (.iinc 3 1, 3) := by decide +kernel
theorem o21_115 : decode k21 115 = .ok (.iload 8, 2) := by decide +kernel
theorem o21_117 : decode k21 117 = .ok (.bastore, 1) := by decide +kernel
theorem o22_0 : decode k22 0 = .ok (.aload_n 0, 1) := by decide +kernel
theorem o22_1 : decode k22 1 = .ok (.getstatic 86, 3) := by decide +kernel
theorem o22_4 : decode k22 4 = .ok (.if_acmp .ne 10, 3) := by decide +kernel
theorem o22_7 : decode k22 7 = .ok (.iload_n 1, 1) := by decide +kernel
theorem o22_8 : decode k22 8 = .ok (.aload_n 2, 1) := by decide +kernel
theorem o22_9 : decode k22 9 = .ok (.iconst 1, 1) := by decide +kernel
theorem o22_10 : decode k22 10 = .ok (.invokestatic 252, 3) := by decide +kernel
theorem o22_13 : decode k22 13 = .ok (.areturn, 1) := by decide +kernel
theorem o23_0 : decode k23 0 = .ok (.aload_n 1, 1) := by decide +kernel
theorem o23_1 : decode k23 1 = .ok (.ifnonnull 11, 3) := by decide +kernel
theorem o23_12 : decode k23 12 = .ok (.aload_n 1, 1) := by decide +kernel
theorem o23_13 : decode k23 13 = .ok (.aload_n 0, 1) := by decide +kernel
theorem o23_14 : decode k23 14 = .ok (.invokevirtual 335, 3) := by decide +kernel
theorem o23_17 : decode k23 17 = .ok (.aload_n 0, 1) := by decide +kernel
theorem o23_18 : decode k23 18 = .ok (.getfield 9, 3) := by decide +kernel
theorem o23_21 : decode k23 21 = .ok (.invokestatic 535, 3) := by decide +kernel
theorem o23_24 : decode k23 24 = .ok (.areturn, 1) := by decide +kernel
theorem o24_0 : decode k24 0 = .ok (.iload_n 0, 1) := by decide +kernel
theorem o24_1 : decode k24 1 = .ok (.ifCond .ne 32, 3) := by decide +kernel
theorem o24_4 : decode k24 4 = .ok (.aload_n 1, 1) := by decide +kernel
theorem o24_5 : decode k24 5 = .ok (.iconst 0, 1) := by decide +kernel
theorem o24_6 : decode k24 6 = .ok (.aload_n 1, 1) := by decide +kernel
theorem o24_7 : decode k24 7 = .ok (.arraylength, 1) := by decide +kernel
theorem o24_8 : decode k24 8 = .ok (.invokestatic 92, 3) := by decide +kernel
theorem o24_11 : decode k24 11 = .ok (.istore_n 2, 1) := by decide +kernel
theorem o24_12 : decode k24 12 = .ok (.aload_n 1, 1) := by decide +kernel
theorem o24_13 : decode k24 13 = .ok (.invokevirtual 279, 3) := by decide +kernel
theorem o24_16 : decode k24 16 = .ok (.checkcast 280, 3) := by decide +kernel
theorem o24_19 : decode k24 19 = .ok (.astore_n 3, 1) := by decide +kernel
theorem o24_20 : decode k24 20 = .ok (.iload_n 2, 1) := by decide +kernel
theorem o24_21 : decode k24 21 = .ok (.aload_n 3, 1) := by decide +kernel
theorem o24_22 : decode k24 22 = .ok (.arraylength, 1) := by decide +kernel
theorem o24_23 : decode k24 23 = .ok (.if_icmp .ge 8, 3) := by decide +kernel
theorem o24_31 : decode k24 31 = .ok (.aload_n 3, 1) := by decide +kernel
theorem o24_32 : decode k24 32 = .ok (.areturn, 1) := by decide +kernel
theorem o22_14 : decode k22 14 = .ok (.aload_n 0, 1) := by decide +kernel
theorem o22_15 : decode k22 15 = .ok (.getstatic 116, 3) := by decide +kernel
theorem o22_18 : decode k22 18 = .ok (.if_acmp .ne 9, 3) := by decide +kernel
theorem o22_27 : decode k22 27 = .ok (.aload_n 0, 1) := by decide +kernel
theorem o22_28 : decode k22 28 = .ok (.getstatic 123, 3) := by decide +kernel
theorem o22_31 : decode k22 31 = .ok (.if_acmp .ne 9, 3) := by decide +kernel
theorem o22_34 : decode k22 34 = .ok (.iload_n 1, 1) := by decide +kernel
theorem o22_35 : decode k22 35 = .ok (.aload_n 2, 1) := by decide +kernel
theorem o22_36 : decode k22 36 = .ok (.invokestatic 260, 3) := by decide +kernel
theorem o22_39 : decode k22 39 = .ok (.areturn, 1) := by decide +kernel
theorem o25_0 : decode k25 0 = .ok (.aload_n 0, 1) := by decide +kernel
theorem o25_1 : decode k25 1 = .ok (.invokespecial 3, 3) := by decide +kernel
theorem o25_4 : decode k25 4 = .ok (.getstatic 18, 3) := by decide +kernel
theorem o25_7 : decode k25 7 = .ok (.ifCond .eq 18, 3) := by decide +kernel
theorem o25_10 : decode k25 10 = .ok (.aload_n 0, 1) := by decide +kernel
theorem o25_11 : decode k25 11 = .ok (.iload_n 1, 1) := by decide +kernel
theorem o25_12 : decode k25 12 = .ok (.newarray .byte, 2) := by decide +kernel
theorem o25_14 : decode k25 14 = .ok (.putfield 15, 3) := by decide +kernel
theorem o25_17 : decode k25 17 = .ok (.aload_n 0, 1) := by decide +kernel
theorem o25_18 : decode k25 18 = .ok (.iconst 0, 1) := by decide +kernel
theorem o25_19 : decode k25 19 = .ok (.putfield 22, 3) := by decide +kernel
theorem o25_22 : decode k25 22 = .ok (.goto 16, 3) := by decide +kernel
theorem o25_38 : decode k25 38 = .ok (.return_, 1) := by decide +kernel
theorem o26_0 : decode k26 0 = .ok (.aload_n 0, 1) := by decide +kernel
theorem o26_1 : decode k26 1 = .ok (.bipush 16, 2) := by decide +kernel
theorem o26_3 : decode k26 3 = .ok (.invokespecial 1, 3) := by decide +kernel
theorem o26_6 : decode k26 6 = .ok (.return_, 1) := by decide +kernel
theorem o27_0 : decode k27 0 = .ok (.iconst 1, 1) := by decide +kernel
theorem o27_1 : decode k27 1 = .ok (.istore_n 1, 1) := by decide +kernel
theorem o27_2 : decode k27 2 = .ok (.iload_n 0, 1) := by decide +kernel
theorem o27_3 : decode k27 3 = .ok (.ifCond .lt 8, 3) := by decide +kernel
theorem o27_6 : decode k27 6 = .ok (.iconst 0, 1) := by decide +kernel
theorem o27_7 : decode k27 7 = .ok (.istore_n 1, 1) := by decide +kernel
theorem o27_8 : decode k27 8 = .ok (.iload_n 0, 1) := by decide +kernel
theorem o27_9 : decode k27 9 = .ok (.ineg, 1) := by decide +kernel
theorem o27_10 : decode k27 10 = .ok (.istore_n 0, 1) := by decide +kernel
theorem o27_11 : decode k27 11 = .ok (.bipush (-10), 2) := by decide +kernel
theorem o27_13 : decode k27 13 = .ok (.istore_n 2, 1) := by decide +kernel
theorem o27_14 : decode k27 14 = .ok (.iconst 1, 1) := by decide +kernel
theorem o27_15 : decode k27 15 = .ok (.istore_n 3, 1) := by decide +kernel
theorem o27_16 : decode k27 16 = .ok (.iload_n 3, 1) := by decide +kernel
theorem o27_17 : decode k27 17 = .ok (.bipush 10, 2) := by decide +kernel
theorem o27_19 : decode k27 19 = .ok (.if_icmp .ge 23, 3) := by decide +kernel
theorem o27_22 : decode k27 22 = .ok (.iload_n 0, 1) := by decide +kernel
theorem o27_23 : decode k27 23 = .ok (.iload_n 2, 1) := by decide +kernel
theorem o27_24 : decode k27 24 = .ok (.if_icmp .le 7, 3) := by decide +kernel
theorem o27_27 : decode k27 27 = .ok (.iload_n 3, 1) := by decide +kernel
theorem o27_28 : decode k27 28 = .ok (.iload_n 1, 1) := by decide +kernel
theorem o27_29 : decode k27 29 = .ok (.iadd, 1) := by decide +kernel
theorem o27_30 : decode k27 30 = .ok (.ireturn, 1) := by decide +kernel
theorem o27_31 : decode k27 31 = .ok (.bipush 10, 2) := by decide +kernel
theorem o27_33 : decode k27 33 = .ok (.iload_n 2, 1) := by decide +kernel
theorem o27_34 : decode k27 34 = .ok (.imul, 1) := by decide +kernel
theorem o27_35 : decode k27 35 = .ok (.istore_n 2, 1) := by decide +kernel
theorem o27_36 : decode k27 36 = .ok (.iinc 3 1, 3) := by decide +kernel
theorem o27_39 : decode k27 39 = .ok (.goto (-23), 3) := by decide +kernel
theorem o28_0 : decode k28 0 = .ok (.aload_n 0, 1) := by decide +kernel
theorem o28_1 : decode k28 1 = .ok (.getfield 15, 3) := by decide +kernel
theorem o28_4 : decode k28 4 = .ok (.arraylength, 1) := by decide +kernel
theorem o28_5 : decode k28 5 = .ok (.aload_n 0, 1) := by decide +kernel
theorem o28_6 : decode k28 6 = .ok (.getfield 22, 3) := by decide +kernel
theorem o28_9 : decode k28 9 = .ok (.ishr, 1) := by decide +kernel
theorem o28_10 : decode k28 10 = .ok (.istore_n 2, 1) := by decide +kernel
theorem o28_11 : decode k28 11 = .ok (.iload_n 1, 1) := by decide +kernel
theorem o28_12 : decode k28 12 = .ok (.iload_n 2, 1) := by decide +kernel
theorem o28_13 : decode k28 13 = .ok (.isub, 1) := by decide +kernel
theorem o28_14 : decode k28 14 = .ok (.ifCond .le 24, 3) := by decide +kernel
theorem o28_38 : decode k28 38 = .ok (.return_, 1) := by decide +kernel
theorem o29_0 : decode k29 0 = .ok (.getstatic 18, 3) := by decide +kernel
theorem o29_3 : decode k29 3 = .ok (.ifCond .eq 14, 3) := by decide +kernel
theorem o29_6 : decode k29 6 = .ok (.aload_n 0, 1) := by decide +kernel
theorem o29_7 : decode k29 7 = .ok (.getfield 22, 3) := by decide +kernel
theorem o29_10 : decode k29 10 = .ok (.ifCond .ne 7, 3) := by decide +kernel
theorem o29_13 : decode k29 13 = .ok (.iconst 1, 1) := by decide +kernel
theorem o29_14 : decode k29 14 = .ok (.goto 4, 3) := by decide +kernel
theorem o29_18 : decode k29 18 = .ok (.ireturn, 1) := by decide +kernel
theorem o30_0 : decode k30 0 = .ok (.iload_n 1, 1) := by decide +kernel
theorem o30_1 : decode k30 1 = .ok (.istore 5, 2) := by decide +kernel
theorem o30_3 : decode k30 3 = .ok (.iload_n 0, 1) := by decide +kernel
theorem o30_4 : decode k30 4 = .ok (.ifCond .ge 7, 3) := by decide +kernel
theorem o30_11 : decode k30 11 = .ok (.iconst 0, 1) := by decide +kernel
theorem o30_12 : decode k30 12 = .ok (.istore 6, 2) := by decide +kernel
theorem o30_14 : decode k30 14 = .ok (.iload 6, 2) := by decide +kernel
theorem o30_16 : decode k30 16 = .ok (.ifCond .ne 6, 3) := by decide +kernel
theorem o30_19 : decode k30 19 = .ok (.iload_n 0, 1) := by decide +kernel
theorem o30_20 : decode k30 20 = .ok (.ineg, 1) := by decide +kernel
theorem o30_21 : decode k30 21 = .ok (.istore_n 0, 1) := by decide +kernel
theorem o30_22 : decode k30 22 = .ok (.iload_n 0, 1) := by decide +kernel
theorem o30_23 : decode k30 23 = .ok (.bipush (-100), 2) := by decide +kernel
theorem o30_25 : decode k30 25 = .ok (.if_icmp .gt 47, 3) := by decide +kernel
theorem o30_72 : decode k30 72 = .ok (.aload_n 2, 1) := by decide +kernel
theorem o30_73 : decode k30 73 = .ok (.iinc 5 (-1), 3) := by decide +kernel
theorem o30_76 : decode k30 76 = .ok (.iload 5, 2) := by decide +kernel
theorem o30_78 : decode k30 78 = .ok (.getstatic 83, 3) := by decide +kernel
theorem o30_81 : decode k30 81 = .ok (.iload_n 0, 1) := by decide +kernel
theorem o30_82 : decode k30 82 = .ok (.ineg, 1) := by decide +kernel
theorem o30_83 : decode k30 83 = .ok (.baload, 1) := by decide +kernel
theorem o30_84 : decode k30 84 = .ok (.bastore, 1) := by decide +kernel
theorem o30_85 : decode k30 85 = .ok (.iload_n 0, 1) := by decide +kernel
theorem o30_86 : decode k30 86 = .ok (.bipush (-9), 2) := by decide +kernel
theorem o30_88 : decode k30 88 = .ok (.if_icmp .ge 16, 3) := by decide +kernel
theorem o30_104 : decode k30 104 = .ok (.iload 6, 2) := by decide +kernel
theorem o30_106 : decode k30 106 = .ok (.ifCond .eq 12, 3) := by decide +kernel
theorem o30_118 : decode k30 118 = .ok (.iload 5, 2) := by decide +kernel
theorem o30_120 : decode k30 120 = .ok (.ireturn, 1) := by decide +kernel
theorem o30_91 : decode k30 91 = .ok (.aload_n 2, 1) := by decide +kernel
theorem o30_92 : decode k30 92 = .ok (.iinc 5 (-1), 3) := by decide +kernel
theorem o30_95 : decode k30 95 = .ok (.iload 5, 2) := by decide +kernel
theorem o30_97 : decode k30 97 = .ok (.getstatic 87, 3) := by decide +kernel
theorem o30_100 : decode k30 100 = .ok (.iload_n 0, 1) := by decide +kernel
theorem o30_101 : decode k30 101 = .ok (.ineg, 1) := by decide +kernel
theorem o30_102 : decode k30 102 = .ok (.baload, 1) := by decide +kernel
theorem o30_103 : decode k30 103 = .ok (.bastore, 1) := by decide +kernel
theorem o31_0 : decode k31 0 = .ok (.aload_n 0, 1) := by decide +kernel
theorem o31_1 : decode k31 1 = .ok (.getfield 79, 3) := by decide +kernel
theorem o31_4 : decode k31 4 = .ok (.istore_n 2, 1) := by decide +kernel
theorem o31_5 : decode k31 5 = .ok (.iload_n 2, 1) := by decide +kernel
theorem o31_6 : decode k31 6 = .ok (.iload_n 1, 1) := by decide +kernel
theorem o31_7 : decode k31 7 = .ok (.invokestatic 245, 3) := by decide +kernel
theorem o31_10 : decode k31 10 = .ok (.iadd, 1) := by decide +kernel
theorem o31_11 : decode k31 11 = .ok (.istore_n 3, 1) := by decide +kernel
theorem o31_12 : decode k31 12 = .ok (.aload_n 0, 1) := by decide +kernel
theorem o31_13 : decode k31 13 = .ok (.iload_n 3, 1) := by decide +kernel
theorem o31_14 : decode k31 14 = .ok (.invokevirtual 100, 3) := by decide +kernel
theorem o31_17 : decode k31 17 = .ok (.aload_n 0, 1) := by decide +kernel
theorem o31_18 : decode k31 18 = .ok (.invokevirtual 83, 3) := by decide +kernel
theorem o31_21 : decode k31 21 = .ok (.ifCond .eq 16, 3) := by decide +kernel
theorem o31_24 : decode k31 24 = .ok (.iload_n 1, 1) := by decide +kernel
theorem o31_25 : decode k31 25 = .ok (.iload_n 3, 1) := by decide +kernel
theorem o31_26 : decode k31 26 = .ok (.aload_n 0, 1) := by decide +kernel
theorem o31_27 : decode k31 27 = .ok (.getfield 15, 3) := by decide +kernel
theorem o31_30 : decode k31 30 = .ok (.invokestatic 248, 3) := by decide +kernel
theorem o31_33 : decode k31 33 = .ok (.pop, 1) := by decide +kernel
theorem o31_34 : decode k31 34 = .ok (.goto 14, 3) := by decide +kernel
theorem o31_48 : decode k31 48 = .ok (.aload_n 0, 1) := by decide +kernel
theorem o31_49 : decode k31 49 = .ok (.iload_n 3, 1) := by decide +kernel
theorem o31_50 : decode k31 50 = .ok (.putfield 79, 3) := by decide +kernel
theorem o31_53 : decode k31 53 = .ok (.aload_n 0, 1) := by decide +kernel
theorem o31_54 : decode k31 54 = .ok (.areturn, 1) := by decide +kernel
theorem o32_0 : decode k32 0 = .ok (.aload_n 0, 1) := by decide +kernel
theorem o32_1 : decode k32 1 = .ok (.iload_n 1, 1) := by decide +kernel
theorem o32_2 : decode k32 2 = .ok (.invokespecial 53, 3) := by decide +kernel
theorem o32_5 : decode k32 5 = .ok (.pop, 1) := by decide +kernel
theorem o32_6 : decode k32 6 = .ok (.aload_n 0, 1) := by decide +kernel
theorem o32_7 : decode k32 7 = .ok (.areturn, 1) := by decide +kernel
theorem o33_0 : decode k33 0 = .ok (.aload_n 0, 1) := by decide +kernel
theorem o33_1 : decode k33 1 = .ok (.getfield 9, 3) := by decide +kernel
theorem o33_4 : decode k33 4 = .ok (.arraylength, 1) := by decide +kernel
theorem o33_5 : decode k33 5 = .ok (.aload_n 0, 1) := by decide +kernel
theorem o33_6 : decode k33 6 = .ok (.invokevirtual 335, 3) := by decide +kernel
theorem o33_9 : decode k33 9 = .ok (.ishr, 1) := by decide +kernel
theorem o33_10 : decode k33 10 = .ok (.ireturn, 1) := by decide +kernel
theorem o34_0 : decode k34 0 = .ok (.getstatic 18, 3) := by decide +kernel
theorem o34_3 : decode k34 3 = .ok (.ifCond .eq 18, 3) := by decide +kernel
theorem o34_6 : decode k34 6 = .ok (.aload_n 0, 1) := by decide +kernel
theorem o34_7 : decode k34 7 = .ok (.getfield 22, 3) := by decide +kernel
theorem o34_10 : decode k34 10 = .ok (.aload_n 1, 1) := by decide +kernel
theorem o34_11 : decode k34 11 = .ok (.invokevirtual 40, 3) := by decide +kernel
theorem o34_14 : decode k34 14 = .ok (.if_icmp .eq 7, 3) := by decide +kernel
theorem o34_21 : decode k34 21 = .ok (.return_, 1) := by decide +kernel
theorem o35_0 : decode k35 0 = .ok (.aload_n 0, 1) := by decide +kernel
theorem o35_1 : decode k35 1 = .ok (.invokevirtual 335, 3) := by decide +kernel
theorem o35_4 : decode k35 4 = .ok (.iload_n 3, 1) := by decide +kernel
theorem o35_5 : decode k35 5 = .ok (.if_icmp .ne 23, 3) := by decide +kernel
theorem o35_8 : decode k35 8 = .ok (.aload_n 0, 1) := by decide +kernel
theorem o35_9 : decode k35 9 = .ok (.getfield 9, 3) := by decide +kernel
theorem o35_12 : decode k35 12 = .ok (.iconst 0, 1) := by decide +kernel
theorem o35_13 : decode k35 13 = .ok (.aload_n 1, 1) := by decide +kernel
theorem o35_14 : decode k35 14 = .ok (.iload_n 2, 1) := by decide +kernel
theorem o35_15 : decode k35 15 = .ok (.iload_n 3, 1) := by decide +kernel
theorem o35_16 : decode k35 16 = .ok (.ishl, 1) := by decide +kernel
theorem o35_17 : decode k35 17 = .ok (.aload_n 0, 1) := by decide +kernel
theorem o35_18 : decode k35 18 = .ok (.getfield 9, 3) := by decide +kernel
theorem o35_21 : decode k35 21 = .ok (.arraylength, 1) := by decide +kernel
theorem o35_22 : decode k35 22 = .ok (.invokestatic 212, 3) := by decide +kernel
theorem o35_25 : decode k35 25 = .ok (.goto 18, 3) := by decide +kernel
theorem o35_43 : decode k35 43 = .ok (.return_, 1) := by decide +kernel
theorem o36_0 : decode k36 0 = .ok (.aload_n 0, 1) := by decide +kernel
theorem o36_1 : decode k36 1 = .ok (.aload_n 2, 1) := by decide +kernel
theorem o36_2 : decode k36 2 = .ok (.invokevirtual 397, 3) := by decide +kernel
theorem o36_5 : decode k36 5 = .ok (.aload_n 2, 1) := by decide +kernel
theorem o36_6 : decode k36 6 = .ok (.aload_n 0, 1) := by decide +kernel
theorem o36_7 : decode k36 7 = .ok (.getfield 15, 3) := by decide +kernel
theorem o36_10 : decode k36 10 = .ok (.iload_n 1, 1) := by decide +kernel
theorem o36_11 : decode k36 11 = .ok (.aload_n 0, 1) := by decide +kernel
theorem o36_12 : decode k36 12 = .ok (.getfield 22, 3) := by decide +kernel
theorem o36_15 : decode k36 15 = .ok (.invokevirtual 399, 3) := by decide +kernel
theorem o36_18 : decode k36 18 = .ok (.return_, 1) := by decide +kernel
theorem o37_0 : decode k37 0 = .ok (.aload_n 1, 1) := by decide +kernel
theorem o37_1 : decode k37 1 = .ok (.ifnonnull 8, 3) := by decide +kernel
theorem o37_9 : decode k37 9 = .ok (.aload_n 1, 1) := by decide +kernel
theorem o37_10 : decode k37 10 = .ok (.invokevirtual 32, 3) := by decide +kernel
theorem o37_13 : decode k37 13 = .ok (.istore_n 2, 1) := by decide +kernel
theorem o37_14 : decode k37 14 = .ok (.aload_n 0, 1) := by decide +kernel
theorem o37_15 : decode k37 15 = .ok (.aload_n 0, 1) := by decide +kernel
theorem o37_16 : decode k37 16 = .ok (.getfield 79, 3) := by decide +kernel
theorem o37_19 : decode k37 19 = .ok (.iload_n 2, 1) := by decide +kernel
theorem o37_20 : decode k37 20 = .ok (.iadd, 1) := by decide +kernel
theorem o37_21 : decode k37 21 = .ok (.invokevirtual 100, 3) := by decide +kernel
theorem o37_24 : decode k37 24 = .ok (.aload_n 0, 1) := by decide +kernel
theorem o37_25 : decode k37 25 = .ok (.aload_n 0, 1) := by decide +kernel
theorem o37_26 : decode k37 26 = .ok (.getfield 79, 3) := by decide +kernel
theorem o37_29 : decode k37 29 = .ok (.aload_n 1, 1) := by decide +kernel
theorem o37_30 : decode k37 30 = .ok (.invokevirtual 208, 3) := by decide +kernel
theorem o37_33 : decode k37 33 = .ok (.aload_n 0, 1) := by decide +kernel
theorem o37_34 : decode k37 34 = .ok (.dup, 1) := by decide +kernel
theorem o37_35 : decode k37 35 = .ok (.getfield 79, 3) := by decide +kernel
theorem o37_38 : decode k37 38 = .ok (.iload_n 2, 1) := by decide +kernel
theorem o37_39 : decode k37 39 = .ok (.iadd, 1) := by decide +kernel
theorem o37_40 : decode k37 40 = .ok (.putfield 79, 3) := by decide +kernel
theorem o37_43 : decode k37 43 = .ok (.aload_n 0, 1) := by decide +kernel
theorem o37_44 : decode k37 44 = .ok (.areturn, 1) := by decide +kernel
theorem o38_0 : decode k38 0 = .ok (.aload_n 0, 1) := by decide +kernel
theorem o38_1 : decode k38 1 = .ok (.aload_n 1, 1) := by decide +kernel
theorem o38_2 : decode k38 2 = .ok (.invokespecial 29, 3) := by decide +kernel
theorem o38_5 : decode k38 5 = .ok (.pop, 1) := by decide +kernel
theorem o38_6 : decode k38 6 = .ok (.aload_n 0, 1) := by decide +kernel
theorem o38_7 : decode k38 7 = .ok (.areturn, 1) := by decide +kernel
theorem o39_0 : decode k39 0 = .ok (.iload_n 1, 1) := by decide +kernel
theorem o39_1 : decode k39 1 = .ok (.iload_n 0, 1) := by decide +kernel
theorem o39_2 : decode k39 2 = .ok (.if_icmp .ge 35, 3) := by decide +kernel
theorem o39_37 : decode k39 37 = .ok (.return_, 1) := by decide +kernel
theorem o40_0 : decode k40 0 = .ok (.iload_n 1, 1) := by decide +kernel
theorem o40_1 : decode k40 1 = .ok (.iload_n 2, 1) := by decide +kernel
theorem o40_2 : decode k40 2 = .ok (.invokestatic 343, 3) := by decide +kernel
theorem o40_5 : decode k40 5 = .ok (.iload_n 2, 1) := by decide +kernel
theorem o40_6 : decode k40 6 = .ok (.iload_n 1, 1) := by decide +kernel
theorem o40_7 : decode k40 7 = .ok (.isub, 1) := by decide +kernel
theorem o40_8 : decode k40 8 = .ok (.istore_n 3, 1) := by decide +kernel
theorem o40_9 : decode k40 9 = .ok (.iload_n 3, 1) := by decide +kernel
theorem o40_10 : decode k40 10 = .ok (.newarray .byte, 2) := by decide +kernel
theorem o40_12 : decode k40 12 = .ok (.astore 4, 2) := by decide +kernel
theorem o40_14 : decode k40 14 = .ok (.aload_n 0, 1) := by decide +kernel
theorem o40_15 : decode k40 15 = .ok (.iload_n 1, 1) := by decide +kernel
theorem o40_16 : decode k40 16 = .ok (.aload 4, 2) := by decide +kernel
theorem o40_18 : decode k40 18 = .ok (.iconst 0, 1) := by decide +kernel
theorem o40_19 : decode k40 19 = .ok (.aload_n 0, 1) := by decide +kernel
theorem o40_20 : decode k40 20 = .ok (.arraylength, 1) := by decide +kernel
theorem o40_21 : decode k40 21 = .ok (.iload_n 1, 1) := by decide +kernel
theorem o40_22 : decode k40 22 = .ok (.isub, 1) := by decide +kernel
theorem o40_23 : decode k40 23 = .ok (.iload_n 3, 1) := by decide +kernel
theorem o40_24 : decode k40 24 = .ok (.invokestatic 304, 3) := by decide +kernel
theorem o40_27 : decode k40 27 = .ok (.invokestatic 150, 3) := by decide +kernel
theorem o40_30 : decode k40 30 = .ok (.aload 4, 2) := by decide +kernel
theorem o40_32 : decode k40 32 = .ok (.areturn, 1) := by decide +kernel
theorem o41_0 : decode k41 0 = .ok (.iload_n 1, 1) := by decide +kernel
theorem o41_1 : decode k41 1 = .ok (.ifCond .ne 9, 3) := by decide +kernel
theorem o41_4 : decode k41 4 = .ok (.iload_n 2, 1) := by decide +kernel
theorem o41_5 : decode k41 5 = .ok (.aload_n 0, 1) := by decide +kernel
theorem o41_6 : decode k41 6 = .ok (.arraylength, 1) := by decide +kernel
theorem o41_7 : decode k41 7 = .ok (.if_icmp .eq 10, 3) := by decide +kernel
theorem o41_10 : decode k41 10 = .ok (.aload_n 0, 1) := by decide +kernel
theorem o41_11 : decode k41 11 = .ok (.iload_n 1, 1) := by decide +kernel
theorem o41_12 : decode k41 12 = .ok (.iload_n 2, 1) := by decide +kernel
theorem o41_13 : decode k41 13 = .ok (.invokestatic 339, 3) := by decide +kernel
theorem o41_16 : decode k41 16 = .ok (.areturn, 1) := by decide +kernel
theorem o42_0 : decode k42 0 = .ok (.aload_n 0, 1) := by decide +kernel
theorem o42_1 : decode k42 1 = .ok (.getfield 15, 3) := by decide +kernel
theorem o42_4 : decode k42 4 = .ok (.areturn, 1) := by decide +kernel
theorem o43_0 : decode k43 0 = .ok (.aload_n 0, 1) := by decide +kernel
theorem o43_1 : decode k43 1 = .ok (.getfield 79, 3) := by decide +kernel
theorem o43_4 : decode k43 4 = .ok (.ireturn, 1) := by decide +kernel
theorem o44_0 : decode k44 0 = .ok (.aload_n 0, 1) := by decide +kernel
theorem o44_1 : decode k44 1 = .ok (.invokespecial 343, 3) := by decide +kernel
theorem o44_4 : decode k44 4 = .ok (.ireturn, 1) := by decide +kernel
theorem o45_0 : decode k45 0 = .ok (.aload_n 0, 1) := by decide +kernel
theorem o45_1 : decode k45 1 = .ok (.invokespecial 1, 3) := by decide +kernel
theorem o45_4 : decode k45 4 = .ok (.aload_n 1, 1) := by decide +kernel
theorem o45_5 : decode k45 5 = .ok (.invokevirtual 552, 3) := by decide +kernel
theorem o45_8 : decode k45 8 = .ok (.astore_n 3, 1) := by decide +kernel
theorem o45_9 : decode k45 9 = .ok (.aload_n 1, 1) := by decide +kernel
theorem o45_10 : decode k45 10 = .ok (.invokevirtual 549, 3) := by decide +kernel
theorem o45_13 : decode k45 13 = .ok (.istore 4, 2) := by decide +kernel
theorem o45_15 : decode k45 15 = .ok (.aload_n 1, 1) := by decide +kernel
theorem o45_16 : decode k45 16 = .ok (.invokevirtual 1047, 3) := by decide +kernel
theorem o45_19 : decode k45 19 = .ok (.ifCond .eq 22, 3) := by decide +kernel
theorem o45_22 : decode k45 22 = .ok (.aload_n 0, 1) := by decide +kernel
theorem o45_23 : decode k45 23 = .ok (.iconst 0, 1) := by decide +kernel
theorem o45_24 : decode k45 24 = .ok (.putfield 15, 3) := by decide +kernel
theorem o45_27 : decode k45 27 = .ok (.aload_n 0, 1) := by decide +kernel
theorem o45_28 : decode k45 28 = .ok (.aload_n 3, 1) := by decide +kernel
theorem o45_29 : decode k45 29 = .ok (.iconst 0, 1) := by decide +kernel
theorem o45_30 : decode k45 30 = .ok (.iload 4, 2) := by decide +kernel
theorem o45_32 : decode k45 32 = .ok (.invokestatic 54, 3) := by decide +kernel
theorem o45_35 : decode k45 35 = .ok (.putfield 9, 3) := by decide +kernel
theorem o45_38 : decode k45 38 = .ok (.goto 59, 3) := by decide +kernel
theorem o45_97 : decode k45 97 = .ok (.return_, 1) := by decide +kernel
theorem o46_0 : decode k46 0 = .ok (.aload_n 0, 1) := by decide +kernel
theorem o46_1 : decode k46 1 = .ok (.aload_n 1, 1) := by decide +kernel
theorem o46_2 : decode k46 2 = .ok (.aconst_null, 1) := by decide +kernel
theorem o46_3 : decode k46 3 = .ok (.invokespecial 489, 3) := by decide +kernel
theorem o46_6 : decode k46 6 = .ok (.return_, 1) := by decide +kernel
theorem o47_0 : decode k47 0 = .ok (.new 18, 3) := by decide +kernel
theorem o47_3 : decode k47 3 = .ok (.dup, 1) := by decide +kernel
theorem o47_4 : decode k47 4 = .ok (.aload_n 0, 1) := by decide +kernel
theorem o47_5 : decode k47 5 = .ok (.invokespecial 137, 3) := by decide +kernel
theorem o47_8 : decode k47 8 = .ok (.areturn, 1) := by decide +kernel
theorem o48_0 : decode k48 0 = .ok (.aload_n 0, 1) := by decide +kernel
theorem o48_1 : decode k48 1 = .ok (.aload_n 1, 1) := by decide +kernel
theorem o48_2 : decode k48 2 = .ok (.iconst 0, 1) := by decide +kernel
theorem o48_3 : decode k48 3 = .ok (.aload_n 1, 1) := by decide +kernel
theorem o48_4 : decode k48 4 = .ok (.arraylength, 1) := by decide +kernel
theorem o48_5 : decode k48 5 = .ok (.aconst_null, 1) := by decide +kernel
theorem o48_6 : decode k48 6 = .ok (.invokespecial 27, 3) := by decide +kernel
theorem o48_9 : decode k48 9 = .ok (.return_, 1) := by decide +kernel
theorem o49_0 : decode k49 0 = .ok (.aload_n 0, 1) := by decide +kernel
theorem o49_1 : decode k49 1 = .ok (.invokespecial 1, 3) := by decide +kernel
theorem o49_4 : decode k49 4 = .ok (.return_, 1) := by decide +kernel
theorem o50_0 : decode k50 0 = .ok (.aload_n 0, 1) := by decide +kernel
theorem o50_1 : decode k50 1 = .ok (.invokespecial 1, 3) := by decide +kernel
theorem o50_4 : decode k50 4 = .ok (.aload_n 0, 1) := by decide +kernel
theorem o50_5 : decode k50 5 = .ok (.aload_n 1, 1) := by decide +kernel
theorem o50_6 : decode k50 6 = .ok (.putfield 7, 3) := by decide +kernel
theorem o50_9 : decode k50 9 = .ok (.aload_n 0, 1) := by decide +kernel
theorem o50_10 : decode k50 10 = .ok (.aload_n 2, 1) := by decide +kernel
theorem o50_11 : decode k50 11 = .ok (.putfield 13, 3) := by decide +kernel
theorem o50_14 : decode k50 14 = .ok (.aload_n 0, 1) := by decide +kernel
theorem o50_15 : decode k50 15 = .ok (.iload_n 3, 1) := by decide +kernel
theorem o50_16 : decode k50 16 = .ok (.putfield 16, 3) := by decide +kernel
theorem o50_19 : decode k50 19 = .ok (.aload_n 0, 1) := by decide +kernel
theorem o50_20 : decode k50 20 = .ok (.iload 4, 2) := by decide +kernel
theorem o50_22 : decode k50 22 = .ok (.putfield 20, 3) := by decide +kernel
theorem o50_25 : decode k50 25 = .ok (.aload_n 0, 1) := by decide +kernel
theorem o50_26 : decode k50 26 = .ok (.aload 5, 2) := by decide +kernel
theorem o50_28 : decode k50 28 = .ok (.putfield 24, 3) := by decide +kernel
theorem o50_31 : decode k50 31 = .ok (.return_, 1) := by decide +kernel
theorem o51_0 : decode k51 0 = .ok (.iload_n 1, 1) := by decide +kernel
theorem o51_1 : decode k51 1 = .ok (.iconst 3, 1) := by decide +kernel
theorem o51_2 : decode k51 2 = .ok (.iand, 1) := by decide +kernel
theorem o51_3 : decode k51 3 = .ok (.istore_n 2, 1) := by decide +kernel
theorem o51_4 : decode k51 4 = .ok (.iload_n 2, 1) := by decide +kernel
theorem o51_5 : decode k51 5 = .ok (.ifCond .ne 5, 3) := by decide +kernel
theorem o51_8 : decode k51 8 = .ok (.iload_n 0, 1) := by decide +kernel
theorem o51_9 : decode k51 9 = .ok (.ireturn, 1) := by decide +kernel
theorem o51_10 : decode k51 10 = .ok (.iload_n 2, 1) := by decide +kernel
theorem o51_11 : decode k51 11 = .ok (.iconst 1, 1) := by decide +kernel
theorem o51_12 : decode k51 12 = .ok (.if_icmp .ne 9, 3) := by decide +kernel
theorem o51_15 : decode k51 15 = .ok (.iload_n 0, 1) := by decide +kernel
theorem o51_16 : decode k51 16 = .ok (.bipush 127, 2) := by decide +kernel
theorem o51_18 : decode k51 18 = .ok (.iand, 1) := by decide +kernel
theorem o51_19 : decode k51 19 = .ok (.i2c, 1) := by decide +kernel
theorem o51_20 : decode k51 20 = .ok (.ireturn, 1) := by decide +kernel
theorem o51_21 : decode k51 21 = .ok (.iload_n 2, 1) := by decide +kernel
theorem o51_22 : decode k51 22 = .ok (.iconst 2, 1) := by decide +kernel
theorem o51_23 : decode k51 23 = .ok (.if_icmp .ne 10, 3) := by decide +kernel
theorem o51_26 : decode k51 26 = .ok (.iload_n 0, 1) := by decide +kernel
theorem o51_27 : decode k51 27 = .ok (.sipush 2047, 3) := by decide +kernel
theorem o51_30 : decode k51 30 = .ok (.iand, 1) := by decide +kernel
theorem o51_31 : decode k51 31 = .ok (.i2c, 1) := by decide +kernel
theorem o51_32 : decode k51 32 = .ok (.ireturn, 1) := by decide +kernel
theorem o51_33 : decode k51 33 = .ok (.ldc 45, 2) := by decide +kernel
theorem o51_35 : decode k51 35 = .ok (.iload_n 0, 1) := by decide +kernel
theorem o51_36 : decode k51 36 = .ok (.sipush 2047, 3) := by decide +kernel
theorem o51_39 : decode k51 39 = .ok (.iand, 1) := by decide +kernel
theorem o51_40 : decode k51 40 = .ok (.ior, 1) := by decide +kernel
theorem o51_41 : decode k51 41 = .ok (.i2c, 1) := by decide +kernel
theorem o51_42 : decode k51 42 = .ok (.ireturn, 1) := by decide +kernel
theorem o52_0 : decode k52 0 = .ok (.iload 6, 2) := by decide +kernel
theorem o52_2 : decode k52 2 = .ok (.iload_n 1, 1) := by decide +kernel
theorem o52_3 : decode k52 3 = .ok (.if_icmp .ge 8, 3) := by decide +kernel
theorem o52_6 : decode k52 6 = .ok (.aload_n 0, 1) := by decide +kernel
theorem o52_7 : decode k52 7 = .ok (.iload 6, 2) := by decide +kernel
theorem o52_9 : decode k52 9 = .ok (.baload, 1) := by decide +kernel
theorem o52_10 : decode k52 10 = .ok (.ireturn, 1) := by decide +kernel
theorem o52_11 : decode k52 11 = .ok (.iload 6, 2) := by decide +kernel
theorem o52_13 : decode k52 13 = .ok (.iload_n 1, 1) := by decide +kernel
theorem o52_14 : decode k52 14 = .ok (.isub, 1) := by decide +kernel
theorem o52_15 : decode k52 15 = .ok (.istore 7, 2) := by decide +kernel
theorem o52_17 : decode k52 17 = .ok (.iload 7, 2) := by decide +kernel
theorem o52_19 : decode k52 19 = .ok (.iload_n 3, 1) := by decide +kernel
theorem o52_20 : decode k52 20 = .ok (.if_icmp .ge 8, 3) := by decide +kernel
theorem o52_23 : decode k52 23 = .ok (.aload_n 2, 1) := by decide +kernel
theorem o52_24 : decode k52 24 = .ok (.iload 7, 2) := by decide +kernel
theorem o52_26 : decode k52 26 = .ok (.baload, 1) := by decide +kernel
theorem o52_27 : decode k52 27 = .ok (.ireturn, 1) := by decide +kernel
theorem o52_28 : decode k52 28 = .ok (.iload 7, 2) := by decide +kernel
theorem o52_30 : decode k52 30 = .ok (.iload_n 3, 1) := by decide +kernel
theorem o52_31 : decode k52 31 = .ok (.isub, 1) := by decide +kernel
theorem o52_32 : decode k52 32 = .ok (.istore 7, 2) := by decide +kernel
theorem o52_34 : decode k52 34 = .ok (.iload 7, 2) := by decide +kernel
theorem o52_36 : decode k52 36 = .ok (.iload 5, 2) := by decide +kernel
theorem o52_38 : decode k52 38 = .ok (.if_icmp .ge 9, 3) := by decide +kernel
theorem o52_41 : decode k52 41 = .ok (.aload 4, 2) := by decide +kernel
theorem o52_43 : decode k52 43 = .ok (.iload 7, 2) := by decide +kernel
theorem o52_45 : decode k52 45 = .ok (.baload, 1) := by decide +kernel
theorem o52_46 : decode k52 46 = .ok (.ireturn, 1) := by decide +kernel
theorem o52_47 : decode k52 47 = .ok (.sipush (-1000), 3) := by decide +kernel
theorem o52_50 : decode k52 50 = .ok (.ireturn, 1) := by decide +kernel
theorem o53_0 : decode k53 0 = .ok (.iload_n 1, 1) := by decide +kernel
theorem o53_1 : decode k53 1 = .ok (.aload_n 0, 1) := by decide +kernel
theorem o53_2 : decode k53 2 = .ok (.arraylength, 1) := by decide +kernel
theorem o53_3 : decode k53 3 = .ok (.if_icmp .ge 9, 3) := by decide +kernel
theorem o53_6 : decode k53 6 = .ok (.aload_n 0, 1) := by decide +kernel
theorem o53_7 : decode k53 7 = .ok (.iload_n 1, 1) := by decide +kernel
theorem o53_8 : decode k53 8 = .ok (.baload, 1) := by decide +kernel
theorem o53_9 : decode k53 9 = .ok (.goto 6, 3) := by decide +kernel
theorem o53_15 : decode k53 15 = .ok (.istore 8, 2) := by decide +kernel
theorem o53_17 : decode k53 17 = .ok (.iload 8, 2) := by decide +kernel
theorem o53_19 : decode k53 19 = .ok (.aload_n 2, 1) := by decide +kernel
theorem o53_20 : decode k53 20 = .ok (.iload_n 3, 1) := by decide +kernel
theorem o53_21 : decode k53 21 = .ok (.aload 4, 2) := by decide +kernel
theorem o53_23 : decode k53 23 = .ok (.iload 5, 2) := by decide +kernel
theorem o53_25 : decode k53 25 = .ok (.aload 6, 2) := by decide +kernel
theorem o53_27 : decode k53 27 = .ok (.iload 7, 2) := by decide +kernel
theorem o53_29 : decode k53 29 = .ok (.iload_n 1, 1) := by decide +kernel
theorem o53_30 : decode k53 30 = .ok (.invokestatic 49, 3) := by decide +kernel
theorem o53_33 : decode k53 33 = .ok (.if_icmp .ne 7, 3) := by decide +kernel
theorem o53_36 : decode k53 36 = .ok (.iconst 1, 1) := by decide +kernel
theorem o53_37 : decode k53 37 = .ok (.goto 4, 3) := by decide +kernel
theorem o53_41 : decode k53 41 = .ok (.ireturn, 1) := by decide +kernel
theorem o53_12 : decode k53 12 = .ok (.sipush (-1000), 3) := by decide +kernel
theorem o14_8 : decode k14 8 = .ok (.aload_n 0, 1) := by decide +kernel
theorem o14_9 : decode k14 9 = .ok (.ldc 7, 2) := by decide +kernel
theorem o14_11 : decode k14 11 = .ok (.getfield 9, 3) := by decide +kernel
theorem o14_14 : decode k14 14 = .ok (.putfield 9, 3) := by decide +kernel
theorem o14_17 : decode k14 17 = .ok (.aload_n 0, 1) := by decide +kernel
theorem o14_18 : decode k14 18 = .ok (.ldc 7, 2) := by decide +kernel
theorem o14_20 : decode k14 20 = .ok (.getfield 15, 3) := by decide +kernel
theorem o14_23 : decode k14 23 = .ok (.putfield 15, 3) := by decide +kernel
theorem o14_26 : decode k14 26 = .ok (.return_, 1) := by decide +kernel
theorem o54_0 : decode k54 0 = .ok (.aload_n 1, 1) := by decide +kernel
theorem o54_1 : decode k54 1 = .ok (.getstatic 141, 3) := by decide +kernel
theorem o54_4 : decode k54 4 = .ok (.invokevirtual 134, 3) := by decide +kernel
theorem o54_7 : decode k54 7 = .ok (.astore_n 2, 1) := by decide +kernel
theorem o54_8 : decode k54 8 = .ok (.new 67, 3) := by decide +kernel
theorem o54_11 : decode k54 11 = .ok (.dup, 1) := by decide +kernel
theorem o54_12 : decode k54 12 = .ok (.invokespecial 69, 3) := by decide +kernel
theorem o54_15 : decode k54 15 = .ok (.aload_n 2, 1) := by decide +kernel
theorem o54_16 : decode k54 16 = .ok (.arraylength, 1) := by decide +kernel
theorem o54_17 : decode k54 17 = .ok (.invokevirtual 108, 3) := by decide +kernel
theorem o54_20 : decode k54 20 = .ok (.ldc 144, 2) := by decide +kernel
theorem o54_22 : decode k54 22 = .ok (.invokevirtual 72, 3) := by decide +kernel
theorem o54_25 : decode k54 25 = .ok (.invokevirtual 76, 3) := by decide +kernel
theorem o54_28 : decode k54 28 = .ok (.getstatic 128, 3) := by decide +kernel
theorem o54_31 : decode k54 31 = .ok (.invokevirtual 134, 3) := by decide +kernel
theorem o54_34 : decode k54 34 = .ok (.astore_n 3, 1) := by decide +kernel
theorem o54_35 : decode k54 35 = .ok (.aload_n 0, 1) := by decide +kernel
theorem o54_36 : decode k54 36 = .ok (.getfield 24, 3) := by decide +kernel
theorem o54_39 : decode k54 39 = .ok (.arraylength, 1) := by decide +kernel
theorem o54_40 : decode k54 40 = .ok (.aload_n 3, 1) := by decide +kernel
theorem o54_41 : decode k54 41 = .ok (.arraylength, 1) := by decide +kernel
theorem o54_42 : decode k54 42 = .ok (.iadd, 1) := by decide +kernel
theorem o54_43 : decode k54 43 = .ok (.aload_n 2, 1) := by decide +kernel
theorem o54_44 : decode k54 44 = .ok (.arraylength, 1) := by decide +kernel
theorem o54_45 : decode k54 45 = .ok (.iadd, 1) := by decide +kernel
theorem o54_46 : decode k54 46 = .ok (.newarray .byte, 2) := by decide +kernel
theorem o54_48 : decode k54 48 = .ok (.astore 4, 2) := by decide +kernel
theorem o54_50 : decode k54 50 = .ok (.aload_n 0, 1) := by decide +kernel
theorem o54_51 : decode k54 51 = .ok (.getfield 24, 3) := by decide +kernel
theorem o54_54 : decode k54 54 = .ok (.iconst 0, 1) := by decide +kernel
theorem o54_55 : decode k54 55 = .ok (.aload 4, 2) := by decide +kernel
theorem o54_57 : decode k54 57 = .ok (.iconst 0, 1) := by decide +kernel
theorem o54_58 : decode k54 58 = .ok (.aload_n 0, 1) := by decide +kernel
theorem o54_59 : decode k54 59 = .ok (.getfield 24, 3) := by decide +kernel
theorem o54_62 : decode k54 62 = .ok (.arraylength, 1) := by decide +kernel
theorem o54_63 : decode k54 63 = .ok (.invokestatic 146, 3) := by decide +kernel
theorem o54_66 : decode k54 66 = .ok (.aload_n 3, 1) := by decide +kernel
theorem o54_67 : decode k54 67 = .ok (.iconst 0, 1) := by decide +kernel
theorem o54_68 : decode k54 68 = .ok (.aload 4, 2) := by decide +kernel
theorem o54_70 : decode k54 70 = .ok (.aload_n 0, 1) := by decide +kernel
theorem o54_71 : decode k54 71 = .ok (.getfield 24, 3) := by decide +kernel
theorem o54_74 : decode k54 74 = .ok (.arraylength, 1) := by decide +kernel
theorem o54_75 : decode k54 75 = .ok (.aload_n 3, 1) := by decide +kernel
theorem o54_76 : decode k54 76 = .ok (.arraylength, 1) := by decide +kernel
theorem o54_77 : decode k54 77 = .ok (.invokestatic 146, 3) := by decide +kernel
theorem o54_80 : decode k54 80 = .ok (.aload_n 2, 1) := by decide +kernel
theorem o54_81 : decode k54 81 = .ok (.iconst 0, 1) := by decide +kernel
theorem o54_82 : decode k54 82 = .ok (.aload 4, 2) := by decide +kernel
theorem o54_84 : decode k54 84 = .ok (.aload_n 0, 1) := by decide +kernel
theorem o54_85 : decode k54 85 = .ok (.getfield 24, 3) := by decide +kernel
theorem o54_88 : decode k54 88 = .ok (.arraylength, 1) := by decide +kernel
theorem o54_89 : decode k54 89 = .ok (.aload_n 3, 1) := by decide +kernel
theorem o54_90 : decode k54 90 = .ok (.arraylength, 1) := by decide +kernel
theorem o54_91 : decode k54 91 = .ok (.iadd, 1) := by decide +kernel
theorem o54_92 : decode k54 92 = .ok (.aload_n 2, 1) := by decide +kernel
theorem o54_93 : decode k54 93 = .ok (.arraylength, 1) := by decide +kernel
theorem o54_94 : decode k54 94 = .ok (.invokestatic 146, 3) := by decide +kernel
theorem o54_97 : decode k54 97 = .ok (.aload 4, 2) := by decide +kernel
theorem o54_99 : decode k54 99 = .ok (.areturn, 1) := by decide +kernel
theorem opd_0 : parseMethodDescriptor "(I)I" = some ⟨[.int], some .int⟩ := by decide +kernel
theorem opd_1 : parseMethodDescriptor "(I)[B" = some ⟨[.int], some (.array .byte)⟩ := by decide +kernel
theorem opd_2 : parseMethodDescriptor "([BII)V" = some ⟨[(.array .byte), .int, .int], none⟩ := by decide +kernel
theorem opd_3 : parseMethodDescriptor "([CI[BII)I" = some ⟨[(.array .char), .int, (.array .byte), .int, .int], some .int⟩ := by decide +kernel
theorem opd_4 : parseMethodDescriptor "([CII)[B" = some ⟨[(.array .char), .int, .int], some (.array .byte)⟩ := by decide +kernel
theorem opd_5 : parseMethodDescriptor "([BI)C" = some ⟨[(.array .byte), .int], some .char⟩ := by decide +kernel
theorem opd_6 : parseMethodDescriptor "([BI)B" = some ⟨[(.array .byte), .int], some .byte⟩ := by decide +kernel
theorem opd_7 : parseMethodDescriptor "([BII)I" = some ⟨[(.array .byte), .int, .int], some .int⟩ := by decide +kernel
theorem opd_8 : parseMethodDescriptor "(II)I" = some ⟨[.int, .int], some .int⟩ := by decide +kernel
theorem opd_9 : parseMethodDescriptor "([BI)[B" = some ⟨[(.array .byte), .int], some (.array .byte)⟩ := by decide +kernel
theorem opd_10 : parseMethodDescriptor "(C)Z" = some ⟨[.char], some .boolean⟩ := by decide +kernel
theorem opd_11 : parseMethodDescriptor "(CC)I" = some ⟨[.char, .char], some .int⟩ := by decide +kernel
theorem opd_12 : parseMethodDescriptor "([BZ)[B" = some ⟨[(.array .byte), .boolean], some (.array .byte)⟩ := by decide +kernel
theorem opd_13 : parseMethodDescriptor "([BII)Z" = some ⟨[(.array .byte), .int, .int], some .boolean⟩ := by decide +kernel
theorem opd_14 : parseMethodDescriptor "(B[BZ)[B" = some ⟨[.byte, (.array .byte), .boolean], some (.array .byte)⟩ := by decide +kernel
theorem opd_15 : parseMethodDescriptor "()B" = some ⟨[], some .byte⟩ := by decide +kernel
theorem opd_16 : parseMethodDescriptor "(Ljava/nio/charset/Charset;B[B)[B" = some ⟨[(.object "java/nio/charset/Charset"), .byte, (.array .byte)], some (.array .byte)⟩ := by decide +kernel
theorem opd_17 : parseMethodDescriptor "(B[B)[B" = some ⟨[.byte, (.array .byte)], some (.array .byte)⟩ := by decide +kernel
theorem opd_18 : parseMethodDescriptor "(I)V" = some ⟨[.int], none⟩ := by decide +kernel
theorem opd_19 : parseMethodDescriptor "()Z" = some ⟨[], some .boolean⟩ := by decide +kernel
theorem opd_20 : parseMethodDescriptor "(II[B)I" = some ⟨[.int, .int, (.array .byte)], some .int⟩ := by decide +kernel
theorem opd_21 : parseMethodDescriptor "(I)Ljava/lang/AbstractStringBuilder;" = some ⟨[.int], some (.object "java/lang/AbstractStringBuilder")⟩ := by decide +kernel
theorem opd_22 : parseMethodDescriptor "(Ljava/lang/String;)V" = some ⟨[(.object "java/lang/String")], none⟩ := by decide +kernel
theorem opd_23 : parseMethodDescriptor "([BIB)V" = some ⟨[(.array .byte), .int, .byte], none⟩ := by decide +kernel
theorem opd_24 : parseMethodDescriptor "()I" = some ⟨[], some .int⟩ := by decide +kernel
theorem opd_25 : parseMethodDescriptor "(ILjava/lang/String;)V" = some ⟨[.int, (.object "java/lang/String")], none⟩ := by decide +kernel
theorem opd_26 : parseMethodDescriptor "(Ljava/lang/String;)Ljava/lang/AbstractStringBuilder;" = some ⟨[(.object "java/lang/String")], some (.object "java/lang/AbstractStringBuilder")⟩ := by decide +kernel
theorem opd_27 : parseMethodDescriptor "(II)V" = some ⟨[.int, .int], none⟩ := by decide +kernel
theorem opd_28 : parseMethodDescriptor "([BII)[B" = some ⟨[(.array .byte), .int, .int], some (.array .byte)⟩ := by decide +kernel
theorem opd_29 : parseMethodDescriptor "()[B" = some ⟨[], some (.array .byte)⟩ := by decide +kernel
theorem opd_30 : parseMethodDescriptor "(Ljava/lang/AbstractStringBuilder;Ljava/lang/Void;)V" = some ⟨[(.object "java/lang/AbstractStringBuilder"), (.object "java/lang/Void")], none⟩ := by decide +kernel
theorem opd_31 : parseMethodDescriptor "(Ljava/lang/StringBuilder;)V" = some ⟨[(.object "java/lang/StringBuilder")], none⟩ := by decide +kernel
theorem opd_32 : parseMethodDescriptor "([CIILjava/lang/Void;)V" = some ⟨[(.array .char), .int, .int, (.object "java/lang/Void")], none⟩ := by decide +kernel
theorem opd_33 : parseMethodDescriptor "()V" = some ⟨[], none⟩ := by decide +kernel
theorem opd_34 : parseMethodDescriptor "([BI[BI[BII)I" = some ⟨[(.array .byte), .int, (.array .byte), .int, (.array .byte), .int, .int], some .int⟩ := by decide +kernel
theorem opd_35 : parseMethodDescriptor "(Ljava/nio/charset/Charset;)[B" = some ⟨[(.object "java/nio/charset/Charset")], some (.array .byte)⟩ := by decide +kernel
theorem opd_36 : parseMethodDescriptor "(I)Ljava/lang/StringBuilder;" = some ⟨[.int], some (.object "java/lang/StringBuilder")⟩ := by decide +kernel
theorem opd_37 : parseMethodDescriptor "(Ljava/lang/String;)Ljava/lang/StringBuilder;" = some ⟨[(.object "java/lang/String")], some (.object "java/lang/StringBuilder")⟩ := by decide +kernel
theorem opd_38 : parseMethodDescriptor "()Ljava/lang/String;" = some ⟨[], some (.object "java/lang/String")⟩ := by decide +kernel
theorem opd_39 : parseMethodDescriptor "(CI)C" = some ⟨[.char, .int], some .char⟩ := by decide +kernel
theorem opd_40 : parseMethodDescriptor "(Ljava/lang/String;Ljava/lang/String;IZ[B)V" = some ⟨[(.object "java/lang/String"), (.object "java/lang/String"), .int, .boolean, (.array .byte)], none⟩ := by decide +kernel
theorem opd_41 : parseMethodDescriptor "(Ljava/lang/String;)[B" = some ⟨[(.object "java/lang/String")], some (.array .byte)⟩ := by decide +kernel
theorem opd_42 : parseMethodDescriptor "([BI[BI[BI[BI)Z" = some ⟨[(.array .byte), .int, (.array .byte), .int, (.array .byte), .int, (.array .byte), .int], some .boolean⟩ := by decide +kernel
theorem opd_43 : parseMethodDescriptor "([CII)I" = some ⟨[(.array .char), .int, .int], some .int⟩ := by decide +kernel
theorem opd_44 : parseMethodDescriptor "([C)V" = some ⟨[(.array .char)], none⟩ := by decide +kernel
theorem ef_rm_put (m : MethodId) (x0 : Addr) (x1 : Int32) (x2 : Int32) : entryFrame m #[(.ref x0), (.int x1), (.int x2)] 3 = mkF m 0 #[.val (.ref x0), .val (.int x1), .val (.int x2)] [] := by first | (simp [entryFrame, mkF, argsToLocals, Value.category]; done) | rfl
set_option maxRecDepth 65536 in
set_option maxHeartbeats 40000000 in
theorem rm_put (l : Launch) (Z : State) (a0 : Array Value) (hw : ∀ d ∈ tables_1, d.before a0 Z = true) (a1 : Addr) (cp : Int32) (NN : Nat) (out : List Int32) (h0 : Heap) (n0 : Nat) (Z0 : n0 ≤ h0.size) (n0_a1 : n0 ≤ a1) (hl : out.length + (own_put cp).length ≤ NN) (V1 : own_Pre Z h0 a1 NN out) :
  own_Met l Z (⟨"com/example/reservation/reservation/server/TargetRequestPinLaw", "put", "([BII)I"⟩ : MethodName) method_5_code 3 (some .int) ({ frames := 0, cells := 0, slots := 0, locals := 0 } : Room) #[(.ref a1), (.int (Int32.ofNat out.length)), (.int cp)] h0 (fun v h L => v = some (.int (Int32.ofNat (out ++ own_put cp).length)) ∧ Fr n0 L ∧ Keep h0 h [a1] ∧ own_Pre Z h a1 NN (out ++ own_put cp)) := by
 refine own_body (plainFor_of_name (by first | (simp [plainName, overriddenIn]; done) | decide +kernel)) ?_
 intro p e s m below meth c s₁ hx hby hml hown hnm hlk hrt hZ X0 e0
 refine own_enter (ef_rm_put m a1 (Int32.ofNat out.length) cp) ?_
 have N0 := Fr.nil n0
 have Kp0 := Keep.refl h0 [a1]
 refine own_iloadN X0 hx hby o0_0 (pc' := 1) rfl rfl ?_
 by_cases h0_ : cp < (0 : Int32)
 ·refine own_ifN X0 hx hby o0_1 (pc' := 4) rfl (tlt h0_).2.1 ?_
  have hl' := hl
  rw [own_put0 h0_] at hl'
  simp only [List.length_cons, List.length_nil] at hl'
  refine own_aloadN X0 hx hby o0_4 (pc' := 5) rfl rfl rfl ?_
  refine own_iloadN X0 hx hby o0_5 (pc' := 6) rfl rfl ?_
  refine own_bipush X0 hx hby o0_6 (pc' := 8) rfl (z := 63) rfl ?_
  refine own_gP X0 hx hby hZ e0 V1 (by omega) (w := (63 : Int32)) rfl rfl o0_8 (pc' := 9) rfl ?_
  intro T1 h1 X1 e1 W1 Q1
  have sz2 := Nat.le_trans (Nat.le_refl _) (Keep.of_wr W1).1
  replace V1 := Q1
  have N1 := own_fr1 (sl := (out : List Int32).length) N0 n0_a1
  have Kp1 := Kp0.wr W1 (Or.inl (List.mem_of_getElem? (i := 0) rfl))
  refine own_iloadN X1 hx hby o0_9 (pc' := 10) rfl rfl ?_
  refine own_iconst X1 hx hby o0_10 (pc' := 11) rfl (z := 1) rfl ?_
  refine own_iadd X1 hx hby o0_11 (pc' := 12) rfl ?_
  exact own_retI X1 hx hby hlk hrt o0_12 (by first | exact ⟨by rw [own_put0 h0_, List.length_append]; exact congrArg (fun z => some (Value.int z)) (own_j (k := 1) rfl), N1, Kp1, by rw [own_put0 h0_]; simpa [List.append_assoc] using V1⟩ | (rw [e1]; exact ⟨by rw [own_put0 h0_, List.length_append]; exact congrArg (fun z => some (Value.int z)) (own_j (k := 1) rfl), N1, Kp1, by rw [own_put0 h0_]; simpa [List.append_assoc] using V1⟩)) (by decide) (by decide)
 ·refine own_ifY X0 hx hby o0_1 (by decide) (pc' := 13) (by decide) (flt h0_).2.1 ?_
  refine own_iloadN X0 hx hby o0_13 (pc' := 14) rfl rfl ?_
  refine own_sipush X0 hx hby o0_14 (pc' := 17) rfl (z := 128) rfl ?_
  by_cases h1_ : cp < (128 : Int32)
  ·refine own_icmpN X0 hx hby o0_17 (pc' := 20) rfl (tlt h1_).2.1 ?_
   have hl' := hl
   rw [own_put1 h0_ h1_] at hl'
   simp only [List.length_cons, List.length_nil] at hl'
   refine own_aloadN X0 hx hby o0_20 (pc' := 21) rfl rfl rfl ?_
   refine own_iloadN X0 hx hby o0_21 (pc' := 22) rfl rfl ?_
   refine own_iloadN X0 hx hby o0_22 (pc' := 23) rfl rfl ?_
   refine own_i2b X0 hx hby o0_23 (pc' := 24) rfl ?_
   refine own_gP X0 hx hby hZ e0 V1 (by omega) (w := (own_b8 cp)) (own_nar8 _) rfl o0_24 (pc' := 25) rfl ?_
   intro T3 h3 X3 e3 W3 Q3
   have sz4 := Nat.le_trans (Nat.le_refl _) (Keep.of_wr W3).1
   replace V1 := Q3
   have N3 := own_fr1 (sl := (out : List Int32).length) N0 n0_a1
   have Kp3 := Kp0.wr W3 (Or.inl (List.mem_of_getElem? (i := 0) rfl))
   refine own_iloadN X3 hx hby o0_25 (pc' := 26) rfl rfl ?_
   refine own_iconst X3 hx hby o0_26 (pc' := 27) rfl (z := 1) rfl ?_
   refine own_iadd X3 hx hby o0_27 (pc' := 28) rfl ?_
   exact own_retI X3 hx hby hlk hrt o0_28 (by first | exact ⟨by rw [own_put1 h0_ h1_, List.length_append]; exact congrArg (fun z => some (Value.int z)) (own_j (k := 1) rfl), N3, Kp3, by rw [own_put1 h0_ h1_]; simpa [List.append_assoc] using V1⟩ | (rw [e3]; exact ⟨by rw [own_put1 h0_ h1_, List.length_append]; exact congrArg (fun z => some (Value.int z)) (own_j (k := 1) rfl), N3, Kp3, by rw [own_put1 h0_ h1_]; simpa [List.append_assoc] using V1⟩)) (by decide) (by decide)
  ·refine own_icmpY X0 hx hby o0_17 (by decide) (pc' := 29) (by decide) (flt h1_).2.1 ?_
   refine own_iloadN X0 hx hby o0_29 (pc' := 30) rfl rfl ?_
   refine own_sipush X0 hx hby o0_30 (pc' := 33) rfl (z := 2048) rfl ?_
   by_cases h2_ : cp < (2048 : Int32)
   ·refine own_icmpN X0 hx hby o0_33 (pc' := 36) rfl (tlt h2_).2.1 ?_
    have hl' := hl
    rw [own_put2 h0_ h1_ h2_] at hl'
    simp only [List.length_cons, List.length_nil] at hl'
    refine own_aloadN X0 hx hby o0_36 (pc' := 37) rfl rfl rfl ?_
    refine own_iloadN X0 hx hby o0_37 (pc' := 38) rfl rfl ?_
    refine own_sipush X0 hx hby o0_38 (pc' := 41) rfl (z := 192) rfl ?_
    refine own_iloadN X0 hx hby o0_41 (pc' := 42) rfl rfl ?_
    refine own_bipush X0 hx hby o0_42 (pc' := 44) rfl (z := 6) rfl ?_
    refine own_ishr X0 hx hby o0_44 (pc' := 45) rfl ?_
    refine own_ior X0 hx hby o0_45 (pc' := 46) rfl ?_
    refine own_i2b X0 hx hby o0_46 (pc' := 47) rfl ?_
    refine own_gP X0 hx hby hZ e0 V1 (by omega) (w := (own_b8 ((192 : Int32) ||| (cp >>> ((6 : Int32) &&& 31))))) (own_nar8 _) rfl o0_47 (pc' := 48) rfl ?_
    intro T5 h5 X5 e5 W5 Q5
    have sz6 := Nat.le_trans (Nat.le_refl _) (Keep.of_wr W5).1
    replace V1 := Q5
    have N5 := own_fr1 (sl := (out : List Int32).length) N0 n0_a1
    have Kp5 := Kp0.wr W5 (Or.inl (List.mem_of_getElem? (i := 0) rfl))
    refine own_aloadN X5 hx hby o0_48 (pc' := 49) rfl rfl rfl ?_
    refine own_iloadN X5 hx hby o0_49 (pc' := 50) rfl rfl ?_
    refine own_iconst X5 hx hby o0_50 (pc' := 51) rfl (z := 1) rfl ?_
    refine own_iadd X5 hx hby o0_51 (pc' := 52) rfl ?_
    refine own_sipush X5 hx hby o0_52 (pc' := 55) rfl (z := 128) rfl ?_
    refine own_iloadN X5 hx hby o0_55 (pc' := 56) rfl rfl ?_
    refine own_bipush X5 hx hby o0_56 (pc' := 58) rfl (z := 63) rfl ?_
    refine own_iand X5 hx hby o0_58 (pc' := 59) rfl ?_
    refine own_ior X5 hx hby o0_59 (pc' := 60) rfl ?_
    refine own_i2b X5 hx hby o0_60 (pc' := 61) rfl ?_
    refine own_gP X5 hx hby hZ e5 V1 (by simp; omega) (w := (own_b8 ((128 : Int32) ||| (cp &&& (63 : Int32))))) (own_nar8 _) (own_j (k := 1) (by simp)) o0_61 (pc' := 62) rfl ?_
    intro T7 h7 X7 e7 W7 Q7
    have sz8 := Nat.le_trans sz6 (Keep.of_wr W7).1
    replace V1 := Q7
    have N7 := own_fr1 (sl := ((out ++ [(own_b8 ((192 : Int32) ||| (cp >>> ((6 : Int32) &&& 31))))]) : List Int32).length) N5 n0_a1
    have Kp7 := Kp5.wr W7 (Or.inl (List.mem_of_getElem? (i := 0) rfl))
    refine own_iloadN X7 hx hby o0_62 (pc' := 63) rfl rfl ?_
    refine own_iconst X7 hx hby o0_63 (pc' := 64) rfl (z := 2) rfl ?_
    refine own_iadd X7 hx hby o0_64 (pc' := 65) rfl ?_
    exact own_retI X7 hx hby hlk hrt o0_65 (by first | exact ⟨by rw [own_put2 h0_ h1_ h2_, List.length_append]; exact congrArg (fun z => some (Value.int z)) (own_j (k := 2) rfl), N7, Kp7, by rw [own_put2 h0_ h1_ h2_]; simpa [List.append_assoc] using V1⟩ | (rw [e7]; exact ⟨by rw [own_put2 h0_ h1_ h2_, List.length_append]; exact congrArg (fun z => some (Value.int z)) (own_j (k := 2) rfl), N7, Kp7, by rw [own_put2 h0_ h1_ h2_]; simpa [List.append_assoc] using V1⟩)) (by decide) (by decide)
   ·refine own_icmpY X0 hx hby o0_33 (by decide) (pc' := 66) (by decide) (flt h2_).2.1 ?_
    refine own_iloadN X0 hx hby o0_66 (pc' := 67) rfl rfl ?_
    refine own_ldcI X0 hx hby hZ hown (ow_292 hw) o0_67 (pc' := 69) rfl ?_
    by_cases h3_ : cp < (65536 : Int32)
    ·refine own_icmpN X0 hx hby o0_69 (pc' := 72) rfl (tlt h3_).2.1 ?_
     have hl' := hl
     rw [own_put3 h0_ h1_ h2_ h3_] at hl'
     simp only [List.length_cons, List.length_nil] at hl'
     refine own_aloadN X0 hx hby o0_72 (pc' := 73) rfl rfl rfl ?_
     refine own_iloadN X0 hx hby o0_73 (pc' := 74) rfl rfl ?_
     refine own_sipush X0 hx hby o0_74 (pc' := 77) rfl (z := 224) rfl ?_
     refine own_iloadN X0 hx hby o0_77 (pc' := 78) rfl rfl ?_
     refine own_bipush X0 hx hby o0_78 (pc' := 80) rfl (z := 12) rfl ?_
     refine own_ishr X0 hx hby o0_80 (pc' := 81) rfl ?_
     refine own_ior X0 hx hby o0_81 (pc' := 82) rfl ?_
     refine own_i2b X0 hx hby o0_82 (pc' := 83) rfl ?_
     refine own_gP X0 hx hby hZ e0 V1 (by omega) (w := (own_b8 ((224 : Int32) ||| (cp >>> ((12 : Int32) &&& 31))))) (own_nar8 _) rfl o0_83 (pc' := 84) rfl ?_
     intro T9 h9 X9 e9 W9 Q9
     have sz10 := Nat.le_trans (Nat.le_refl _) (Keep.of_wr W9).1
     replace V1 := Q9
     have N9 := own_fr1 (sl := (out : List Int32).length) N0 n0_a1
     have Kp9 := Kp0.wr W9 (Or.inl (List.mem_of_getElem? (i := 0) rfl))
     refine own_aloadN X9 hx hby o0_84 (pc' := 85) rfl rfl rfl ?_
     refine own_iloadN X9 hx hby o0_85 (pc' := 86) rfl rfl ?_
     refine own_iconst X9 hx hby o0_86 (pc' := 87) rfl (z := 1) rfl ?_
     refine own_iadd X9 hx hby o0_87 (pc' := 88) rfl ?_
     refine own_sipush X9 hx hby o0_88 (pc' := 91) rfl (z := 128) rfl ?_
     refine own_iloadN X9 hx hby o0_91 (pc' := 92) rfl rfl ?_
     refine own_bipush X9 hx hby o0_92 (pc' := 94) rfl (z := 6) rfl ?_
     refine own_ishr X9 hx hby o0_94 (pc' := 95) rfl ?_
     refine own_bipush X9 hx hby o0_95 (pc' := 97) rfl (z := 63) rfl ?_
     refine own_iand X9 hx hby o0_97 (pc' := 98) rfl ?_
     refine own_ior X9 hx hby o0_98 (pc' := 99) rfl ?_
     refine own_i2b X9 hx hby o0_99 (pc' := 100) rfl ?_
     refine own_gP X9 hx hby hZ e9 V1 (by simp; omega) (w := (own_b8 ((128 : Int32) ||| ((cp >>> ((6 : Int32) &&& 31)) &&& (63 : Int32))))) (own_nar8 _) (own_j (k := 1) (by simp)) o0_100 (pc' := 101) rfl ?_
     intro T11 h11 X11 e11 W11 Q11
     have sz12 := Nat.le_trans sz10 (Keep.of_wr W11).1
     replace V1 := Q11
     have N11 := own_fr1 (sl := ((out ++ [(own_b8 ((224 : Int32) ||| (cp >>> ((12 : Int32) &&& 31))))]) : List Int32).length) N9 n0_a1
     have Kp11 := Kp9.wr W11 (Or.inl (List.mem_of_getElem? (i := 0) rfl))
     refine own_aloadN X11 hx hby o0_101 (pc' := 102) rfl rfl rfl ?_
     refine own_iloadN X11 hx hby o0_102 (pc' := 103) rfl rfl ?_
     refine own_iconst X11 hx hby o0_103 (pc' := 104) rfl (z := 2) rfl ?_
     refine own_iadd X11 hx hby o0_104 (pc' := 105) rfl ?_
     refine own_sipush X11 hx hby o0_105 (pc' := 108) rfl (z := 128) rfl ?_
     refine own_iloadN X11 hx hby o0_108 (pc' := 109) rfl rfl ?_
     refine own_bipush X11 hx hby o0_109 (pc' := 111) rfl (z := 63) rfl ?_
     refine own_iand X11 hx hby o0_111 (pc' := 112) rfl ?_
     refine own_ior X11 hx hby o0_112 (pc' := 113) rfl ?_
     refine own_i2b X11 hx hby o0_113 (pc' := 114) rfl ?_
     refine own_gP X11 hx hby hZ e11 V1 (by simp; omega) (w := (own_b8 ((128 : Int32) ||| (cp &&& (63 : Int32))))) (own_nar8 _) (own_j (k := 2) (by simp)) o0_114 (pc' := 115) rfl ?_
     intro T13 h13 X13 e13 W13 Q13
     have sz14 := Nat.le_trans sz12 (Keep.of_wr W13).1
     replace V1 := Q13
     have N13 := own_fr1 (sl := (((out ++ [(own_b8 ((224 : Int32) ||| (cp >>> ((12 : Int32) &&& 31))))]) ++ [(own_b8 ((128 : Int32) ||| ((cp >>> ((6 : Int32) &&& 31)) &&& (63 : Int32))))]) : List Int32).length) N11 n0_a1
     have Kp13 := Kp11.wr W13 (Or.inl (List.mem_of_getElem? (i := 0) rfl))
     refine own_iloadN X13 hx hby o0_115 (pc' := 116) rfl rfl ?_
     refine own_iconst X13 hx hby o0_116 (pc' := 117) rfl (z := 3) rfl ?_
     refine own_iadd X13 hx hby o0_117 (pc' := 118) rfl ?_
     exact own_retI X13 hx hby hlk hrt o0_118 (by first | exact ⟨by rw [own_put3 h0_ h1_ h2_ h3_, List.length_append]; exact congrArg (fun z => some (Value.int z)) (own_j (k := 3) rfl), N13, Kp13, by rw [own_put3 h0_ h1_ h2_ h3_]; simpa [List.append_assoc] using V1⟩ | (rw [e13]; exact ⟨by rw [own_put3 h0_ h1_ h2_ h3_, List.length_append]; exact congrArg (fun z => some (Value.int z)) (own_j (k := 3) rfl), N13, Kp13, by rw [own_put3 h0_ h1_ h2_ h3_]; simpa [List.append_assoc] using V1⟩)) (by decide) (by decide)
    ·refine own_icmpY X0 hx hby o0_69 (by decide) (pc' := 119) (by decide) (flt h3_).2.1 ?_
     have hl' := hl
     rw [own_put4 h0_ h1_ h2_ h3_] at hl'
     simp only [List.length_cons, List.length_nil] at hl'
     refine own_aloadN X0 hx hby o0_119 (pc' := 120) rfl rfl rfl ?_
     refine own_iloadN X0 hx hby o0_120 (pc' := 121) rfl rfl ?_
     refine own_sipush X0 hx hby o0_121 (pc' := 124) rfl (z := 240) rfl ?_
     refine own_iloadN X0 hx hby o0_124 (pc' := 125) rfl rfl ?_
     refine own_bipush X0 hx hby o0_125 (pc' := 127) rfl (z := 18) rfl ?_
     refine own_ishr X0 hx hby o0_127 (pc' := 128) rfl ?_
     refine own_ior X0 hx hby o0_128 (pc' := 129) rfl ?_
     refine own_i2b X0 hx hby o0_129 (pc' := 130) rfl ?_
     refine own_gP X0 hx hby hZ e0 V1 (by omega) (w := (own_b8 ((240 : Int32) ||| (cp >>> ((18 : Int32) &&& 31))))) (own_nar8 _) rfl o0_130 (pc' := 131) rfl ?_
     intro T15 h15 X15 e15 W15 Q15
     have sz16 := Nat.le_trans (Nat.le_refl _) (Keep.of_wr W15).1
     replace V1 := Q15
     have N15 := own_fr1 (sl := (out : List Int32).length) N0 n0_a1
     have Kp15 := Kp0.wr W15 (Or.inl (List.mem_of_getElem? (i := 0) rfl))
     refine own_aloadN X15 hx hby o0_131 (pc' := 132) rfl rfl rfl ?_
     refine own_iloadN X15 hx hby o0_132 (pc' := 133) rfl rfl ?_
     refine own_iconst X15 hx hby o0_133 (pc' := 134) rfl (z := 1) rfl ?_
     refine own_iadd X15 hx hby o0_134 (pc' := 135) rfl ?_
     refine own_sipush X15 hx hby o0_135 (pc' := 138) rfl (z := 128) rfl ?_
     refine own_iloadN X15 hx hby o0_138 (pc' := 139) rfl rfl ?_
     refine own_bipush X15 hx hby o0_139 (pc' := 141) rfl (z := 12) rfl ?_
     refine own_ishr X15 hx hby o0_141 (pc' := 142) rfl ?_
     refine own_bipush X15 hx hby o0_142 (pc' := 144) rfl (z := 63) rfl ?_
     refine own_iand X15 hx hby o0_144 (pc' := 145) rfl ?_
     refine own_ior X15 hx hby o0_145 (pc' := 146) rfl ?_
     refine own_i2b X15 hx hby o0_146 (pc' := 147) rfl ?_
     refine own_gP X15 hx hby hZ e15 V1 (by simp; omega) (w := (own_b8 ((128 : Int32) ||| ((cp >>> ((12 : Int32) &&& 31)) &&& (63 : Int32))))) (own_nar8 _) (own_j (k := 1) (by simp)) o0_147 (pc' := 148) rfl ?_
     intro T17 h17 X17 e17 W17 Q17
     have sz18 := Nat.le_trans sz16 (Keep.of_wr W17).1
     replace V1 := Q17
     have N17 := own_fr1 (sl := ((out ++ [(own_b8 ((240 : Int32) ||| (cp >>> ((18 : Int32) &&& 31))))]) : List Int32).length) N15 n0_a1
     have Kp17 := Kp15.wr W17 (Or.inl (List.mem_of_getElem? (i := 0) rfl))
     refine own_aloadN X17 hx hby o0_148 (pc' := 149) rfl rfl rfl ?_
     refine own_iloadN X17 hx hby o0_149 (pc' := 150) rfl rfl ?_
     refine own_iconst X17 hx hby o0_150 (pc' := 151) rfl (z := 2) rfl ?_
     refine own_iadd X17 hx hby o0_151 (pc' := 152) rfl ?_
     refine own_sipush X17 hx hby o0_152 (pc' := 155) rfl (z := 128) rfl ?_
     refine own_iloadN X17 hx hby o0_155 (pc' := 156) rfl rfl ?_
     refine own_bipush X17 hx hby o0_156 (pc' := 158) rfl (z := 6) rfl ?_
     refine own_ishr X17 hx hby o0_158 (pc' := 159) rfl ?_
     refine own_bipush X17 hx hby o0_159 (pc' := 161) rfl (z := 63) rfl ?_
     refine own_iand X17 hx hby o0_161 (pc' := 162) rfl ?_
     refine own_ior X17 hx hby o0_162 (pc' := 163) rfl ?_
     refine own_i2b X17 hx hby o0_163 (pc' := 164) rfl ?_
     refine own_gP X17 hx hby hZ e17 V1 (by simp; omega) (w := (own_b8 ((128 : Int32) ||| ((cp >>> ((6 : Int32) &&& 31)) &&& (63 : Int32))))) (own_nar8 _) (own_j (k := 2) (by simp)) o0_164 (pc' := 165) rfl ?_
     intro T19 h19 X19 e19 W19 Q19
     have sz20 := Nat.le_trans sz18 (Keep.of_wr W19).1
     replace V1 := Q19
     have N19 := own_fr1 (sl := (((out ++ [(own_b8 ((240 : Int32) ||| (cp >>> ((18 : Int32) &&& 31))))]) ++ [(own_b8 ((128 : Int32) ||| ((cp >>> ((12 : Int32) &&& 31)) &&& (63 : Int32))))]) : List Int32).length) N17 n0_a1
     have Kp19 := Kp17.wr W19 (Or.inl (List.mem_of_getElem? (i := 0) rfl))
     refine own_aloadN X19 hx hby o0_165 (pc' := 166) rfl rfl rfl ?_
     refine own_iloadN X19 hx hby o0_166 (pc' := 167) rfl rfl ?_
     refine own_iconst X19 hx hby o0_167 (pc' := 168) rfl (z := 3) rfl ?_
     refine own_iadd X19 hx hby o0_168 (pc' := 169) rfl ?_
     refine own_sipush X19 hx hby o0_169 (pc' := 172) rfl (z := 128) rfl ?_
     refine own_iloadN X19 hx hby o0_172 (pc' := 173) rfl rfl ?_
     refine own_bipush X19 hx hby o0_173 (pc' := 175) rfl (z := 63) rfl ?_
     refine own_iand X19 hx hby o0_175 (pc' := 176) rfl ?_
     refine own_ior X19 hx hby o0_176 (pc' := 177) rfl ?_
     refine own_i2b X19 hx hby o0_177 (pc' := 178) rfl ?_
     refine own_gP X19 hx hby hZ e19 V1 (by simp; omega) (w := (own_b8 ((128 : Int32) ||| (cp &&& (63 : Int32))))) (own_nar8 _) (own_j (k := 3) (by simp)) o0_178 (pc' := 179) rfl ?_
     intro T21 h21 X21 e21 W21 Q21
     have sz22 := Nat.le_trans sz20 (Keep.of_wr W21).1
     replace V1 := Q21
     have N21 := own_fr1 (sl := ((((out ++ [(own_b8 ((240 : Int32) ||| (cp >>> ((18 : Int32) &&& 31))))]) ++ [(own_b8 ((128 : Int32) ||| ((cp >>> ((12 : Int32) &&& 31)) &&& (63 : Int32))))]) ++ [(own_b8 ((128 : Int32) ||| ((cp >>> ((6 : Int32) &&& 31)) &&& (63 : Int32))))]) : List Int32).length) N19 n0_a1
     have Kp21 := Kp19.wr W21 (Or.inl (List.mem_of_getElem? (i := 0) rfl))
     refine own_iloadN X21 hx hby o0_179 (pc' := 180) rfl rfl ?_
     refine own_iconst X21 hx hby o0_180 (pc' := 181) rfl (z := 4) rfl ?_
     refine own_iadd X21 hx hby o0_181 (pc' := 182) rfl ?_
     exact own_retI X21 hx hby hlk hrt o0_182 (by first | exact ⟨by rw [own_put4 h0_ h1_ h2_ h3_, List.length_append]; exact congrArg (fun z => some (Value.int z)) (own_j (k := 4) rfl), N21, Kp21, by rw [own_put4 h0_ h1_ h2_ h3_]; simpa [List.append_assoc] using V1⟩ | (rw [e21]; exact ⟨by rw [own_put4 h0_ h1_ h2_ h3_, List.length_append]; exact congrArg (fun z => some (Value.int z)) (own_j (k := 4) rfl), N21, Kp21, by rw [own_put4 h0_ h1_ h2_ h3_]; simpa [List.append_assoc] using V1⟩)) (by decide) (by decide)
theorem ef_rm_cpAt (m : MethodId) (x0 : Addr) (x1 : Int32) (x2 : Int32) : entryFrame m #[(.ref x0), (.int x1), (.int x2)] 5 = mkF m 0 #[.val (.ref x0), .val (.int x1), .val (.int x2), .unset, .unset] [] := by first | (simp [entryFrame, mkF, argsToLocals, Value.category]; done) | rfl
set_option maxRecDepth 65536 in
set_option maxHeartbeats 40000000 in
theorem rm_cpAt (l : Launch) (Z : State) (a0 : Array Value) (hw : ∀ d ∈ tables_1, d.before a0 Z = true) (a1 : Addr) (n i NN : Nat) (f : Nat → Int32) (h0 : Heap) (n0 : Nat) (Z0 : n0 ≤ h0.size) (hi : i < n) (hn : n ≤ NN) (V1 : own_Fa Z h0 a1 .char "[C" (fun _ => True) NN (fun y_ => .int (f y_))) :
  own_Met l Z (⟨"com/example/reservation/reservation/server/TargetRequestPinLaw", "cpAt", "([CII)I"⟩ : MethodName) method_4_code 5 (some .int) ({ frames := 0, cells := 0, slots := 0, locals := 0 } : Room) #[(.ref a1), (.int (Int32.ofNat n)), (.int (Int32.ofNat i))] h0 (fun v h L => v = some (.int (own_cpAt f n i)) ∧ Fr n0 L ∧ h0 = h) := by
 refine own_body (plainFor_of_name (by first | (simp [plainName, overriddenIn]; done) | decide +kernel)) ?_
 intro p e s m below meth c s₁ hx hby hml hown hnm hlk hrt hZ X0 e0
 refine own_enter (ef_rm_cpAt m a1 (Int32.ofNat n) (Int32.ofNat i)) ?_
 have N0 := Fr.nil n0
 refine own_aloadN X0 hx hby o1_0 (pc' := 1) rfl rfl rfl ?_
 refine own_iloadN X0 hx hby o1_1 (pc' := 2) rfl rfl ?_
 refine own_fC X0 hx hby hZ e0 V1 (Nat.lt_of_lt_of_le hi hn) (v := (f i)) rfl o1_2 (pc' := 3) rfl ?_
 refine own_istoreN X0 hx hby o1_3 (pc' := 4) rfl (Ls' := #[.val (.ref a1), .val (.int (Int32.ofNat n)), .val (.int (Int32.ofNat i)), .val (.int (f i)), .unset]) rfl ?_
 refine own_iloadN X0 hx hby o1_4 (pc' := 5) rfl rfl ?_
 refine own_ldcI X0 hx hby hZ hown (ow_233 hw) o1_5 (pc' := 7) rfl ?_
 have hV := V1.big
 by_cases ha_ : (f i) < (55296 : Int32)
 ·refine own_icmpY X0 hx hby o1_7 (by decide) (pc' := 61) (by decide) (tlt ha_).1 ?_
  refine own_iloadN X0 hx hby o1_61 (pc' := 62) rfl rfl ?_
  refine own_ldcI X0 hx hby hZ hown (ow_233 hw) o1_62 (pc' := 64) rfl ?_
  by_cases hs1 : (f i) < (55296 : Int32)
  ·refine own_icmpY X0 hx hby o1_64 (by decide) (pc' := 75) (by decide) (tlt hs1).1 ?_
   refine own_iloadN X0 hx hby o1_75 (pc' := 76) rfl rfl ?_
   exact own_retI X0 hx hby hlk hrt o1_76 (by first | exact ⟨by rw [own_cpC (fun q => q.1 hs1)], N0, rfl⟩ | (rw [e0]; exact ⟨by rw [own_cpC (fun q => q.1 hs1)], N0, rfl⟩)) (by decide) (by decide)
  ·refine own_icmpN X0 hx hby o1_64 (pc' := 67) rfl (flt hs1).1 ?_
   refine own_iloadN X0 hx hby o1_67 (pc' := 68) rfl rfl ?_
   refine own_ldcI X0 hx hby hZ hown (ow_288 hw) o1_68 (pc' := 70) rfl ?_
   by_cases hs2 : (57343 : Int32) < (f i)
   ·refine own_icmpY X0 hx hby o1_70 (by decide) (pc' := 75) (by decide) (tlt hs2).2.2.1 ?_
    refine own_iloadN X0 hx hby o1_75 (pc' := 76) rfl rfl ?_
    exact own_retI X0 hx hby hlk hrt o1_76 (by first | exact ⟨by rw [own_cpC (fun q => absurd hs2 (own_le343.mpr q.2))], N0, rfl⟩ | (rw [e0]; exact ⟨by rw [own_cpC (fun q => absurd hs2 (own_le343.mpr q.2))], N0, rfl⟩)) (by decide) (by decide)
   ·refine own_icmpN X0 hx hby o1_70 (pc' := 73) rfl (flt hs2).2.2.1 ?_
    refine own_iconst X0 hx hby o1_73 (pc' := 74) rfl (z := (-1)) rfl ?_
    exact own_retI X0 hx hby hlk hrt o1_74 (by first | exact ⟨by rw [own_cpB (fun q => q.1.1 ha_) ⟨hs1, own_le343.mp hs2⟩], N0, rfl⟩ | (rw [e0]; exact ⟨by rw [own_cpB (fun q => q.1.1 ha_) ⟨hs1, own_le343.mp hs2⟩], N0, rfl⟩)) (by decide) (by decide)
 ·refine own_icmpN X0 hx hby o1_7 (pc' := 10) rfl (flt ha_).1 ?_
  refine own_iloadN X0 hx hby o1_10 (pc' := 11) rfl rfl ?_
  refine own_ldcI X0 hx hby hZ hown (ow_286 hw) o1_11 (pc' := 13) rfl ?_
  by_cases hc_ : (56319 : Int32) < (f i)
  ·refine own_icmpY X0 hx hby o1_13 (by decide) (pc' := 61) (by decide) (tlt hc_).2.2.1 ?_
   refine own_iloadN X0 hx hby o1_61 (pc' := 62) rfl rfl ?_
   refine own_ldcI X0 hx hby hZ hown (ow_233 hw) o1_62 (pc' := 64) rfl ?_
   by_cases hs1 : (f i) < (55296 : Int32)
   ·refine own_icmpY X0 hx hby o1_64 (by decide) (pc' := 75) (by decide) (tlt hs1).1 ?_
    refine own_iloadN X0 hx hby o1_75 (pc' := 76) rfl rfl ?_
    exact own_retI X0 hx hby hlk hrt o1_76 (by first | exact ⟨by rw [own_cpC (fun q => q.1 hs1)], N0, rfl⟩ | (rw [e0]; exact ⟨by rw [own_cpC (fun q => q.1 hs1)], N0, rfl⟩)) (by decide) (by decide)
   ·refine own_icmpN X0 hx hby o1_64 (pc' := 67) rfl (flt hs1).1 ?_
    refine own_iloadN X0 hx hby o1_67 (pc' := 68) rfl rfl ?_
    refine own_ldcI X0 hx hby hZ hown (ow_288 hw) o1_68 (pc' := 70) rfl ?_
    by_cases hs2 : (57343 : Int32) < (f i)
    ·refine own_icmpY X0 hx hby o1_70 (by decide) (pc' := 75) (by decide) (tlt hs2).2.2.1 ?_
     refine own_iloadN X0 hx hby o1_75 (pc' := 76) rfl rfl ?_
     exact own_retI X0 hx hby hlk hrt o1_76 (by first | exact ⟨by rw [own_cpC (fun q => absurd hs2 (own_le343.mpr q.2))], N0, rfl⟩ | (rw [e0]; exact ⟨by rw [own_cpC (fun q => absurd hs2 (own_le343.mpr q.2))], N0, rfl⟩)) (by decide) (by decide)
    ·refine own_icmpN X0 hx hby o1_70 (pc' := 73) rfl (flt hs2).2.2.1 ?_
     refine own_iconst X0 hx hby o1_73 (pc' := 74) rfl (z := (-1)) rfl ?_
     exact own_retI X0 hx hby hlk hrt o1_74 (by first | exact ⟨by rw [own_cpB (fun q => absurd hc_ (own_le319.mpr q.1.2)) ⟨hs1, own_le343.mp hs2⟩], N0, rfl⟩ | (rw [e0]; exact ⟨by rw [own_cpB (fun q => absurd hc_ (own_le319.mpr q.1.2)) ⟨hs1, own_le343.mp hs2⟩], N0, rfl⟩)) (by decide) (by decide)
  ·refine own_icmpN X0 hx hby o1_13 (pc' := 16) rfl (flt hc_).2.2.1 ?_
   refine own_iloadN X0 hx hby o1_16 (pc' := 17) rfl rfl ?_
   refine own_iconst X0 hx hby o1_17 (pc' := 18) rfl (z := 1) rfl ?_
   refine own_iadd X0 hx hby o1_18 (pc' := 19) rfl ?_
   rw [own_isucc]
   refine own_iloadN X0 hx hby o1_19 (pc' := 20) rfl rfl ?_
   by_cases hb_ : (Int32.ofNat (i + 1)) < (Int32.ofNat n)
   ·refine own_icmpN X0 hx hby o1_20 (pc' := 23) rfl (tlt hb_).2.1 ?_
    refine own_aloadN X0 hx hby o1_23 (pc' := 24) rfl rfl rfl ?_
    refine own_iloadN X0 hx hby o1_24 (pc' := 25) rfl rfl ?_
    refine own_iconst X0 hx hby o1_25 (pc' := 26) rfl (z := 1) rfl ?_
    refine own_iadd X0 hx hby o1_26 (pc' := 27) rfl ?_
    rw [own_isucc]
    have hi1 : i + 1 < n := (own_ilt (by omega) (by omega)).mp hb_
    refine own_fC X0 hx hby hZ e0 V1 (Nat.lt_of_lt_of_le hi1 hn) (v := (f (i + 1))) rfl o1_27 (pc' := 28) rfl ?_
    refine own_istore X0 hx hby o1_28 (pc' := 30) rfl (Ls' := #[.val (.ref a1), .val (.int (Int32.ofNat n)), .val (.int (Int32.ofNat i)), .val (.int (f i)), .val (.int (f (i + 1)))]) rfl ?_
    refine own_iload X0 hx hby o1_30 (pc' := 32) rfl rfl ?_
    refine own_ldcI X0 hx hby hZ hown (ow_287 hw) o1_32 (pc' := 34) rfl ?_
    by_cases hd_ : (f (i + 1)) < (56320 : Int32)
    ·refine own_icmpY X0 hx hby o1_34 (by decide) (pc' := 61) (by decide) (tlt hd_).1 ?_
     refine own_iloadN X0 hx hby o1_61 (pc' := 62) rfl rfl ?_
     refine own_ldcI X0 hx hby hZ hown (ow_233 hw) o1_62 (pc' := 64) rfl ?_
     by_cases hs1 : (f i) < (55296 : Int32)
     ·refine own_icmpY X0 hx hby o1_64 (by decide) (pc' := 75) (by decide) (tlt hs1).1 ?_
      refine own_iloadN X0 hx hby o1_75 (pc' := 76) rfl rfl ?_
      exact own_retI X0 hx hby hlk hrt o1_76 (by first | exact ⟨by rw [own_cpC (fun q => q.1 hs1)], N0, rfl⟩ | (rw [e0]; exact ⟨by rw [own_cpC (fun q => q.1 hs1)], N0, rfl⟩)) (by decide) (by decide)
     ·refine own_icmpN X0 hx hby o1_64 (pc' := 67) rfl (flt hs1).1 ?_
      refine own_iloadN X0 hx hby o1_67 (pc' := 68) rfl rfl ?_
      refine own_ldcI X0 hx hby hZ hown (ow_288 hw) o1_68 (pc' := 70) rfl ?_
      by_cases hs2 : (57343 : Int32) < (f i)
      ·refine own_icmpY X0 hx hby o1_70 (by decide) (pc' := 75) (by decide) (tlt hs2).2.2.1 ?_
       refine own_iloadN X0 hx hby o1_75 (pc' := 76) rfl rfl ?_
       exact own_retI X0 hx hby hlk hrt o1_76 (by first | exact ⟨by rw [own_cpC (fun q => absurd hs2 (own_le343.mpr q.2))], N0, rfl⟩ | (rw [e0]; exact ⟨by rw [own_cpC (fun q => absurd hs2 (own_le343.mpr q.2))], N0, rfl⟩)) (by decide) (by decide)
      ·refine own_icmpN X0 hx hby o1_70 (pc' := 73) rfl (flt hs2).2.2.1 ?_
       refine own_iconst X0 hx hby o1_73 (pc' := 74) rfl (z := (-1)) rfl ?_
       exact own_retI X0 hx hby hlk hrt o1_74 (by first | exact ⟨by rw [own_cpB (fun q => q.2.2.1 hd_) ⟨hs1, own_le343.mp hs2⟩], N0, rfl⟩ | (rw [e0]; exact ⟨by rw [own_cpB (fun q => q.2.2.1 hd_) ⟨hs1, own_le343.mp hs2⟩], N0, rfl⟩)) (by decide) (by decide)
    ·refine own_icmpN X0 hx hby o1_34 (pc' := 37) rfl (flt hd_).1 ?_
     refine own_iload X0 hx hby o1_37 (pc' := 39) rfl rfl ?_
     refine own_ldcI X0 hx hby hZ hown (ow_288 hw) o1_39 (pc' := 41) rfl ?_
     by_cases he_ : (57343 : Int32) < (f (i + 1))
     ·refine own_icmpY X0 hx hby o1_41 (by decide) (pc' := 61) (by decide) (tlt he_).2.2.1 ?_
      refine own_iloadN X0 hx hby o1_61 (pc' := 62) rfl rfl ?_
      refine own_ldcI X0 hx hby hZ hown (ow_233 hw) o1_62 (pc' := 64) rfl ?_
      by_cases hs1 : (f i) < (55296 : Int32)
      ·refine own_icmpY X0 hx hby o1_64 (by decide) (pc' := 75) (by decide) (tlt hs1).1 ?_
       refine own_iloadN X0 hx hby o1_75 (pc' := 76) rfl rfl ?_
       exact own_retI X0 hx hby hlk hrt o1_76 (by first | exact ⟨by rw [own_cpC (fun q => q.1 hs1)], N0, rfl⟩ | (rw [e0]; exact ⟨by rw [own_cpC (fun q => q.1 hs1)], N0, rfl⟩)) (by decide) (by decide)
      ·refine own_icmpN X0 hx hby o1_64 (pc' := 67) rfl (flt hs1).1 ?_
       refine own_iloadN X0 hx hby o1_67 (pc' := 68) rfl rfl ?_
       refine own_ldcI X0 hx hby hZ hown (ow_288 hw) o1_68 (pc' := 70) rfl ?_
       by_cases hs2 : (57343 : Int32) < (f i)
       ·refine own_icmpY X0 hx hby o1_70 (by decide) (pc' := 75) (by decide) (tlt hs2).2.2.1 ?_
        refine own_iloadN X0 hx hby o1_75 (pc' := 76) rfl rfl ?_
        exact own_retI X0 hx hby hlk hrt o1_76 (by first | exact ⟨by rw [own_cpC (fun q => absurd hs2 (own_le343.mpr q.2))], N0, rfl⟩ | (rw [e0]; exact ⟨by rw [own_cpC (fun q => absurd hs2 (own_le343.mpr q.2))], N0, rfl⟩)) (by decide) (by decide)
       ·refine own_icmpN X0 hx hby o1_70 (pc' := 73) rfl (flt hs2).2.2.1 ?_
        refine own_iconst X0 hx hby o1_73 (pc' := 74) rfl (z := (-1)) rfl ?_
        exact own_retI X0 hx hby hlk hrt o1_74 (by first | exact ⟨by rw [own_cpB (fun q => absurd he_ (own_le343.mpr q.2.2.2)) ⟨hs1, own_le343.mp hs2⟩], N0, rfl⟩ | (rw [e0]; exact ⟨by rw [own_cpB (fun q => absurd he_ (own_le343.mpr q.2.2.2)) ⟨hs1, own_le343.mp hs2⟩], N0, rfl⟩)) (by decide) (by decide)
     ·refine own_icmpN X0 hx hby o1_41 (pc' := 44) rfl (flt he_).2.2.1 ?_
      refine own_iloadN X0 hx hby o1_44 (pc' := 45) rfl rfl ?_
      refine own_ldcI X0 hx hby hZ hown (ow_233 hw) o1_45 (pc' := 47) rfl ?_
      refine own_isub X0 hx hby o1_47 (pc' := 48) rfl ?_
      refine own_bipush X0 hx hby o1_48 (pc' := 50) rfl (z := 10) rfl ?_
      refine own_ishl X0 hx hby o1_50 (pc' := 51) rfl ?_
      refine own_iload X0 hx hby o1_51 (pc' := 53) rfl rfl ?_
      refine own_ldcI X0 hx hby hZ hown (ow_287 hw) o1_53 (pc' := 55) rfl ?_
      refine own_isub X0 hx hby o1_55 (pc' := 56) rfl ?_
      refine own_iadd X0 hx hby o1_56 (pc' := 57) rfl ?_
      refine own_ldcI X0 hx hby hZ hown (ow_292 hw) o1_57 (pc' := 59) rfl ?_
      refine own_iadd X0 hx hby o1_59 (pc' := 60) rfl ?_
      exact own_retI X0 hx hby hlk hrt o1_60 (by first | exact ⟨by rw [own_cpA ⟨ha_, own_le319.mp hc_⟩ hi1 ⟨hd_, own_le343.mp he_⟩]; rfl, N0, rfl⟩ | (rw [e0]; exact ⟨by rw [own_cpA ⟨ha_, own_le319.mp hc_⟩ hi1 ⟨hd_, own_le343.mp he_⟩]; rfl, N0, rfl⟩)) (by decide) (by decide)
   ·refine own_icmpY X0 hx hby o1_20 (by decide) (pc' := 61) (by decide) (flt hb_).2.1 ?_
    refine own_iloadN X0 hx hby o1_61 (pc' := 62) rfl rfl ?_
    refine own_ldcI X0 hx hby hZ hown (ow_233 hw) o1_62 (pc' := 64) rfl ?_
    by_cases hs1 : (f i) < (55296 : Int32)
    ·refine own_icmpY X0 hx hby o1_64 (by decide) (pc' := 75) (by decide) (tlt hs1).1 ?_
     refine own_iloadN X0 hx hby o1_75 (pc' := 76) rfl rfl ?_
     exact own_retI X0 hx hby hlk hrt o1_76 (by first | exact ⟨by rw [own_cpC (fun q => q.1 hs1)], N0, rfl⟩ | (rw [e0]; exact ⟨by rw [own_cpC (fun q => q.1 hs1)], N0, rfl⟩)) (by decide) (by decide)
    ·refine own_icmpN X0 hx hby o1_64 (pc' := 67) rfl (flt hs1).1 ?_
     refine own_iloadN X0 hx hby o1_67 (pc' := 68) rfl rfl ?_
     refine own_ldcI X0 hx hby hZ hown (ow_288 hw) o1_68 (pc' := 70) rfl ?_
     by_cases hs2 : (57343 : Int32) < (f i)
     ·refine own_icmpY X0 hx hby o1_70 (by decide) (pc' := 75) (by decide) (tlt hs2).2.2.1 ?_
      refine own_iloadN X0 hx hby o1_75 (pc' := 76) rfl rfl ?_
      exact own_retI X0 hx hby hlk hrt o1_76 (by first | exact ⟨by rw [own_cpC (fun q => absurd hs2 (own_le343.mpr q.2))], N0, rfl⟩ | (rw [e0]; exact ⟨by rw [own_cpC (fun q => absurd hs2 (own_le343.mpr q.2))], N0, rfl⟩)) (by decide) (by decide)
     ·refine own_icmpN X0 hx hby o1_70 (pc' := 73) rfl (flt hs2).2.2.1 ?_
      refine own_iconst X0 hx hby o1_73 (pc' := 74) rfl (z := (-1)) rfl ?_
      exact own_retI X0 hx hby hlk hrt o1_74 (by first | exact ⟨by rw [own_cpB (fun q => hb_ ((own_ilt (by omega) (by omega)).mpr q.2.1)) ⟨hs1, own_le343.mp hs2⟩], N0, rfl⟩ | (rw [e0]; exact ⟨by rw [own_cpB (fun q => hb_ ((own_ilt (by omega) (by omega)).mpr q.2.1)) ⟨hs1, own_le343.mp hs2⟩], N0, rfl⟩)) (by decide) (by decide)
theorem ef_rm_isSurrogate (m : MethodId) (x0 : Int32) : entryFrame m #[(.int x0)] 1 = mkF m 0 #[.val (.int x0)] [] := by first | (simp [entryFrame, mkF, argsToLocals, Value.category]; done) | rfl
set_option maxRecDepth 65536 in
set_option maxHeartbeats 40000000 in
theorem rm_isSurrogate (l : Launch) (Z : State) (a0 : Array Value) (hw : ∀ d ∈ tables_1, d.before a0 Z = true) (x1 : Int32) (h0 : Heap) (n0 : Nat) (Z0 : n0 ≤ h0.size) :
  own_Met l Z (⟨"java/lang/Character", "isSurrogate", "(C)Z"⟩ : MethodName) jdk_89_method_16_code 1 (some .boolean) ({ frames := 0, cells := 0, slots := 0, locals := 0 } : Room) #[(.int x1)] h0 (fun v h L => v = some (.int (if own_Su x1 then (1 : Int32) else (0 : Int32))) ∧ Fr n0 L ∧ h0 = h) := by
 refine own_body (plainFor_of_name (by first | (simp [plainName, overriddenIn]; done) | decide +kernel)) ?_
 intro p e s m below meth c s₁ hx hby hml hown hnm hlk hrt hZ X0 e0
 refine own_enter (ef_rm_isSurrogate m x1) ?_
 have N0 := Fr.nil n0
 refine own_iloadN X0 hx hby o2_0 (pc' := 1) rfl rfl ?_
 refine own_ldcI X0 hx hby hZ hown (ow_271 hw) o2_1 (pc' := 3) rfl ?_
 by_cases ha_ : x1 < (55296 : Int32)
 ·refine own_icmpY X0 hx hby o2_3 (by decide) (pc' := 16) (by decide) (tlt ha_).1 ?_
  refine own_iconst X0 hx hby o2_16 (pc' := 17) rfl (z := 0) rfl ?_
  exact own_retN X0 hx hby hlk hrt (by simp) o2_17 (z' := (0 : Int32)) rfl (by first | exact ⟨by rw [if_neg (fun q => q.1 ha_)], N0, rfl⟩ | (rw [e0]; exact ⟨by rw [if_neg (fun q => q.1 ha_)], N0, rfl⟩)) (by decide) (by decide)
 ·refine own_icmpN X0 hx hby o2_3 (pc' := 6) rfl (flt ha_).1 ?_
  refine own_iloadN X0 hx hby o2_6 (pc' := 7) rfl rfl ?_
  refine own_ldcI X0 hx hby hZ hown (ow_272 hw) o2_7 (pc' := 9) rfl ?_
  by_cases hb_ : x1 < (57344 : Int32)
  ·refine own_icmpN X0 hx hby o2_9 (pc' := 12) rfl (tlt hb_).2.1 ?_
   refine own_iconst X0 hx hby o2_12 (pc' := 13) rfl (z := 1) rfl ?_
   refine own_goto X0 hx hby o2_13 (by decide) (pc' := 17) (by decide) ?_
   exact own_retN X0 hx hby hlk hrt (by simp) o2_17 (z' := (1 : Int32)) rfl (by first | exact ⟨by rw [if_pos ⟨ha_, hb_⟩], N0, rfl⟩ | (rw [e0]; exact ⟨by rw [if_pos ⟨ha_, hb_⟩], N0, rfl⟩)) (by decide) (by decide)
  ·refine own_icmpY X0 hx hby o2_9 (by decide) (pc' := 16) (by decide) (flt hb_).2.1 ?_
   refine own_iconst X0 hx hby o2_16 (pc' := 17) rfl (z := 0) rfl ?_
   exact own_retN X0 hx hby hlk hrt (by simp) o2_17 (z' := (0 : Int32)) rfl (by first | exact ⟨by rw [if_neg (fun q => hb_ q.2)], N0, rfl⟩ | (rw [e0]; exact ⟨by rw [if_neg (fun q => hb_ q.2)], N0, rfl⟩)) (by decide) (by decide)
theorem ef_rm_isHighSurrogate (m : MethodId) (x0 : Int32) : entryFrame m #[(.int x0)] 1 = mkF m 0 #[.val (.int x0)] [] := by first | (simp [entryFrame, mkF, argsToLocals, Value.category]; done) | rfl
set_option maxRecDepth 65536 in
set_option maxHeartbeats 40000000 in
theorem rm_isHighSurrogate (l : Launch) (Z : State) (a0 : Array Value) (hw : ∀ d ∈ tables_1, d.before a0 Z = true) (x1 : Int32) (h0 : Heap) (n0 : Nat) (Z0 : n0 ≤ h0.size) :
  own_Met l Z (⟨"java/lang/Character", "isHighSurrogate", "(C)Z"⟩ : MethodName) jdk_89_method_14_code 1 (some .boolean) ({ frames := 0, cells := 0, slots := 0, locals := 0 } : Room) #[(.int x1)] h0 (fun v h L => v = some (.int (if own_Hi x1 then (1 : Int32) else (0 : Int32))) ∧ Fr n0 L ∧ h0 = h) := by
 refine own_body (plainFor_of_name (by first | (simp [plainName, overriddenIn]; done) | decide +kernel)) ?_
 intro p e s m below meth c s₁ hx hby hml hown hnm hlk hrt hZ X0 e0
 refine own_enter (ef_rm_isHighSurrogate m x1) ?_
 have N0 := Fr.nil n0
 refine own_iloadN X0 hx hby o3_0 (pc' := 1) rfl rfl ?_
 refine own_ldcI X0 hx hby hZ hown (ow_271 hw) o3_1 (pc' := 3) rfl ?_
 by_cases ha_ : x1 < (55296 : Int32)
 ·refine own_icmpY X0 hx hby o3_3 (by decide) (pc' := 16) (by decide) (tlt ha_).1 ?_
  refine own_iconst X0 hx hby o3_16 (pc' := 17) rfl (z := 0) rfl ?_
  exact own_retN X0 hx hby hlk hrt (by simp) o3_17 (z' := (0 : Int32)) rfl (by first | exact ⟨by rw [if_neg (fun q => q.1 ha_)], N0, rfl⟩ | (rw [e0]; exact ⟨by rw [if_neg (fun q => q.1 ha_)], N0, rfl⟩)) (by decide) (by decide)
 ·refine own_icmpN X0 hx hby o3_3 (pc' := 6) rfl (flt ha_).1 ?_
  refine own_iloadN X0 hx hby o3_6 (pc' := 7) rfl rfl ?_
  refine own_ldcI X0 hx hby hZ hown (ow_276 hw) o3_7 (pc' := 9) rfl ?_
  by_cases hb_ : x1 < (56320 : Int32)
  ·refine own_icmpN X0 hx hby o3_9 (pc' := 12) rfl (tlt hb_).2.1 ?_
   refine own_iconst X0 hx hby o3_12 (pc' := 13) rfl (z := 1) rfl ?_
   refine own_goto X0 hx hby o3_13 (by decide) (pc' := 17) (by decide) ?_
   exact own_retN X0 hx hby hlk hrt (by simp) o3_17 (z' := (1 : Int32)) rfl (by first | exact ⟨by rw [if_pos ⟨ha_, hb_⟩], N0, rfl⟩ | (rw [e0]; exact ⟨by rw [if_pos ⟨ha_, hb_⟩], N0, rfl⟩)) (by decide) (by decide)
  ·refine own_icmpY X0 hx hby o3_9 (by decide) (pc' := 16) (by decide) (flt hb_).2.1 ?_
   refine own_iconst X0 hx hby o3_16 (pc' := 17) rfl (z := 0) rfl ?_
   exact own_retN X0 hx hby hlk hrt (by simp) o3_17 (z' := (0 : Int32)) rfl (by first | exact ⟨by rw [if_neg (fun q => hb_ q.2)], N0, rfl⟩ | (rw [e0]; exact ⟨by rw [if_neg (fun q => hb_ q.2)], N0, rfl⟩)) (by decide) (by decide)
theorem ef_rm_isLowSurrogate (m : MethodId) (x0 : Int32) : entryFrame m #[(.int x0)] 1 = mkF m 0 #[.val (.int x0)] [] := by first | (simp [entryFrame, mkF, argsToLocals, Value.category]; done) | rfl
set_option maxRecDepth 65536 in
set_option maxHeartbeats 40000000 in
theorem rm_isLowSurrogate (l : Launch) (Z : State) (a0 : Array Value) (hw : ∀ d ∈ tables_1, d.before a0 Z = true) (x1 : Int32) (h0 : Heap) (n0 : Nat) (Z0 : n0 ≤ h0.size) :
  own_Met l Z (⟨"java/lang/Character", "isLowSurrogate", "(C)Z"⟩ : MethodName) jdk_89_method_15_code 1 (some .boolean) ({ frames := 0, cells := 0, slots := 0, locals := 0 } : Room) #[(.int x1)] h0 (fun v h L => v = some (.int (if own_Lo x1 then (1 : Int32) else (0 : Int32))) ∧ Fr n0 L ∧ h0 = h) := by
 refine own_body (plainFor_of_name (by first | (simp [plainName, overriddenIn]; done) | decide +kernel)) ?_
 intro p e s m below meth c s₁ hx hby hml hown hnm hlk hrt hZ X0 e0
 refine own_enter (ef_rm_isLowSurrogate m x1) ?_
 have N0 := Fr.nil n0
 refine own_iloadN X0 hx hby o4_0 (pc' := 1) rfl rfl ?_
 refine own_ldcI X0 hx hby hZ hown (ow_276 hw) o4_1 (pc' := 3) rfl ?_
 by_cases ha_ : x1 < (56320 : Int32)
 ·refine own_icmpY X0 hx hby o4_3 (by decide) (pc' := 16) (by decide) (tlt ha_).1 ?_
  refine own_iconst X0 hx hby o4_16 (pc' := 17) rfl (z := 0) rfl ?_
  exact own_retN X0 hx hby hlk hrt (by simp) o4_17 (z' := (0 : Int32)) rfl (by first | exact ⟨by rw [if_neg (fun q => q.1 ha_)], N0, rfl⟩ | (rw [e0]; exact ⟨by rw [if_neg (fun q => q.1 ha_)], N0, rfl⟩)) (by decide) (by decide)
 ·refine own_icmpN X0 hx hby o4_3 (pc' := 6) rfl (flt ha_).1 ?_
  refine own_iloadN X0 hx hby o4_6 (pc' := 7) rfl rfl ?_
  refine own_ldcI X0 hx hby hZ hown (ow_272 hw) o4_7 (pc' := 9) rfl ?_
  by_cases hb_ : x1 < (57344 : Int32)
  ·refine own_icmpN X0 hx hby o4_9 (pc' := 12) rfl (tlt hb_).2.1 ?_
   refine own_iconst X0 hx hby o4_12 (pc' := 13) rfl (z := 1) rfl ?_
   refine own_goto X0 hx hby o4_13 (by decide) (pc' := 17) (by decide) ?_
   exact own_retN X0 hx hby hlk hrt (by simp) o4_17 (z' := (1 : Int32)) rfl (by first | exact ⟨by rw [if_pos ⟨ha_, hb_⟩], N0, rfl⟩ | (rw [e0]; exact ⟨by rw [if_pos ⟨ha_, hb_⟩], N0, rfl⟩)) (by decide) (by decide)
  ·refine own_icmpY X0 hx hby o4_9 (by decide) (pc' := 16) (by decide) (flt hb_).2.1 ?_
   refine own_iconst X0 hx hby o4_16 (pc' := 17) rfl (z := 0) rfl ?_
   exact own_retN X0 hx hby hlk hrt (by simp) o4_17 (z' := (0 : Int32)) rfl (by first | exact ⟨by rw [if_neg (fun q => hb_ q.2)], N0, rfl⟩ | (rw [e0]; exact ⟨by rw [if_neg (fun q => hb_ q.2)], N0, rfl⟩)) (by decide) (by decide)
theorem ef_rm_tcp (m : MethodId) (x0 : Int32) (x1 : Int32) : entryFrame m #[(.int x0), (.int x1)] 2 = mkF m 0 #[.val (.int x0), .val (.int x1)] [] := by first | (simp [entryFrame, mkF, argsToLocals, Value.category]; done) | rfl
set_option maxRecDepth 65536 in
set_option maxHeartbeats 40000000 in
theorem rm_tcp (l : Launch) (Z : State) (a0 : Array Value) (hw : ∀ d ∈ tables_1, d.before a0 Z = true) (x1 x2 : Int32) (h0 : Heap) (n0 : Nat) (Z0 : n0 ≤ h0.size) (hh : own_Hi x1) :
  own_Met l Z (⟨"java/lang/Character", "toCodePoint", "(CC)I"⟩ : MethodName) jdk_89_method_19_code 2 (some .int) ({ frames := 0, cells := 0, slots := 0, locals := 0 } : Room) #[(.int x1), (.int x2)] h0 (fun v h L => v = some (.int (own_cp2 x1 x2)) ∧ Fr n0 L ∧ h0 = h) := by
 refine own_body (plainFor_of_name (by first | (simp [plainName, overriddenIn]; done) | decide +kernel)) ?_
 intro p e s m below meth c s₁ hx hby hml hown hnm hlk hrt hZ X0 e0
 refine own_enter (ef_rm_tcp m x1 x2) ?_
 have N0 := Fr.nil n0
 refine own_iloadN X0 hx hby o5_0 (pc' := 1) rfl rfl ?_
 refine own_bipush X0 hx hby o5_1 (pc' := 3) rfl (z := 10) rfl ?_
 refine own_ishl X0 hx hby o5_3 (pc' := 4) rfl ?_
 refine own_iloadN X0 hx hby o5_4 (pc' := 5) rfl rfl ?_
 refine own_iadd X0 hx hby o5_5 (pc' := 6) rfl ?_
 refine own_ldcI X0 hx hby hZ hown (ow_296 hw) o5_6 (pc' := 8) rfl ?_
 refine own_iadd X0 hx hby o5_8 (pc' := 9) rfl ?_
 exact own_retI X0 hx hby hlk hrt o5_9 (by first | exact ⟨by rw [own_tcp hh], N0, rfl⟩ | (rw [e0]; exact ⟨by rw [own_tcp hh], N0, rfl⟩)) (by decide) (by decide)
theorem ef_rm_nbl (m : MethodId) (x0 : Int32) : entryFrame m #[(.int x0)] 1 = mkF m 0 #[.val (.int x0)] [] := by first | (simp [entryFrame, mkF, argsToLocals, Value.category]; done) | rfl
set_option maxRecDepth 65536 in
set_option maxHeartbeats 40000000 in
theorem rm_nbl (l : Launch) (Z : State) (a0 : Array Value) (hw : ∀ d ∈ tables_1, d.before a0 Z = true) (n : Nat) (h0 : Heap) (n0 : Nat) (Z0 : n0 ≤ h0.size) (hn : n ≤ 64) :
  own_Met l Z (⟨"java/lang/StringUTF16", "newBytesLength", "(I)I"⟩ : MethodName) jdk_52_method_3_code 1 (some .int) ({ frames := 0, cells := 0, slots := 0, locals := 0 } : Room) #[(.int (Int32.ofNat n))] h0 (fun v h L => v = some (.int (Int32.ofNat (2 * n))) ∧ Fr n0 L ∧ h0 = h) := by
 refine own_body (plainFor_of_name (by first | (simp [plainName, overriddenIn]; done) | decide +kernel)) ?_
 intro p e s m below meth c s₁ hx hby hml hown hnm hlk hrt hZ X0 e0
 refine own_enter (ef_rm_nbl m (Int32.ofNat n)) ?_
 have N0 := Fr.nil n0
 refine own_iloadN X0 hx hby o6_0 (pc' := 1) rfl rfl ?_
 refine own_ifY X0 hx hby o6_1 (by decide) (pc' := 12) (by decide) (flt (own_ipos (by omega))).2.1 ?_
 refine own_iloadN X0 hx hby o6_12 (pc' := 13) rfl rfl ?_
 refine own_ldcI X0 hx hby hZ hown (ow_250 hw) o6_13 (pc' := 15) rfl ?_
 refine own_icmpY X0 hx hby o6_15 (by decide) (pc' := 55) (by decide) (tlt (own_lt30 hn)).1 ?_
 refine own_iloadN X0 hx hby o6_55 (pc' := 56) rfl rfl ?_
 refine own_iconst X0 hx hby o6_56 (pc' := 57) rfl (z := 1) rfl ?_
 refine own_ishl X0 hx hby o6_57 (pc' := 58) rfl ?_
 exact own_retI X0 hx hby hlk hrt o6_58 (by first | exact ⟨by rw [own_shl1 (by omega)], N0, rfl⟩ | (rw [e0]; exact ⟨by rw [own_shl1 (by omega)], N0, rfl⟩)) (by decide) (by decide)
theorem ef_rm_nbf (m : MethodId) (x0 : Int32) : entryFrame m #[(.int x0)] 1 = mkF m 0 #[.val (.int x0)] [] := by first | (simp [entryFrame, mkF, argsToLocals, Value.category]; done) | rfl
set_option maxRecDepth 65536 in
set_option maxHeartbeats 40000000 in
theorem rm_nbf (l : Launch) (Z : State) (a0 : Array Value) (hw : ∀ d ∈ tables_1, d.before a0 Z = true) (n : Nat) (h0 : Heap) (n0 : Nat) (Z0 : n0 ≤ h0.size) (hn : n ≤ 8) :
  own_Met l Z (⟨"java/lang/StringUTF16", "newBytesFor", "(I)[B"⟩ : MethodName) jdk_52_method_2_code 1 (some (.array .byte)) ({ frames := 1, cells := 1, slots := 16, locals := 12 } : Room) #[(.int (Int32.ofNat n))] h0 (fun v h L => ∃ b : Addr, v = some (.ref b) ∧ h0.size ≤ b ∧ Ext h0 h ∧ Fr n0 L ∧ own_Fa Z h b .byte "[B" (fun _ => True) (2 * n) (fun y_ => .int ((fun _ => (0 : Int32)) y_))) := by
 refine own_body (plainFor_of_name (by first | (simp [plainName, overriddenIn]; done) | decide +kernel)) ?_
 intro p e s m below meth c s₁ hx hby hml hown hnm hlk hrt hZ X0 e0
 refine own_enter (ef_rm_nbf m (Int32.ofNat n)) ?_
 have N0 := Fr.nil n0
 refine own_iloadN X0 hx hby o7_0 (pc' := 1) rfl rfl ?_
 refine own_callM X0 hx hby hml hZ hown (ow_247 hw) (ow_248 hw) (ow_236 hw) (ow_249 hw) (by decide) (cc := 0) (ss := 0) (rm_nbl l Z a0 hw n h0 n0 Z0 (by omega)) 0 rfl rfl (by decide) (by decide) rfl (argsL := [(.int (Int32.ofNat n))]) (rest := []) opd_0 rfl rfl (Nat.le_refl _) o7_1 (pc' := 4) rfl rfl e0 (by decide) (by decide) ?_
 rintro v1 T1 h1 L1 X1 e1 ⟨rfl, Nq1, rfl⟩
 have N1 := N0.app Nq1
 refine own_nB (N := (2 * n)) X1 hx hby hZ (ow_0 hw) e1 o7_4 (pc' := 6) rfl (cap := 16) (by omega) (by decide) (by decide) (by decide) ?_
 intro T2 h2 b2 g2 X2 e2 E2 V_b2
 have n0_b2 : n0 ≤ b2 := Nat.le_trans Z0 (Nat.le_of_eq g2.symm)
 have le0_b2 : h0.size ≤ b2 := Nat.le_trans (Nat.le_refl _) (Nat.le_of_eq g2.symm)
 have sz3 := Nat.le_trans (Nat.le_refl _) E2.1
 have be4 := own_xt own_xr E2
 exact own_retA X2 hx hby hlk hrt rfl rfl o7_6 (by first | exact ⟨b2, rfl, le0_b2, be4, N1, V_b2⟩ | (rw [e2]; exact ⟨b2, rfl, le0_b2, be4, N1, V_b2⟩)) (by decide) (by decide)
theorem ef_rm_putc (m : MethodId) (x0 : Addr) (x1 : Int32) (x2 : Int32) : entryFrame m #[(.ref x0), (.int x1), (.int x2)] 3 = mkF m 0 #[.val (.ref x0), .val (.int x1), .val (.int x2)] [] := by first | (simp [entryFrame, mkF, argsToLocals, Value.category]; done) | rfl
set_option maxRecDepth 65536 in
set_option maxHeartbeats 40000000 in
theorem rm_putc (l : Launch) (Z : State) (a0 : Array Value) (hw : ∀ d ∈ tables_1, d.before a0 Z = true) (a1 : Addr) (x1 : Int32) (i M : Nat) (g : Nat → Int32) (h0 : Heap) (n0 : Nat) (Z0 : n0 ≤ h0.size) (n0_a1 : n0 ≤ a1) (hi : 2 * i + 2 ≤ M) (S_as : Sta Z h0 "java/lang/StringUTF16" "$assertionsDisabled" "Z" (.int (1 : Int32))) (S_hi : Sta Z h0 "java/lang/StringUTF16" "HI_BYTE_SHIFT" "I" (.int (0 : Int32))) (S_lo : Sta Z h0 "java/lang/StringUTF16" "LO_BYTE_SHIFT" "I" (.int (8 : Int32))) (V1 : own_Fa Z h0 a1 .byte "[B" (fun _ => True) M (fun y_ => .int (g y_))) :
  own_Met l Z (⟨"java/lang/StringUTF16", "putChar", "([BII)V"⟩ : MethodName) jdk_52_method_4_code 3 none ({ frames := 0, cells := 0, slots := 0, locals := 0 } : Room) #[(.ref a1), (.int (Int32.ofNat i)), (.int x1)] h0 (fun v h L => v = none ∧ Fr n0 L ∧ Keep h0 h [a1] ∧ own_Fa Z h a1 .byte "[B" (fun _ => True) M (fun y_ => .int ((own_pc g i x1) y_))) := by
 refine own_body (plainFor_of_name (by first | (simp [plainName, overriddenIn]; done) | decide +kernel)) ?_
 intro p e s m below meth c s₁ hx hby hml hown hnm hlk hrt hZ X0 e0
 refine own_enter (ef_rm_putc m a1 (Int32.ofNat i) x1) ?_
 have N0 := Fr.nil n0
 refine own_getS X0 hx hby hZ hown (host := "") (Or.inl (ow_254 hw)) Via.refl e0 S_as o8_0 (pc' := 3) rfl ?_
 intro T1 X1 e1
 refine own_ifY X1 hx hby o8_3 (by decide) (pc' := 28) (by decide) (feq (by decide)).2 ?_
 have hV := V1.big
 refine own_iloadN X1 hx hby o8_28 (pc' := 29) rfl rfl ?_
 refine own_iconst X1 hx hby o8_29 (pc' := 30) rfl (z := 1) rfl ?_
 refine own_ishl X1 hx hby o8_30 (pc' := 31) rfl ?_
 rw [show (Int32.ofNat i <<< ((1 : Int32) &&& 31)) = Int32.ofNat (2 * i) from own_shl1 (by omega)]
 refine own_istoreN X1 hx hby o8_31 (pc' := 32) rfl (Ls' := #[.val (.ref a1), .val (.int (Int32.ofNat (2 * i))), .val (.int x1)]) rfl ?_
 refine own_aloadN X1 hx hby o8_32 (pc' := 33) rfl rfl rfl ?_
 refine own_iloadN X1 hx hby o8_33 (pc' := 34) rfl rfl ?_
 refine own_iincN X1 hx hby o8_34 (pc' := 37) rfl rfl (Ls' := #[.val (.ref a1), .val (.int (Int32.ofNat (2 * i + 1))), .val (.int x1)]) rfl ?_
 refine own_iloadN X1 hx hby o8_37 (pc' := 38) rfl rfl ?_
 refine own_getS X1 hx hby hZ hown (host := "") (Or.inl (ow_255 hw)) Via.refl e1 S_hi o8_38 (pc' := 41) rfl ?_
 intro T2 X2 e2
 refine own_ishr X2 hx hby o8_41 (pc' := 42) rfl ?_
 refine own_i2b X2 hx hby o8_42 (pc' := 43) rfl ?_
 refine own_gB X2 hx hby hZ e2 V1 (by omega) (w := (own_b8 (x1 >>> ((0 : Int32) &&& 31)))) (own_nar8 _) o8_43 (pc' := 44) rfl ?_
 intro T3 h3 X3 e3 W3 V2
 have sz4 := Nat.le_trans (Nat.le_refl _) (Keep.of_wr W3).1
 replace S_as := S_as.wr W3
 replace S_hi := S_hi.wr W3
 replace S_lo := S_lo.wr W3
 have N3 := own_fr1 (sl := (2 * i)) N0 n0_a1
 refine own_aloadN X3 hx hby o8_44 (pc' := 45) rfl rfl rfl ?_
 refine own_iloadN X3 hx hby o8_45 (pc' := 46) rfl rfl ?_
 refine own_iloadN X3 hx hby o8_46 (pc' := 47) rfl rfl ?_
 refine own_getS X3 hx hby hZ hown (host := "") (Or.inl (ow_256 hw)) Via.refl e3 S_lo o8_47 (pc' := 50) rfl ?_
 intro T5 X5 e5
 refine own_ishr X5 hx hby o8_50 (pc' := 51) rfl ?_
 refine own_i2b X5 hx hby o8_51 (pc' := 52) rfl ?_
 refine own_gB X5 hx hby hZ e5 V2 (by omega) (w := (own_b8 (x1 >>> ((8 : Int32) &&& 31)))) (own_nar8 _) o8_52 (pc' := 53) rfl ?_
 intro T6 h6 X6 e6 W6 V3
 have sz7 := Nat.le_trans sz4 (Keep.of_wr W6).1
 replace S_as := S_as.wr W6
 replace S_hi := S_hi.wr W6
 replace S_lo := S_lo.wr W6
 have N6 := own_fr1 (sl := (2 * i + 1)) N3 n0_a1
 exact own_ret0 X6 hx hby hlk hrt o8_53 (by first | exact ⟨rfl, N6, ((Keep.refl h0 [a1]).wr W3 (Or.inl (List.mem_of_getElem? (i := 0) rfl))).wr W6 (Or.inl (List.mem_of_getElem? (i := 0) rfl)), V3.congr (fun j _ => own_u16s g x1 i j)⟩ | (rw [e6]; exact ⟨rfl, N6, ((Keep.refl h0 [a1]).wr W3 (Or.inl (List.mem_of_getElem? (i := 0) rfl))).wr W6 (Or.inl (List.mem_of_getElem? (i := 0) rfl)), V3.congr (fun j _ => own_u16s g x1 i j)⟩)) (by decide) (by decide)
theorem ef_rm_getc (m : MethodId) (x0 : Addr) (x1 : Int32) : entryFrame m #[(.ref x0), (.int x1)] 2 = mkF m 0 #[.val (.ref x0), .val (.int x1)] [] := by first | (simp [entryFrame, mkF, argsToLocals, Value.category]; done) | rfl
set_option maxRecDepth 65536 in
set_option maxHeartbeats 40000000 in
theorem rm_getc (l : Launch) (Z : State) (a0 : Array Value) (hw : ∀ d ∈ tables_1, d.before a0 Z = true) (a1 : Addr) (x1 : Int32) (i M : Nat) (g : Nat → Int32) (h0 : Heap) (n0 : Nat) (Z0 : n0 ≤ h0.size) (hi : 2 * i + 2 ≤ M) (h1 : g (2 * i) = own_b8 (x1 >>> ((0 : Int32) &&& 31))) (h2 : g (2 * i + 1) = own_b8 (x1 >>> ((8 : Int32) &&& 31))) (hc : 0 ≤ x1.toInt ∧ x1.toInt < 65536) (S_as : Sta Z h0 "java/lang/StringUTF16" "$assertionsDisabled" "Z" (.int (1 : Int32))) (S_hi : Sta Z h0 "java/lang/StringUTF16" "HI_BYTE_SHIFT" "I" (.int (0 : Int32))) (S_lo : Sta Z h0 "java/lang/StringUTF16" "LO_BYTE_SHIFT" "I" (.int (8 : Int32))) (V1 : own_Fa Z h0 a1 .byte "[B" (fun _ => True) M (fun y_ => .int (g y_))) :
  own_Met l Z (⟨"java/lang/StringUTF16", "getChar", "([BI)C"⟩ : MethodName) jdk_52_method_5_code 2 (some .char) ({ frames := 0, cells := 0, slots := 0, locals := 0 } : Room) #[(.ref a1), (.int (Int32.ofNat i))] h0 (fun v h L => v = some (.int x1) ∧ Fr n0 L ∧ h0 = h) := by
 refine own_body (plainFor_of_name (by first | (simp [plainName, overriddenIn]; done) | decide +kernel)) ?_
 intro p e s m below meth c s₁ hx hby hml hown hnm hlk hrt hZ X0 e0
 refine own_enter (ef_rm_getc m a1 (Int32.ofNat i)) ?_
 have N0 := Fr.nil n0
 refine own_getS X0 hx hby hZ hown (host := "") (Or.inl (ow_254 hw)) Via.refl e0 S_as o9_0 (pc' := 3) rfl ?_
 intro T1 X1 e1
 refine own_ifY X1 hx hby o9_3 (by decide) (pc' := 28) (by decide) (feq (by decide)).2 ?_
 have hV := V1.big
 refine own_iloadN X1 hx hby o9_28 (pc' := 29) rfl rfl ?_
 refine own_iconst X1 hx hby o9_29 (pc' := 30) rfl (z := 1) rfl ?_
 refine own_ishl X1 hx hby o9_30 (pc' := 31) rfl ?_
 rw [show (Int32.ofNat i <<< ((1 : Int32) &&& 31)) = Int32.ofNat (2 * i) from own_shl1 (by omega)]
 refine own_istoreN X1 hx hby o9_31 (pc' := 32) rfl (Ls' := #[.val (.ref a1), .val (.int (Int32.ofNat (2 * i)))]) rfl ?_
 refine own_aloadN X1 hx hby o9_32 (pc' := 33) rfl rfl rfl ?_
 refine own_iloadN X1 hx hby o9_33 (pc' := 34) rfl rfl ?_
 refine own_iincN X1 hx hby o9_34 (pc' := 37) rfl rfl (Ls' := #[.val (.ref a1), .val (.int (Int32.ofNat (2 * i + 1)))]) rfl ?_
 refine own_fB X1 hx hby hZ e1 V1 (by omega) (v := (g (2 * i))) rfl o9_37 (pc' := 38) rfl ?_
 refine own_sipush X1 hx hby o9_38 (pc' := 41) rfl (z := 255) rfl ?_
 refine own_iand X1 hx hby o9_41 (pc' := 42) rfl ?_
 refine own_getS X1 hx hby hZ hown (host := "") (Or.inl (ow_255 hw)) Via.refl e1 S_hi o9_42 (pc' := 45) rfl ?_
 intro T2 X2 e2
 refine own_ishl X2 hx hby o9_45 (pc' := 46) rfl ?_
 refine own_aloadN X2 hx hby o9_46 (pc' := 47) rfl rfl rfl ?_
 refine own_iloadN X2 hx hby o9_47 (pc' := 48) rfl rfl ?_
 refine own_fB X2 hx hby hZ e2 V1 (by omega) (v := (g (2 * i + 1))) rfl o9_48 (pc' := 49) rfl ?_
 refine own_sipush X2 hx hby o9_49 (pc' := 52) rfl (z := 255) rfl ?_
 refine own_iand X2 hx hby o9_52 (pc' := 53) rfl ?_
 refine own_getS X2 hx hby hZ hown (host := "") (Or.inl (ow_256 hw)) Via.refl e2 S_lo o9_53 (pc' := 56) rfl ?_
 intro T3 X3 e3
 refine own_ishl X3 hx hby o9_56 (pc' := 57) rfl ?_
 refine own_ior X3 hx hby o9_57 (pc' := 58) rfl ?_
 refine own_i2c X3 hx hby o9_58 (pc' := 59) rfl ?_
 exact own_retN X3 hx hby hlk hrt (by simp) o9_59 (z' := (((((g (2 * i)) &&& (255 : Int32)) <<< ((0 : Int32) &&& 31)) ||| (((g (2 * i + 1)) &&& (255 : Int32)) <<< ((8 : Int32) &&& 31))).toUInt32.toUInt16.toUInt32.toInt32)) (own_narc _) (by first | exact ⟨by rw [h1, h2]; exact congrArg (fun z => some (Value.int z)) (own_gc hc.1 hc.2), N0, rfl⟩ | (rw [e3]; exact ⟨by rw [h1, h2]; exact congrArg (fun z => some (Value.int z)) (own_gc hc.1 hc.2), N0, rfl⟩)) (by decide) (by decide)
theorem ef_rm_cmp (m : MethodId) (x0 : Addr) (x1 : Int32) (x2 : Addr) (x3 : Int32) (x4 : Int32) : entryFrame m #[(.ref x0), (.int x1), (.ref x2), (.int x3), (.int x4)] 7 = mkF m 0 #[.val (.ref x0), .val (.int x1), .val (.ref x2), .val (.int x3), .val (.int x4), .unset, .unset] [] := by first | (simp [entryFrame, mkF, argsToLocals, Value.category]; done) | rfl
set_option maxRecDepth 65536 in
set_option maxHeartbeats 40000000 in
theorem rm_cmp (l : Launch) (Z : State) (a0 : Array Value) (hw : ∀ d ∈ tables_1, d.before a0 Z = true) (a1 a2 : Addr) (n M : Nat) (f : Nat → Int32) (h0 : Heap) (n0 : Nat) (Z0 : n0 ≤ h0.size) (n0_a2 : n0 ≤ a2) (ne12 : a1 ≠ a2) (hnM : n ≤ M) (V1 : own_Fa Z h0 a1 .char "[C" (fun _ => True) M (fun y_ => .int (f y_))) (V2 : own_Pre Z h0 a2 n []) :
  own_Met l Z (⟨"java/lang/StringUTF16", "compress", "([CI[BII)I"⟩ : MethodName) jdk_52_method_21_code 7 (some .int) ({ frames := 0, cells := 0, slots := 0, locals := 0 } : Room) #[(.ref a1), (.int (0 : Int32)), (.ref a2), (.int (0 : Int32)), (.int (Int32.ofNat n))] h0 (fun v h L => ∃ j : Nat, v = some (.int (Int32.ofNat j)) ∧ Fr n0 L ∧ Keep h0 h [a2] ∧ ((j = n ∧ (∀ i, i < n → ¬ (255 : Int32) < f i) ∧ own_Pre Z h a2 n ((List.range n).map (fun y_ => own_b8 (f y_)))) ∨ (j < n ∧ (255 : Int32) < f j))) := by
 refine own_body (plainFor_of_name (by first | (simp [plainName, overriddenIn]; done) | decide +kernel)) ?_
 intro p e s m below meth c s₁ hx hby hml hown hnm hlk hrt hZ X0 e0
 refine own_enter (ef_rm_cmp m a1 (0 : Int32) a2 (0 : Int32) (Int32.ofNat n)) ?_
 have N0 := Fr.nil n0
 have hnb := V1.big
 refine own_iconst X0 hx hby o10_0 (pc' := 1) rfl (z := 0) rfl ?_
 refine own_istore X0 hx hby o10_1 (pc' := 3) rfl (Ls' := #[.val (.ref a1), .val (.int (0 : Int32)), .val (.ref a2), .val (.int (0 : Int32)), .val (.int (Int32.ofNat n)), .val (.int (0 : Int32)), .unset]) rfl ?_
 refine own_join (α := (Nat) × (State) × (Heap) × (List Loc) × (Nat) × (Slot)) (F := fun z => z.2.1.setTop (mkF m 3 #[.val (.ref a1), .val (.int (Int32.ofNat z.2.2.2.2.1)), .val (.ref a2), .val (.int (Int32.ofNat z.2.2.2.2.1)), .val (.int (Int32.ofNat n)), .val (.int (Int32.ofNat z.2.2.2.2.1)), z.2.2.2.2.2] [])) (P := fun z => Stand p l e ({ frames := 0, cells := 0, slots := 0, locals := 0 } : Room) s m #[(.ref a1), (.int (0 : Int32)), (.ref a2), (.int (0 : Int32)), (.int (Int32.ofNat n))] below meth c z.2.1 z.2.2.2.1 0 0 ∧ z.2.1.heap = z.2.2.1 ∧ h0.size ≤ z.2.2.1.size ∧ Fr n0 z.2.2.2.1 ∧ (z.2.2.2.2.1 + z.1 = n) ∧ (own_Fa Z z.2.2.1 a1 .char "[C" (fun _ => True) M (fun y_ => .int (f y_))) ∧ (own_Pre Z z.2.2.1 a2 n ((List.range z.2.2.2.2.1).map (fun y_ => own_b8 (f y_)))) ∧ (∀ j, j < z.2.2.2.2.1 → ¬ (255 : Int32) < f j) ∧ (own_s1 z.2.2.2.2.2) ∧ (Keep h0 z.2.2.1 [a2])) ?_ ?_
 ·rintro ⟨k1, T_1, h_1, L_1, i1, u6⟩ hP
  dsimp only at hP ⊢
  revert hP
  induction k1 generalizing T_1 h_1 L_1 i1 u6 with
  | zero =>
   rintro ⟨Xl1, el1, szl1, Nl1, hik, V1, V2, hal, hu6, Kp⟩
   have hin : i1 = n := by omega
   refine own_iload Xl1 hx hby o10_3 (pc' := 5) rfl rfl ?_
   refine own_iload Xl1 hx hby o10_5 (pc' := 7) rfl rfl ?_
   refine own_icmpY Xl1 hx hby o10_7 (by decide) (pc' := 44) (by decide) (flt (by rw [own_ilt (by omega) (by omega)]; omega)).2.1 ?_
   refine own_iload Xl1 hx hby o10_44 (pc' := 46) rfl rfl ?_
   exact own_retI Xl1 hx hby hlk hrt o10_46 (by first | exact ⟨n, rfl, Nl1, Kp, Or.inl ⟨rfl, hin ▸ hal, hin ▸ V2⟩⟩ | (rw [el1]; exact ⟨n, rfl, Nl1, Kp, Or.inl ⟨rfl, hin ▸ hal, hin ▸ V2⟩⟩)) (by decide) (by decide)
  | succ k1 ih1 =>
   rintro ⟨Xl1, el1, szl1, Nl1, hik, V1, V2, hal, hu6, Kp⟩
   have hlt : i1 < n := by omega
   have hll : ((List.range i1).map (fun y_ => own_b8 (f y_))).length = i1 := by simp
   refine own_iload Xl1 hx hby o10_3 (pc' := 5) rfl rfl ?_
   refine own_iload Xl1 hx hby o10_5 (pc' := 7) rfl rfl ?_
   refine own_icmpN Xl1 hx hby o10_7 (pc' := 10) rfl (tlt ((own_ilt (by omega) (by omega)).mpr hlt)).2.1 ?_
   refine own_aloadN Xl1 hx hby o10_10 (pc' := 11) rfl rfl rfl ?_
   refine own_iloadN Xl1 hx hby o10_11 (pc' := 12) rfl rfl ?_
   refine own_fC Xl1 hx hby hZ el1 V1 (by omega) (v := (f i1)) rfl o10_12 (pc' := 13) rfl ?_
   refine own_istore Xl1 hx hby o10_13 (pc' := 15) rfl (Ls' := #[.val (.ref a1), .val (.int (Int32.ofNat i1)), .val (.ref a2), .val (.int (Int32.ofNat i1)), .val (.int (Int32.ofNat n)), .val (.int (Int32.ofNat i1)), .val (.int (f i1))]) (own_st6 hu6 rfl) ?_
   refine own_iload Xl1 hx hby o10_15 (pc' := 17) rfl rfl ?_
   refine own_sipush Xl1 hx hby o10_17 (pc' := 20) rfl (z := 255) rfl ?_
   by_cases hc_ : (255 : Int32) < (f i1)
   ·refine own_icmpN Xl1 hx hby o10_20 (pc' := 23) rfl (tlt hc_).2.2.2 ?_
    refine own_iload Xl1 hx hby o10_23 (pc' := 25) rfl rfl ?_
    exact own_retI Xl1 hx hby hlk hrt o10_25 (by first | exact ⟨i1, rfl, Nl1, Kp, Or.inr ⟨hlt, hc_⟩⟩ | (rw [el1]; exact ⟨i1, rfl, Nl1, Kp, Or.inr ⟨hlt, hc_⟩⟩)) (by decide) (by decide)
   ·refine own_icmpY Xl1 hx hby o10_20 (by decide) (pc' := 26) (by decide) (flt hc_).2.2.2 ?_
    refine own_aloadN Xl1 hx hby o10_26 (pc' := 27) rfl rfl rfl ?_
    refine own_iloadN Xl1 hx hby o10_27 (pc' := 28) rfl rfl ?_
    refine own_iload Xl1 hx hby o10_28 (pc' := 30) rfl rfl ?_
    refine own_i2b Xl1 hx hby o10_30 (pc' := 31) rfl ?_
    refine own_gP Xl1 hx hby hZ el1 V2 (by rw [hll]; exact hlt) (w := (own_b8 (f i1))) (own_nar8 _) (by rw [hll]) o10_31 (pc' := 32) rfl ?_
    intro T1 h1 X1 e1 W1 Q1
    have sz2 := Nat.le_trans szl1 (Keep.of_wr W1).1
    replace V1 := V1.other W1 ne12
    replace V2 := Q1
    have N1 := own_fr1 (sl := (((List.range i1).map (fun y_ => own_b8 (f y_))) : List Int32).length) Nl1 n0_a2
    have Kp1 := Kp.wr W1 (Or.inl (List.mem_of_getElem? (i := 0) rfl))
    refine own_iincN X1 hx hby o10_32 (pc' := 35) rfl rfl (Ls' := #[.val (.ref a1), .val (.int (Int32.ofNat (i1 + 1))), .val (.ref a2), .val (.int (Int32.ofNat i1)), .val (.int (Int32.ofNat n)), .val (.int (Int32.ofNat i1)), .val (.int (f i1))]) rfl ?_
    refine own_iincN X1 hx hby o10_35 (pc' := 38) rfl rfl (Ls' := #[.val (.ref a1), .val (.int (Int32.ofNat (i1 + 1))), .val (.ref a2), .val (.int (Int32.ofNat (i1 + 1))), .val (.int (Int32.ofNat n)), .val (.int (Int32.ofNat i1)), .val (.int (f i1))]) rfl ?_
    refine own_iincN X1 hx hby o10_38 (pc' := 41) rfl rfl (Ls' := #[.val (.ref a1), .val (.int (Int32.ofNat (i1 + 1))), .val (.ref a2), .val (.int (Int32.ofNat (i1 + 1))), .val (.int (Int32.ofNat n)), .val (.int (Int32.ofNat (i1 + 1))), .val (.int (f i1))]) rfl ?_
    refine own_goto X1 hx hby o10_41 (by decide) (pc' := 3) (by decide) ?_
    exact ih1 T1 h1 _ (i1 + 1) (.val (.int (f i1))) ⟨X1.mono (by decide) (by decide), e1, sz2, N1, (by omega), V1, (by rw [List.range_succ, List.map_append]; exact V2), (fun j hj => (Nat.lt_succ_iff_lt_or_eq.mp hj).elim (hal j) (fun q => q ▸ hc_)), (Or.inr ⟨_, rfl, rfl⟩), Kp1⟩
 ·intro J3
  exact J3 (n, s₁, h0, _, 0, .unset) ⟨X0.mono (by decide) (by decide), e0, (Nat.le_refl _), N0, (Nat.zero_add _), V1, V2, (fun j hj => absurd hj (Nat.not_lt_zero j)), (Or.inl rfl), (Keep.refl h0 [a2])⟩
theorem ef_rm_tob (m : MethodId) (x0 : Addr) (x1 : Int32) (x2 : Int32) : entryFrame m #[(.ref x0), (.int x1), (.int x2)] 5 = mkF m 0 #[.val (.ref x0), .val (.int x1), .val (.int x2), .unset, .unset] [] := by first | (simp [entryFrame, mkF, argsToLocals, Value.category]; done) | rfl
set_option maxRecDepth 65536 in
set_option maxHeartbeats 40000000 in
theorem rm_tob (l : Launch) (Z : State) (a0 : Array Value) (hw : ∀ d ∈ tables_1, d.before a0 Z = true) (a1 : Addr) (n M : Nat) (f : Nat → Int32) (h0 : Heap) (n0 : Nat) (Z0 : n0 ≤ h0.size) (hn : n ≤ 8) (hnM : n ≤ M) (S_as : Sta Z h0 "java/lang/StringUTF16" "$assertionsDisabled" "Z" (.int (1 : Int32))) (S_hi : Sta Z h0 "java/lang/StringUTF16" "HI_BYTE_SHIFT" "I" (.int (0 : Int32))) (S_lo : Sta Z h0 "java/lang/StringUTF16" "LO_BYTE_SHIFT" "I" (.int (8 : Int32))) (V1 : own_Fa Z h0 a1 .char "[C" (fun _ => True) M (fun y_ => .int (f y_))) :
  own_Met l Z (⟨"java/lang/StringUTF16", "toBytes", "([CII)[B"⟩ : MethodName) jdk_52_method_14_code 5 (some (.array .byte)) ({ frames := 2, cells := 1, slots := 16, locals := 24 } : Room) #[(.ref a1), (.int (0 : Int32)), (.int (Int32.ofNat n))] h0 (fun v h L => ∃ b : Addr, v = some (.ref b) ∧ h0.size ≤ b ∧ Ext h0 h ∧ Fr n0 L ∧ ∃ g : Nat → Int32, own_U f n g ∧ own_Fa Z h b .byte "[B" (fun _ => True) (2 * n) (fun y_ => .int (g y_))) := by
 refine own_body (plainFor_of_name (by first | (simp [plainName, overriddenIn]; done) | decide +kernel)) ?_
 intro p e s m below meth c s₁ hx hby hml hown hnm hlk hrt hZ X0 e0
 refine own_enter (ef_rm_tob m a1 (0 : Int32) (Int32.ofNat n)) ?_
 have N0 := Fr.nil n0
 have hnb := V1.big
 refine own_iloadN X0 hx hby o11_0 (pc' := 1) rfl rfl ?_
 refine own_callM X0 hx hby hml hZ hown (ow_244 hw) (ow_245 hw) (ow_236 hw) (ow_246 hw) (by decide) (cc := 1) (ss := 16) (rm_nbf l Z a0 hw n h0 n0 Z0 hn) 0 rfl rfl (by decide) (by decide) rfl (argsL := [(.int (Int32.ofNat n))]) (rest := []) opd_1 rfl rfl (Nat.le_refl _) o11_1 (pc' := 4) rfl rfl e0 (by decide) (by decide) ?_
 rintro v1 T1 h1 L1 X1 e1 ⟨bb, rfl, lb1, Eq1, Nq1, V2⟩
 have ne_a1_bb : a1 ≠ bb := Nat.ne_of_lt (Nat.lt_of_lt_of_le V1.lt lb1)
 have n0_bb : n0 ≤ bb := Nat.le_trans Z0 lb1
 have le0_bb : h0.size ≤ bb := Nat.le_trans (Nat.le_refl _) lb1
 have N1 := N0.app Nq1
 have sz2 := Nat.le_trans (Nat.le_refl _) Eq1.1
 replace V1 := V1.ext Eq1
 have be3 := own_xt own_xr Eq1
 refine own_astoreN X1 hx hby o11_4 (pc' := 5) rfl rfl (Ls' := #[.val (.ref a1), .val (.int (0 : Int32)), .val (.int (Int32.ofNat n)), .val (.ref bb), .unset]) rfl ?_
 refine own_iconst X1 hx hby o11_5 (pc' := 6) rfl (z := 0) rfl ?_
 refine own_istore X1 hx hby o11_6 (pc' := 8) rfl (Ls' := #[.val (.ref a1), .val (.int (0 : Int32)), .val (.int (Int32.ofNat n)), .val (.ref bb), .val (.int (0 : Int32))]) rfl ?_
 refine own_join (α := (Nat) × (State) × (Heap) × (List Loc) × (Nat) × (Nat → Int32)) (F := fun z => z.2.1.setTop (mkF m 8 #[.val (.ref a1), .val (.int (Int32.ofNat z.2.2.2.2.1)), .val (.int (Int32.ofNat n)), .val (.ref bb), .val (.int (Int32.ofNat z.2.2.2.2.1))] [])) (P := fun z => Stand p l e ({ frames := 2, cells := 1, slots := 16, locals := 24 } : Room) s m #[(.ref a1), (.int (0 : Int32)), (.int (Int32.ofNat n))] below meth c z.2.1 z.2.2.2.1 1 16 ∧ z.2.1.heap = z.2.2.1 ∧ h0.size ≤ z.2.2.1.size ∧ Fr n0 z.2.2.2.1 ∧ Ext h0 z.2.2.1 ∧ (z.2.2.2.2.1 + z.1 = n) ∧ (own_Fa Z z.2.2.1 a1 .char "[C" (fun _ => True) M (fun y_ => .int (f y_))) ∧ (own_Fa Z z.2.2.1 bb .byte "[B" (fun _ => True) (2 * n) (fun y_ => .int (z.2.2.2.2.2 y_))) ∧ (own_U f z.2.2.2.2.1 z.2.2.2.2.2)) ?_ ?_
 ·rintro ⟨k1, T_1, h_1, L_1, i1, g1⟩ hP
  dsimp only at hP ⊢
  revert hP
  induction k1 generalizing T_1 h_1 L_1 i1 g1 with
  | zero =>
   rintro ⟨Xl1, el1, szl1, Nl1, bel1, hik, V1, V2, hU⟩
   have hin : i1 = n := by omega
   refine own_iload Xl1 hx hby o11_8 (pc' := 10) rfl rfl ?_
   refine own_iloadN Xl1 hx hby o11_10 (pc' := 11) rfl rfl ?_
   refine own_icmpY Xl1 hx hby o11_11 (by decide) (pc' := 32) (by decide) (flt (by rw [own_ilt (by omega) (by omega)]; omega)).2.1 ?_
   refine own_aloadN Xl1 hx hby o11_32 (pc' := 33) rfl rfl rfl ?_
   exact own_retA Xl1 hx hby hlk hrt rfl rfl o11_33 (by first | exact ⟨bb, rfl, le0_bb, bel1, Nl1, g1, hin ▸ hU, V2⟩ | (rw [el1]; exact ⟨bb, rfl, le0_bb, bel1, Nl1, g1, hin ▸ hU, V2⟩)) (by decide) (by decide)
  | succ k1 ih1 =>
   rintro ⟨Xl1, el1, szl1, Nl1, bel1, hik, V1, V2, hU⟩
   have hlt : i1 < n := by omega
   refine own_iload Xl1 hx hby o11_8 (pc' := 10) rfl rfl ?_
   refine own_iloadN Xl1 hx hby o11_10 (pc' := 11) rfl rfl ?_
   refine own_icmpN Xl1 hx hby o11_11 (pc' := 14) rfl (tlt ((own_ilt (by omega) (by omega)).mpr hlt)).2.1 ?_
   refine own_aloadN Xl1 hx hby o11_14 (pc' := 15) rfl rfl rfl ?_
   refine own_iload Xl1 hx hby o11_15 (pc' := 17) rfl rfl ?_
   refine own_aloadN Xl1 hx hby o11_17 (pc' := 18) rfl rfl rfl ?_
   refine own_iloadN Xl1 hx hby o11_18 (pc' := 19) rfl rfl ?_
   refine own_fC Xl1 hx hby hZ el1 V1 (by omega) (v := (f i1)) rfl o11_19 (pc' := 20) rfl ?_
   refine own_callM Xl1 hx hby hml hZ hown (ow_251 hw) (ow_252 hw) (ow_236 hw) (ow_253 hw) (by decide) (cc := 0) (ss := 0) (rm_putc l Z a0 hw bb (f i1) i1 (2 * n) g1 h_1 n0 (Nat.le_trans Z0 szl1) n0_bb (by omega) (S_as.ext bel1) (S_hi.ext bel1) (S_lo.ext bel1) V2) 0 rfl rfl (by decide) (by decide) rfl (argsL := [(.ref bb), (.int (Int32.ofNat i1)), (.int (f i1))]) (rest := []) opd_2 rfl rfl (Nat.le_refl _) o11_20 (pc' := 23) rfl rfl el1 (by decide) (by decide) ?_
   rintro v4 T4 h4 L4 X4 e4 ⟨rfl, Nq4, Kq4, Vq⟩
   have N4 := Nl1.app Nq4
   have sz5 := Nat.le_trans szl1 Kq4.1
   replace V1 := V1.keep Kq4 (own_niS ne_a1_bb own_ni0)
   have be6 := own_xk bel1 Kq4 (allS le0_bb all0)
   refine own_iincN X4 hx hby o11_23 (pc' := 26) rfl rfl (Ls' := #[.val (.ref a1), .val (.int (Int32.ofNat (i1 + 1))), .val (.int (Int32.ofNat n)), .val (.ref bb), .val (.int (Int32.ofNat i1))]) rfl ?_
   refine own_iincN X4 hx hby o11_26 (pc' := 29) rfl rfl (Ls' := #[.val (.ref a1), .val (.int (Int32.ofNat (i1 + 1))), .val (.int (Int32.ofNat n)), .val (.ref bb), .val (.int (Int32.ofNat (i1 + 1)))]) rfl ?_
   refine own_goto X4 hx hby o11_29 (by decide) (pc' := 8) (by decide) ?_
   exact ih1 T4 h4 _ (i1 + 1) (own_pc g1 i1 (f i1)) ⟨X4.mono (by decide) (by decide), e4, sz5, N4, be6, (by omega), V1, Vq, hU.put⟩
 ·intro J7
  exact J7 (n, T1, h1, _, 0, (fun _ => (0 : Int32))) ⟨X1.mono (by decide) (by decide), e1, sz2, N1, be3, (Nat.zero_add _), V1, V2, (fun j hj => absurd hj (Nat.not_lt_zero j))⟩
theorem ef_rm_cmb (m : MethodId) (x0 : Addr) (x1 : Int32) (x2 : Int32) : entryFrame m #[(.ref x0), (.int x1), (.int x2)] 6 = mkF m 0 #[.val (.ref x0), .val (.int x1), .val (.int x2), .unset, .unset, .unset] [] := by first | (simp [entryFrame, mkF, argsToLocals, Value.category]; done) | rfl
set_option maxRecDepth 65536 in
set_option maxHeartbeats 40000000 in
theorem rm_cmb (l : Launch) (Z : State) (a0 : Array Value) (hw : ∀ d ∈ tables_1, d.before a0 Z = true) (a1 : Addr) (n M : Nat) (f : Nat → Int32) (h0 : Heap) (n0 : Nat) (Z0 : n0 ≤ h0.size) (hn : n ≤ 8) (hnM : n ≤ M) (hcb : own_Cb f n) (S_as : Sta Z h0 "java/lang/StringUTF16" "$assertionsDisabled" "Z" (.int (1 : Int32))) (S_hi : Sta Z h0 "java/lang/StringUTF16" "HI_BYTE_SHIFT" "I" (.int (0 : Int32))) (S_lo : Sta Z h0 "java/lang/StringUTF16" "LO_BYTE_SHIFT" "I" (.int (8 : Int32))) (V1 : own_Fa Z h0 a1 .char "[C" (fun _ => True) M (fun y_ => .int (f y_))) :
  own_Met l Z (⟨"java/lang/StringUTF16", "compress", "([CII)[B"⟩ : MethodName) jdk_52_method_16_code 6 (some (.array .byte)) ({ frames := 3, cells := 2, slots := 24, locals := 40 } : Room) #[(.ref a1), (.int (0 : Int32)), (.int (Int32.ofNat n))] h0 (fun v h L => ∃ b : Addr, v = some (.ref b) ∧ h0.size ≤ b ∧ Ext h0 h ∧ Fr n0 L ∧ (((∀ i, i < n → ¬ (255 : Int32) < f i) ∧ own_Pre Z h b n ((List.range n).map (fun y_ => own_b8 (f y_)))) ∨ ((∃ j, j < n ∧ (255 : Int32) < f j) ∧ ∃ g : Nat → Int32, own_U f n g ∧ own_Fa Z h b .byte "[B" (fun _ => True) (2 * n) (fun y_ => .int (g y_))))) := by
 refine own_body (plainFor_of_name (by first | (simp [plainName, overriddenIn]; done) | decide +kernel)) ?_
 intro p e s m below meth c s₁ hx hby hml hown hnm hlk hrt hZ X0 e0
 refine own_enter (ef_rm_cmb m a1 (0 : Int32) (Int32.ofNat n)) ?_
 have N0 := Fr.nil n0
 have hnb := V1.big
 refine own_iloadN X0 hx hby o12_0 (pc' := 1) rfl rfl ?_
 refine own_nB (N := n) X0 hx hby hZ (ow_0 hw) e0 o12_1 (pc' := 3) rfl (cap := 8) hn (by decide) (by decide) (by decide) ?_
 intro T1 h1 b1 g1 X1 e1 E1 V_b1
 have ne_a1_b1 : a1 ≠ b1 := own_nl V1.lt g1
 have n0_b1 : n0 ≤ b1 := Nat.le_trans Z0 (Nat.le_of_eq g1.symm)
 have le0_b1 : h0.size ≤ b1 := Nat.le_trans (Nat.le_refl _) (Nat.le_of_eq g1.symm)
 have sz2 := Nat.le_trans (Nat.le_refl _) E1.1
 replace V1 := V1.ext E1
 have be3 := own_xt own_xr E1
 have VP := own_Pre.new V_b1
 refine own_astoreN X1 hx hby o12_3 (pc' := 4) rfl rfl (Ls' := #[.val (.ref a1), .val (.int (0 : Int32)), .val (.int (Int32.ofNat n)), .val (.ref b1), .unset, .unset]) rfl ?_
 refine own_aloadN X1 hx hby o12_4 (pc' := 5) rfl rfl rfl ?_
 refine own_iloadN X1 hx hby o12_5 (pc' := 6) rfl rfl ?_
 refine own_aloadN X1 hx hby o12_6 (pc' := 7) rfl rfl rfl ?_
 refine own_iconst X1 hx hby o12_7 (pc' := 8) rfl (z := 0) rfl ?_
 refine own_iloadN X1 hx hby o12_8 (pc' := 9) rfl rfl ?_
 refine own_callM X1 hx hby hml hZ hown (ow_238 hw) (ow_239 hw) (ow_236 hw) (ow_240 hw) (by decide) (cc := 0) (ss := 0) (rm_cmp l Z a0 hw a1 b1 n M f h1 n0 (Nat.le_trans Z0 sz2) n0_b1 ne_a1_b1 hnM V1 VP) 0 rfl rfl (by decide) (by decide) rfl (argsL := [(.ref a1), (.int (0 : Int32)), (.ref b1), (.int (0 : Int32)), (.int (Int32.ofNat n))]) (rest := []) opd_3 rfl rfl (Nat.le_refl _) o12_9 (pc' := 12) rfl rfl e1 (by decide) (by decide) ?_
 rintro v4 T4 h4 L4 X4 e4 ⟨jj, rfl, Nq4, Kq4, hj⟩
 have N4 := N0.app Nq4
 have sz5 := Nat.le_trans sz2 Kq4.1
 replace V1 := V1.keep Kq4 (own_niS ne_a1_b1 own_ni0)
 have be6 := own_xk be3 Kq4 (allS le0_b1 all0)
 refine own_istore X4 hx hby o12_12 (pc' := 14) rfl (Ls' := #[.val (.ref a1), .val (.int (0 : Int32)), .val (.int (Int32.ofNat n)), .val (.ref b1), .val (.int (Int32.ofNat jj)), .unset]) rfl ?_
 refine own_iload X4 hx hby o12_14 (pc' := 16) rfl rfl ?_
 refine own_iloadN X4 hx hby o12_16 (pc' := 17) rfl rfl ?_
 rcases hj with hj | hj
 ·obtain ⟨hjn, hal, VP⟩ := hj
  subst hjn
  refine own_icmpY X4 hx hby o12_17 (by decide) (pc' := 57) (by decide) (teq rfl).1 ?_
  refine own_aloadN X4 hx hby o12_57 (pc' := 58) rfl rfl rfl ?_
  exact own_retA X4 hx hby hlk hrt rfl rfl o12_58 (by first | exact ⟨b1, rfl, le0_b1, be6, N4, Or.inl ⟨hal, VP⟩⟩ | (rw [e4]; exact ⟨b1, rfl, le0_b1, be6, N4, Or.inl ⟨hal, VP⟩⟩)) (by decide) (by decide)
 ·obtain ⟨hjn, hbig⟩ := hj
  refine own_icmpN X4 hx hby o12_17 (pc' := 20) rfl (feq (fun q => absurd (own_inj (by omega) (by omega) q) (by omega))).1 ?_
  refine own_aloadN X4 hx hby o12_20 (pc' := 21) rfl rfl rfl ?_
  refine own_iloadN X4 hx hby o12_21 (pc' := 22) rfl rfl ?_
  refine own_iloadN X4 hx hby o12_22 (pc' := 23) rfl rfl ?_
  refine own_callM X4 hx hby hml hZ hown (ow_241 hw) (ow_242 hw) (ow_236 hw) (ow_243 hw) (by decide) (cc := 1) (ss := 16) (rm_tob l Z a0 hw a1 n M f h4 n0 (Nat.le_trans Z0 sz5) hn hnM (S_as.ext be6) (S_hi.ext be6) (S_lo.ext be6) V1) 0 rfl rfl (by decide) (by decide) rfl (argsL := [(.ref a1), (.int (0 : Int32)), (.int (Int32.ofNat n))]) (rest := []) opd_4 rfl rfl (Nat.le_refl _) o12_23 (pc' := 26) rfl rfl e4 (by decide) (by decide) ?_
  rintro v7 T7 h7 L7 X7 e7 ⟨bt, rfl, lb7, Eq7, Nq7, gg, hU, V3⟩
  have ne_a1_bt : a1 ≠ bt := Nat.ne_of_lt (Nat.lt_of_lt_of_le V1.lt lb7)
  have n0_bt : n0 ≤ bt := Nat.le_trans (Nat.le_trans Z0 sz5) lb7
  have le0_bt : h0.size ≤ bt := Nat.le_trans sz5 lb7
  have N7 := N4.app Nq7
  have sz8 := Nat.le_trans sz5 Eq7.1
  replace V1 := V1.ext Eq7
  have be9 := own_xt be6 Eq7
  refine own_astore X7 hx hby o12_26 (pc' := 28) rfl rfl (Ls' := #[.val (.ref a1), .val (.int (0 : Int32)), .val (.int (Int32.ofNat n)), .val (.ref b1), .val (.int (Int32.ofNat jj)), .val (.ref bt)]) rfl ?_
  refine own_aload X7 hx hby o12_28 (pc' := 30) rfl rfl rfl ?_
  refine own_iload X7 hx hby o12_30 (pc' := 32) rfl rfl ?_
  refine own_callM X7 hx hby hml hZ hown (ow_257 hw) (ow_258 hw) (ow_236 hw) (ow_259 hw) (by decide) (cc := 0) (ss := 0) (rm_getc l Z a0 hw bt (f jj) jj (2 * n) gg h7 n0 (Nat.le_trans Z0 sz8) (by omega) (hU jj hjn).1 (hU jj hjn).2 (hcb jj hjn) (S_as.ext be9) (S_hi.ext be9) (S_lo.ext be9) V3) 0 rfl rfl (by decide) (by decide) rfl (argsL := [(.ref bt), (.int (Int32.ofNat jj))]) (rest := []) opd_5 rfl rfl (Nat.le_refl _) o12_32 (pc' := 35) rfl rfl e7 (by decide) (by decide) ?_
  rintro v10 T10 h10 L10 X10 e10 ⟨rfl, Nq10, rfl⟩
  have N10 := N7.app Nq10
  refine own_sipush X10 hx hby o12_35 (pc' := 38) rfl (z := 255) rfl ?_
  refine own_icmpY X10 hx hby o12_38 (by decide) (pc' := 54) (by decide) (tlt hbig).2.2.1 ?_
  refine own_aload X10 hx hby o12_54 (pc' := 56) rfl rfl rfl ?_
  exact own_retA X10 hx hby hlk hrt rfl rfl o12_56 (by first | exact ⟨bt, rfl, le0_bt, be9, N10, Or.inr ⟨⟨jj, hjn, hbig⟩, gg, hU, V3⟩⟩ | (rw [e10]; exact ⟨bt, rfl, le0_bt, be9, N10, Or.inr ⟨⟨jj, hjn, hbig⟩, gg, hU, V3⟩⟩)) (by decide) (by decide)
theorem ef_rm_cfl0 (m : MethodId) (x0 : Addr) (x1 : Int32) : entryFrame m #[(.ref x0), (.int x1)] 2 = mkF m 0 #[.val (.ref x0), .val (.int x1)] [] := by first | (simp [entryFrame, mkF, argsToLocals, Value.category]; done) | rfl
set_option maxRecDepth 65536 in
set_option maxHeartbeats 40000000 in
theorem rm_cfl0 (l : Launch) (Z : State) (a0 : Array Value) (hw : ∀ d ∈ tables_1, d.before a0 Z = true) (a1 : Addr) (n : Nat) (f : Nat → Value) (h0 : Heap) (n0 : Nat) (Z0 : n0 ≤ h0.size) (h1 : 1 ≤ n) (h8 : n ≤ 8) (V1 : own_Fa Z h0 a1 .byte "[B" (fun _ => True) n f) :
  own_Met l Z (⟨"java/lang/StringUTF16", "coderFromArrayLen", "([BI)B"⟩ : MethodName) jdk_52_method_15_code 2 (some .byte) ({ frames := 0, cells := 0, slots := 0, locals := 0 } : Room) #[(.ref a1), (.int (Int32.ofNat n))] h0 (fun v h L => v = some (.int (0 : Int32)) ∧ Fr n0 L ∧ h0 = h) := by
 refine own_body (plainFor_of_name (by first | (simp [plainName, overriddenIn]; done) | decide +kernel)) ?_
 intro p e s m below meth c s₁ hx hby hml hown hnm hlk hrt hZ X0 e0
 refine own_enter (ef_rm_cfl0 m a1 (Int32.ofNat n)) ?_
 have N0 := Fr.nil n0
 refine own_iloadN X0 hx hby o13_0 (pc' := 1) rfl rfl ?_
 refine own_aloadN X0 hx hby o13_1 (pc' := 2) rfl rfl rfl ?_
 refine own_fL X0 hx hby hZ e0 V1 o13_2 (pc' := 3) rfl ?_
 refine own_isub X0 hx hby o13_3 (pc' := 4) rfl ?_
 refine own_bipush X0 hx hby o13_4 (pc' := 6) rfl (z := 31) rfl ?_
 refine own_iushr X0 hx hby o13_6 (pc' := 7) rfl ?_
 refine own_i2b X0 hx hby o13_7 (pc' := 8) rfl ?_
 exact own_retN X0 hx hby hlk hrt (by simp) o13_8 (z' := (0 : Int32)) (own_cfl0) (by first | exact ⟨rfl, N0, rfl⟩ | (rw [e0]; exact ⟨rfl, N0, rfl⟩)) (by decide) (by decide)
theorem ef_rm_cfl1 (m : MethodId) (x0 : Addr) (x1 : Int32) : entryFrame m #[(.ref x0), (.int x1)] 2 = mkF m 0 #[.val (.ref x0), .val (.int x1)] [] := by first | (simp [entryFrame, mkF, argsToLocals, Value.category]; done) | rfl
set_option maxRecDepth 65536 in
set_option maxHeartbeats 40000000 in
theorem rm_cfl1 (l : Launch) (Z : State) (a0 : Array Value) (hw : ∀ d ∈ tables_1, d.before a0 Z = true) (a1 : Addr) (n : Nat) (f : Nat → Value) (h0 : Heap) (n0 : Nat) (Z0 : n0 ≤ h0.size) (h1 : 1 ≤ n) (h8 : n ≤ 8) (V1 : own_Fa Z h0 a1 .byte "[B" (fun _ => True) (2 * n) f) :
  own_Met l Z (⟨"java/lang/StringUTF16", "coderFromArrayLen", "([BI)B"⟩ : MethodName) jdk_52_method_15_code 2 (some .byte) ({ frames := 0, cells := 0, slots := 0, locals := 0 } : Room) #[(.ref a1), (.int (Int32.ofNat n))] h0 (fun v h L => v = some (.int (1 : Int32)) ∧ Fr n0 L ∧ h0 = h) := by
 refine own_body (plainFor_of_name (by first | (simp [plainName, overriddenIn]; done) | decide +kernel)) ?_
 intro p e s m below meth c s₁ hx hby hml hown hnm hlk hrt hZ X0 e0
 refine own_enter (ef_rm_cfl1 m a1 (Int32.ofNat n)) ?_
 have N0 := Fr.nil n0
 refine own_iloadN X0 hx hby o13_0 (pc' := 1) rfl rfl ?_
 refine own_aloadN X0 hx hby o13_1 (pc' := 2) rfl rfl rfl ?_
 refine own_fL X0 hx hby hZ e0 V1 o13_2 (pc' := 3) rfl ?_
 refine own_isub X0 hx hby o13_3 (pc' := 4) rfl ?_
 refine own_bipush X0 hx hby o13_4 (pc' := 6) rfl (z := 31) rfl ?_
 refine own_iushr X0 hx hby o13_6 (pc' := 7) rfl ?_
 refine own_i2b X0 hx hby o13_7 (pc' := 8) rfl ?_
 exact own_retN X0 hx hby hlk hrt (by simp) o13_8 (z' := (1 : Int32)) (own_cfl1 h1 h8) (by first | exact ⟨rfl, N0, rfl⟩ | (rw [e0]; exact ⟨rfl, N0, rfl⟩)) (by decide) (by decide)
theorem ef_rm_si (m : MethodId) (x0 : Addr) (x1 : Addr) (x2 : Int32) (x3 : Int32) : entryFrame m #[(.ref x0), (.ref x1), (.int x2), (.int x3), .null] 6 = mkF m 0 #[.val (.ref x0), .val (.ref x1), .val (.int x2), .val (.int x3), .val .null, .unset] [] := by first | (simp [entryFrame, mkF, argsToLocals, Value.category]; done) | rfl
set_option maxRecDepth 65536 in
set_option maxHeartbeats 40000000 in
theorem rm_si (l : Launch) (Z : State) (a0 : Array Value) (hw : ∀ d ∈ tables_1, d.before a0 Z = true) (a1 a2 : Addr) (n M : Nat) (f : Nat → Int32) (G1 : Int32) (h0 : Heap) (n0 : Nat) (Z0 : n0 ≤ h0.size) (n0_a1 : n0 ≤ a1) (ne12 : a1 ≠ a2) (h1 : 1 ≤ n) (hn : n ≤ 8) (hnM : n ≤ M) (hcb : own_Cb f n) (S_as : Sta Z h0 "java/lang/StringUTF16" "$assertionsDisabled" "Z" (.int (1 : Int32))) (S_hi : Sta Z h0 "java/lang/StringUTF16" "HI_BYTE_SHIFT" "I" (.int (0 : Int32))) (S_lo : Sta Z h0 "java/lang/StringUTF16" "LO_BYTE_SHIFT" "I" (.int (8 : Int32))) (S_cs : Sta Z h0 "java/lang/String" "COMPACT_STRINGS" "Z" (.int G1)) (P5 : ¬ (G1 = (0 : Int32))) (A1 : Exa Z h0 a1 "java/lang/String") (F_v : Fld Z h0 a1 "java/lang/String" "value" "[B" .null) (F_c : Fld Z h0 a1 "java/lang/String" "coder" "B" (.int (0 : Int32))) (V2 : own_Fa Z h0 a2 .char "[C" (fun _ => True) M (fun y_ => .int (f y_))) :
  own_Met l Z (⟨"java/lang/String", "<init>", "([CIILjava/lang/Void;)V"⟩ : MethodName) jdk_42_method_149_code 6 none ({ frames := 4, cells := 2, slots := 24, locals := 57 } : Room) #[(.ref a1), (.ref a2), (.int (0 : Int32)), (.int (Int32.ofNat n)), .null] h0 (fun v h L => v = none ∧ Fr n0 L ∧ Keep h0 h [a1] ∧ own_SV Z h a1 f n) := by
 refine own_body (plainFor_of_name (by first | (simp [plainName, overriddenIn]; done) | decide +kernel)) ?_
 intro p e s m below meth c s₁ hx hby hml hown hnm hlk hrt hZ X0 e0
 refine own_enter (ef_rm_si m a1 a2 (0 : Int32) (Int32.ofNat n)) ?_
 have N0 := Fr.nil n0
 have kx0 := Keep.refl h0 [a1]
 have hnb := V2.big
 refine own_aloadN X0 hx hby o14_0 (pc' := 1) rfl rfl rfl ?_
 refine own_initO X0 hx hby hZ hml hown (ow_17 hw) (ow_18 hw) (ow_19 hw) e0 rfl o14_1 (pc' := 4) rfl (by decide) (W := 0) (Nat.le_refl _) (by decide) ?_
 intro T1 X1 e1
 refine own_iloadN X1 hx hby o14_4 (pc' := 5) rfl rfl ?_
 refine own_ifY X1 hx hby o14_5 (by decide) (pc' := 27) (by decide) (feq (fun q => absurd (own_inj (b := 0) (by omega) (by decide) q) (by omega))).2 ?_
 refine own_getS X1 hx hby hZ hown (host := "") (Or.inl (ow_68 hw)) Via.refl e1 S_cs o14_27 (pc' := 30) rfl ?_
 intro T2 X2 e2
 refine own_ifN X2 hx hby o14_30 (pc' := 33) rfl (feq P5).1 ?_
 refine own_aloadN X2 hx hby o14_33 (pc' := 34) rfl rfl rfl ?_
 refine own_iloadN X2 hx hby o14_34 (pc' := 35) rfl rfl ?_
 refine own_iloadN X2 hx hby o14_35 (pc' := 36) rfl rfl ?_
 refine own_callM X2 hx hby hml hZ hown (ow_234 hw) (ow_235 hw) (ow_236 hw) (ow_237 hw) (by decide) (cc := 2) (ss := 24) (rm_cmb l Z a0 hw a2 n M f h0 n0 Z0 hn hnM hcb S_as S_hi S_lo V2) 0 rfl rfl (by decide) (by decide) rfl (argsL := [(.ref a2), (.int (0 : Int32)), (.int (Int32.ofNat n))]) (rest := []) opd_4 rfl rfl (Nat.le_refl _) o14_36 (pc' := 39) rfl rfl e2 (by decide) (by decide) ?_
 rintro v3 T3 h3 L3 X3 e3 ⟨bv, rfl, lb3, Eq3, Nq3, hstr⟩
 have ne_a1_bv : a1 ≠ bv := Nat.ne_of_lt (Nat.lt_of_lt_of_le A1.lt lb3)
 have ne_a2_bv : a2 ≠ bv := Nat.ne_of_lt (Nat.lt_of_lt_of_le V2.lt lb3)
 have n0_bv : n0 ≤ bv := Nat.le_trans Z0 lb3
 have le0_bv : h0.size ≤ bv := Nat.le_trans (Nat.le_refl _) lb3
 have N3 := N0.app Nq3
 have sz4 := Nat.le_trans (Nat.le_refl _) Eq3.1
 replace A1 := A1.ext Eq3
 replace F_v := F_v.ext Eq3
 replace F_c := F_c.ext Eq3
 replace V2 := V2.ext Eq3
 have be5 := own_xt own_xr Eq3
 have kx6 := kx0.ext Eq3
 refine own_astore X3 hx hby o14_39 (pc' := 41) rfl rfl (Ls' := #[.val (.ref a1), .val (.ref a2), .val (.int (0 : Int32)), .val (.int (Int32.ofNat n)), .val .null, .val (.ref bv)]) rfl ?_
 refine own_aloadN X3 hx hby o14_41 (pc' := 42) rfl rfl rfl ?_
 refine own_aload X3 hx hby o14_42 (pc' := 44) rfl rfl rfl ?_
 refine own_iloadN X3 hx hby o14_44 (pc' := 45) rfl rfl ?_
 rcases hstr with hs | hs
 ·obtain ⟨hal, VP⟩ := hs
  obtain ⟨g0, VF, _, _⟩ := id VP
  refine own_callM X3 hx hby hml hZ hown (ow_260 hw) (ow_261 hw) (ow_236 hw) (ow_262 hw) (by decide) (cc := 0) (ss := 0) (rm_cfl0 l Z a0 hw bv n _ h3 n0 (Nat.le_trans Z0 sz4) h1 hn VF) 1 rfl rfl (by decide) (by decide) rfl (argsL := [(.ref bv), (.int (Int32.ofNat n))]) (rest := [(.ref a1)]) opd_6 rfl rfl (Nat.le_refl _) o14_45 (pc' := 48) rfl rfl e3 (by decide) (by decide) ?_
  rintro v7 T7 h7 L7 X7 e7 ⟨rfl, Nq7, rfl⟩
  have N7 := N3.app Nq7
  refine own_putFN X7 hx hby hZ hown (ow_26 hw) Via.refl e7 F_c A1 (Or.inr ⟨(ow_22 hw), rfl, hnm⟩) (ow_8 hw) (ty := .byte) (v' := (.int (0 : Int32))) (by decide) rfl rfl o14_48 (pc' := 51) rfl ?_
  intro T8 h8 X8 e8 W8 F8_coder_a1 A8_a1
  replace F_v := F_v.other W8 (Or.inr (slot_ne (Or.inr (ow_21 hw)) (Or.inr (ow_22 hw)) (by decide) (t := (.array .byte)) (t' := .byte) (by decide) (by decide)))
  have sz9 := Nat.le_trans sz4 (Keep.of_wr W8).1
  replace V2 := V2.other W8 (Ne.symm ne12)
  replace VP := VP.other W8 (Ne.symm ne_a1_bv)
  have kx10 := kx6.wr W8 (Or.inl (List.mem_of_getElem? (i := 0) rfl))
  have N8 := own_fr1 (sl := Jvm.RoadKit.slotOf Z "java/lang/String" "coder" "B") N7 n0_a1
  refine own_aloadN X8 hx hby o14_51 (pc' := 52) rfl rfl rfl ?_
  refine own_aload X8 hx hby o14_52 (pc' := 54) rfl rfl rfl ?_
  refine own_putF X8 hx hby hZ hown (host := "") (Or.inl (ow_25 hw)) Via.refl e8 F_v A8_a1 (Or.inr ⟨(ow_21 hw), rfl, hnm⟩) (ow_8 hw) (ty := (.array .byte)) (by decide) rfl rfl o14_54 (pc' := 57) rfl ?_
  intro T11 h11 X11 e11 W11 F11_value_a1 A11_a1
  replace F8_coder_a1 := F8_coder_a1.other W11 (Or.inr (slot_ne (Or.inr (ow_22 hw)) (Or.inr (ow_21 hw)) (by decide) (t := .byte) (t' := (.array .byte)) (by decide) (by decide)))
  have sz12 := Nat.le_trans sz9 (Keep.of_wr W11).1
  replace V2 := V2.other W11 (Ne.symm ne12)
  replace VP := VP.other W11 (Ne.symm ne_a1_bv)
  have kx13 := kx10.wr W11 (Or.inl (List.mem_of_getElem? (i := 0) rfl))
  have N11 := own_fr1 (sl := Jvm.RoadKit.slotOf Z "java/lang/String" "value" "[B") N8 n0_a1
  exact own_ret0 X11 hx hby hlk hrt o14_57 (by first | exact ⟨rfl, N11, kx13, A11_a1, bv, 0, F11_value_a1, F8_coder_a1, Or.inl ⟨rfl, hal, VP⟩⟩ | (rw [e11]; exact ⟨rfl, N11, kx13, A11_a1, bv, 0, F11_value_a1, F8_coder_a1, Or.inl ⟨rfl, hal, VP⟩⟩)) (by decide) (by decide)
 ·obtain ⟨hany, gg, hU, VF⟩ := hs
  refine own_callM X3 hx hby hml hZ hown (ow_260 hw) (ow_261 hw) (ow_236 hw) (ow_262 hw) (by decide) (cc := 0) (ss := 0) (rm_cfl1 l Z a0 hw bv n _ h3 n0 (Nat.le_trans Z0 sz4) h1 hn VF) 1 rfl rfl (by decide) (by decide) rfl (argsL := [(.ref bv), (.int (Int32.ofNat n))]) (rest := [(.ref a1)]) opd_6 rfl rfl (Nat.le_refl _) o14_45 (pc' := 48) rfl rfl e3 (by decide) (by decide) ?_
  rintro v14 T14 h14 L14 X14 e14 ⟨rfl, Nq14, rfl⟩
  have N14 := N3.app Nq14
  refine own_putFN X14 hx hby hZ hown (ow_26 hw) Via.refl e14 F_c A1 (Or.inr ⟨(ow_22 hw), rfl, hnm⟩) (ow_8 hw) (ty := .byte) (v' := (.int (1 : Int32))) (by decide) rfl rfl o14_48 (pc' := 51) rfl ?_
  intro T15 h15 X15 e15 W15 F15_coder_a1 A15_a1
  replace F_v := F_v.other W15 (Or.inr (slot_ne (Or.inr (ow_21 hw)) (Or.inr (ow_22 hw)) (by decide) (t := (.array .byte)) (t' := .byte) (by decide) (by decide)))
  have sz16 := Nat.le_trans sz4 (Keep.of_wr W15).1
  replace V2 := V2.other W15 (Ne.symm ne12)
  replace VF := VF.other W15 (Ne.symm ne_a1_bv)
  have kx17 := kx6.wr W15 (Or.inl (List.mem_of_getElem? (i := 0) rfl))
  have N15 := own_fr1 (sl := Jvm.RoadKit.slotOf Z "java/lang/String" "coder" "B") N14 n0_a1
  refine own_aloadN X15 hx hby o14_51 (pc' := 52) rfl rfl rfl ?_
  refine own_aload X15 hx hby o14_52 (pc' := 54) rfl rfl rfl ?_
  refine own_putF X15 hx hby hZ hown (host := "") (Or.inl (ow_25 hw)) Via.refl e15 F_v A15_a1 (Or.inr ⟨(ow_21 hw), rfl, hnm⟩) (ow_8 hw) (ty := (.array .byte)) (by decide) rfl rfl o14_54 (pc' := 57) rfl ?_
  intro T18 h18 X18 e18 W18 F18_value_a1 A18_a1
  replace F15_coder_a1 := F15_coder_a1.other W18 (Or.inr (slot_ne (Or.inr (ow_22 hw)) (Or.inr (ow_21 hw)) (by decide) (t := .byte) (t' := (.array .byte)) (by decide) (by decide)))
  have sz19 := Nat.le_trans sz16 (Keep.of_wr W18).1
  replace V2 := V2.other W18 (Ne.symm ne12)
  replace VF := VF.other W18 (Ne.symm ne_a1_bv)
  have kx20 := kx17.wr W18 (Or.inl (List.mem_of_getElem? (i := 0) rfl))
  have N18 := own_fr1 (sl := Jvm.RoadKit.slotOf Z "java/lang/String" "value" "[B") N15 n0_a1
  exact own_ret0 X18 hx hby hlk hrt o14_57 (by first | exact ⟨rfl, N18, kx20, A18_a1, bv, 1, F18_value_a1, F15_coder_a1, Or.inr ⟨rfl, hany, gg, hU, VF⟩⟩ | (rw [e18]; exact ⟨rfl, N18, kx20, A18_a1, bv, 1, F18_value_a1, F15_coder_a1, Or.inr ⟨rfl, hany, gg, hU, VF⟩⟩)) (by decide) (by decide)
theorem ef_rm_coder (m : MethodId) (x0 : Addr) : entryFrame m #[(.ref x0)] 1 = mkF m 0 #[.val (.ref x0)] [] := by first | (simp [entryFrame, mkF, argsToLocals, Value.category]; done) | rfl
set_option maxRecDepth 65536 in
set_option maxHeartbeats 40000000 in
theorem rm_coder (l : Launch) (Z : State) (a0 : Array Value) (hw : ∀ d ∈ tables_1, d.before a0 Z = true) (a1 : Addr) (co G1 : Int32) (h0 : Heap) (n0 : Nat) (Z0 : n0 ≤ h0.size) (hco : nar .byte co = co) (S_cs : Sta Z h0 "java/lang/String" "COMPACT_STRINGS" "Z" (.int G1)) (P5 : ¬ (G1 = (0 : Int32))) (F_c : Fld Z h0 a1 "java/lang/String" "coder" "B" (.int co)) :
  own_Met l Z (⟨"java/lang/String", "coder", "()B"⟩ : MethodName) jdk_42_method_152_code 1 (some .byte) ({ frames := 0, cells := 0, slots := 0, locals := 0 } : Room) #[(.ref a1)] h0 (fun v h L => v = some (.int co) ∧ Fr n0 L ∧ h0 = h) := by
 refine own_body (plainFor_of_name (by first | (simp [plainName, overriddenIn]; done) | decide +kernel)) ?_
 intro p e s m below meth c s₁ hx hby hml hown hnm hlk hrt hZ X0 e0
 refine own_enter (ef_rm_coder m a1) ?_
 have N0 := Fr.nil n0
 refine own_getS X0 hx hby hZ hown (host := "") (Or.inl (ow_68 hw)) Via.refl e0 S_cs o15_0 (pc' := 3) rfl ?_
 intro T1 X1 e1
 refine own_ifN X1 hx hby o15_3 (pc' := 6) rfl (feq P5).1 ?_
 refine own_aloadN X1 hx hby o15_6 (pc' := 7) rfl rfl rfl ?_
 refine own_getF X1 hx hby hZ hown (host := "") (Or.inl (ow_26 hw)) Via.refl e1 F_c o15_7 (pc' := 10) rfl ?_
 intro T2 X2 e2
 refine own_goto X2 hx hby o15_10 (by decide) (pc' := 14) (by decide) ?_
 exact own_retN X2 hx hby hlk hrt (by simp) o15_14 (z' := co) hco (by first | exact ⟨rfl, N0, rfl⟩ | (rw [e2]; exact ⟨rfl, N0, rfl⟩)) (by decide) (by decide)
theorem ef_rm_cpos (m : MethodId) (x0 : Addr) (x1 : Int32) (x2 : Int32) : entryFrame m #[(.ref x0), (.int x1), (.int x2)] 5 = mkF m 0 #[.val (.ref x0), .val (.int x1), .val (.int x2), .unset, .unset] [] := by first | (simp [entryFrame, mkF, argsToLocals, Value.category]; done) | rfl
set_option maxRecDepth 65536 in
set_option maxHeartbeats 40000000 in
theorem rm_cpos (l : Launch) (Z : State) (a0 : Array Value) (hw : ∀ d ∈ tables_1, d.before a0 Z = true) (a1 : Addr) (n : Nat) (g : Nat → Int32) (h0 : Heap) (n0 : Nat) (Z0 : n0 ≤ h0.size) (V1 : own_Fa Z h0 a1 .byte "[B" (fun _ => True) n (fun y_ => .int (g y_))) :
  own_Met l Z (⟨"java/lang/StringCoding", "countPositives", "([BII)I"⟩ : MethodName) jdk_123_method_3_code 5 (some .int) ({ frames := 0, cells := 0, slots := 0, locals := 0 } : Room) #[(.ref a1), (.int (0 : Int32)), (.int (Int32.ofNat n))] h0 (fun v h L => ∃ j : Nat, v = some (.int (Int32.ofNat j)) ∧ Fr n0 L ∧ h0 = h ∧ ((j = n ∧ ∀ i, i < n → ¬ g i < (0 : Int32)) ∨ (j < n ∧ g j < (0 : Int32)))) := by
 refine own_body (plainFor_of_name (by first | (simp [plainName, overriddenIn]; done) | decide +kernel)) ?_
 intro p e s m below meth c s₁ hx hby hml hown hnm hlk hrt hZ X0 e0
 refine own_enter (ef_rm_cpos m a1 (0 : Int32) (Int32.ofNat n)) ?_
 have N0 := Fr.nil n0
 have hnb := V1.big
 refine own_iloadN X0 hx hby o16_0 (pc' := 1) rfl rfl ?_
 refine own_iloadN X0 hx hby o16_1 (pc' := 2) rfl rfl ?_
 refine own_iadd X0 hx hby o16_2 (pc' := 3) rfl ?_
 rw [show ((0 : Int32) + (Int32.ofNat n)) = Int32.ofNat n from Int32.zero_add _]
 refine own_istoreN X0 hx hby o16_3 (pc' := 4) rfl (Ls' := #[.val (.ref a1), .val (.int (0 : Int32)), .val (.int (Int32.ofNat n)), .val (.int (Int32.ofNat n)), .unset]) rfl ?_
 refine own_iloadN X0 hx hby o16_4 (pc' := 5) rfl rfl ?_
 refine own_istore X0 hx hby o16_5 (pc' := 7) rfl (Ls' := #[.val (.ref a1), .val (.int (0 : Int32)), .val (.int (Int32.ofNat n)), .val (.int (Int32.ofNat n)), .val (.int (0 : Int32))]) rfl ?_
 refine own_join (α := (Nat) × (State) × (Heap) × (List Loc) × (Nat)) (F := fun z => z.2.1.setTop (mkF m 7 #[.val (.ref a1), .val (.int (0 : Int32)), .val (.int (Int32.ofNat n)), .val (.int (Int32.ofNat n)), .val (.int (Int32.ofNat z.2.2.2.2))] [])) (P := fun z => Stand p l e ({ frames := 0, cells := 0, slots := 0, locals := 0 } : Room) s m #[(.ref a1), (.int (0 : Int32)), (.int (Int32.ofNat n))] below meth c z.2.1 z.2.2.2.1 0 0 ∧ z.2.1.heap = z.2.2.1 ∧ h0.size ≤ z.2.2.1.size ∧ Fr n0 z.2.2.2.1 ∧ Ext h0 z.2.2.1 ∧ (z.2.2.2.2 + z.1 = n) ∧ (own_Fa Z z.2.2.1 a1 .byte "[B" (fun _ => True) n (fun y_ => .int (g y_))) ∧ (∀ j, j < z.2.2.2.2 → ¬ g j < (0 : Int32)) ∧ (h0 = z.2.2.1)) ?_ ?_
 ·rintro ⟨k1, T_1, h_1, L_1, i1⟩ hP
  dsimp only at hP ⊢
  revert hP
  induction k1 generalizing T_1 h_1 L_1 i1 with
  | zero =>
   rintro ⟨Xl1, el1, szl1, Nl1, bel1, hik, V1, hal, hhe⟩
   have hin : i1 = n := by omega
   refine own_iload Xl1 hx hby o16_7 (pc' := 9) rfl rfl ?_
   refine own_iloadN Xl1 hx hby o16_9 (pc' := 10) rfl rfl ?_
   refine own_icmpY Xl1 hx hby o16_10 (by decide) (pc' := 31) (by decide) (flt (by rw [own_ilt (by omega) (by omega)]; omega)).2.1 ?_
   refine own_iloadN Xl1 hx hby o16_31 (pc' := 32) rfl rfl ?_
   exact own_retI Xl1 hx hby hlk hrt o16_32 (by first | exact ⟨n, rfl, Nl1, hhe, Or.inl ⟨rfl, hin ▸ hal⟩⟩ | (rw [el1]; exact ⟨n, rfl, Nl1, hhe, Or.inl ⟨rfl, hin ▸ hal⟩⟩)) (by decide) (by decide)
  | succ k1 ih1 =>
   rintro ⟨Xl1, el1, szl1, Nl1, bel1, hik, V1, hal, hhe⟩
   have hlt : i1 < n := by omega
   refine own_iload Xl1 hx hby o16_7 (pc' := 9) rfl rfl ?_
   refine own_iloadN Xl1 hx hby o16_9 (pc' := 10) rfl rfl ?_
   refine own_icmpN Xl1 hx hby o16_10 (pc' := 13) rfl (tlt ((own_ilt (by omega) (by omega)).mpr hlt)).2.1 ?_
   refine own_aloadN Xl1 hx hby o16_13 (pc' := 14) rfl rfl rfl ?_
   refine own_iload Xl1 hx hby o16_14 (pc' := 16) rfl rfl ?_
   refine own_fB Xl1 hx hby hZ el1 V1 hlt (v := (g i1)) rfl o16_16 (pc' := 17) rfl ?_
   by_cases hc_ : (g i1) < (0 : Int32)
   ·refine own_ifN Xl1 hx hby o16_17 (pc' := 20) rfl (tlt hc_).2.1 ?_
    refine own_iload Xl1 hx hby o16_20 (pc' := 22) rfl rfl ?_
    refine own_iloadN Xl1 hx hby o16_22 (pc' := 23) rfl rfl ?_
    refine own_isub Xl1 hx hby o16_23 (pc' := 24) rfl ?_
    rw [show ((Int32.ofNat i1) - (0 : Int32)) = Int32.ofNat i1 from Int32.sub_zero _]
    exact own_retI Xl1 hx hby hlk hrt o16_24 (by first | exact ⟨i1, rfl, Nl1, hhe, Or.inr ⟨hlt, hc_⟩⟩ | (rw [el1]; exact ⟨i1, rfl, Nl1, hhe, Or.inr ⟨hlt, hc_⟩⟩)) (by decide) (by decide)
   ·refine own_ifY Xl1 hx hby o16_17 (by decide) (pc' := 25) (by decide) (flt hc_).2.1 ?_
    refine own_iincN Xl1 hx hby o16_25 (pc' := 28) rfl rfl (Ls' := #[.val (.ref a1), .val (.int (0 : Int32)), .val (.int (Int32.ofNat n)), .val (.int (Int32.ofNat n)), .val (.int (Int32.ofNat (i1 + 1)))]) rfl ?_
    refine own_goto Xl1 hx hby o16_28 (by decide) (pc' := 7) (by decide) ?_
    exact ih1 T_1 h_1 _ (i1 + 1) ⟨Xl1.mono (by decide) (by decide), el1, szl1, Nl1, bel1, (by omega), V1, (fun j hj => (Nat.lt_succ_iff_lt_or_eq.mp hj).elim (hal j) (fun q => q ▸ hc_)), hhe⟩
 ·intro J1
  exact J1 (n, s₁, h0, _, 0) ⟨X0.mono (by decide) (by decide), e0, (Nat.le_refl _), N0, own_xr, (Nat.zero_add _), V1, (fun j hj => absurd hj (Nat.not_lt_zero j)), rfl⟩
theorem ef_rm_hneg (m : MethodId) (x0 : Addr) (x1 : Int32) (x2 : Int32) : entryFrame m #[(.ref x0), (.int x1), (.int x2)] 3 = mkF m 0 #[.val (.ref x0), .val (.int x1), .val (.int x2)] [] := by first | (simp [entryFrame, mkF, argsToLocals, Value.category]; done) | rfl
set_option maxRecDepth 65536 in
set_option maxHeartbeats 40000000 in
theorem rm_hneg (l : Launch) (Z : State) (a0 : Array Value) (hw : ∀ d ∈ tables_1, d.before a0 Z = true) (a1 : Addr) (n : Nat) (g : Nat → Int32) (h0 : Heap) (n0 : Nat) (Z0 : n0 ≤ h0.size) (V1 : own_Fa Z h0 a1 .byte "[B" (fun _ => True) n (fun y_ => .int (g y_))) :
  own_Met l Z (⟨"java/lang/StringCoding", "hasNegatives", "([BII)Z"⟩ : MethodName) jdk_123_method_2_code 3 (some .boolean) ({ frames := 1, cells := 0, slots := 0, locals := 16 } : Room) #[(.ref a1), (.int (0 : Int32)), (.int (Int32.ofNat n))] h0 (fun v h L => ∃ z : Int32, v = some (.int z) ∧ Fr n0 L ∧ h0 = h ∧ ((z = 0 ∧ ∀ i, i < n → ¬ g i < (0 : Int32)) ∨ (z = 1 ∧ ∃ j, j < n ∧ g j < (0 : Int32)))) := by
 refine own_body (plainFor_of_name (by first | (simp [plainName, overriddenIn]; done) | decide +kernel)) ?_
 intro p e s m below meth c s₁ hx hby hml hown hnm hlk hrt hZ X0 e0
 refine own_enter (ef_rm_hneg m a1 (0 : Int32) (Int32.ofNat n)) ?_
 have N0 := Fr.nil n0
 have hnb := V1.big
 refine own_aloadN X0 hx hby o17_0 (pc' := 1) rfl rfl rfl ?_
 refine own_iloadN X0 hx hby o17_1 (pc' := 2) rfl rfl ?_
 refine own_iloadN X0 hx hby o17_2 (pc' := 3) rfl rfl ?_
 refine own_callM X0 hx hby hml hZ hown (ow_81 hw) (ow_82 hw) (ow_79 hw) (ow_83 hw) (by decide) (cc := 0) (ss := 0) (rm_cpos l Z a0 hw a1 n g h0 n0 Z0 V1) 0 rfl rfl (by decide) (by decide) rfl (argsL := [(.ref a1), (.int (0 : Int32)), (.int (Int32.ofNat n))]) (rest := []) opd_7 rfl rfl (Nat.le_refl _) o17_3 (pc' := 6) rfl rfl e0 (by decide) (by decide) ?_
 rintro v1 T1 h1 L1 X1 e1 ⟨jj, rfl, Nq1, rfl, hj⟩
 have N1 := N0.app Nq1
 refine own_iloadN X1 hx hby o17_6 (pc' := 7) rfl rfl ?_
 rcases hj with hj | hj
 ·obtain ⟨hjn, hal⟩ := hj
  subst hjn
  refine own_icmpY X1 hx hby o17_7 (by decide) (pc' := 14) (by decide) (teq rfl).1 ?_
  refine own_iconst X1 hx hby o17_14 (pc' := 15) rfl (z := 0) rfl ?_
  exact own_retN X1 hx hby hlk hrt (by simp) o17_15 (z' := (0 : Int32)) rfl (by first | exact ⟨0, rfl, N1, rfl, Or.inl ⟨rfl, hal⟩⟩ | (rw [e1]; exact ⟨0, rfl, N1, rfl, Or.inl ⟨rfl, hal⟩⟩)) (by decide) (by decide)
 ·obtain ⟨hjn, hneg⟩ := hj
  refine own_icmpN X1 hx hby o17_7 (pc' := 10) rfl (feq (fun q => absurd (own_inj (by omega) (by omega) q) (by omega))).1 ?_
  refine own_iconst X1 hx hby o17_10 (pc' := 11) rfl (z := 1) rfl ?_
  refine own_goto X1 hx hby o17_11 (by decide) (pc' := 15) (by decide) ?_
  exact own_retN X1 hx hby hlk hrt (by simp) o17_15 (z' := (1 : Int32)) rfl (by first | exact ⟨1, rfl, N1, rfl, Or.inr ⟨rfl, jj, hjn, hneg⟩⟩ | (rw [e1]; exact ⟨1, rfl, N1, rfl, Or.inr ⟨rfl, jj, hjn, hneg⟩⟩)) (by decide) (by decide)
theorem ef_rm_min (m : MethodId) (x0 : Int32) (x1 : Int32) : entryFrame m #[(.int x0), (.int x1)] 2 = mkF m 0 #[.val (.int x0), .val (.int x1)] [] := by first | (simp [entryFrame, mkF, argsToLocals, Value.category]; done) | rfl
set_option maxRecDepth 65536 in
set_option maxHeartbeats 40000000 in
theorem rm_min (l : Launch) (Z : State) (a0 : Array Value) (hw : ∀ d ∈ tables_1, d.before a0 Z = true) (x y : Nat) (h0 : Heap) (n0 : Nat) (Z0 : n0 ≤ h0.size) (hx_ : x < 2147483648) (hxy : y < x) :
  own_Met l Z (⟨"java/lang/Math", "min", "(II)I"⟩ : MethodName) jdk_29_method_69_code 2 (some .int) ({ frames := 0, cells := 0, slots := 0, locals := 0 } : Room) #[(.int (Int32.ofNat x)), (.int (Int32.ofNat y))] h0 (fun v h L => v = some (.int (Int32.ofNat y)) ∧ Fr n0 L ∧ h0 = h) := by
 refine own_body (Jvm.Free.JP.mathPlain rfl (by decide +kernel)) ?_
 intro p e s m below meth c s₁ hx hby hml hown hnm hlk hrt hZ X0 e0
 refine own_enter (ef_rm_min m (Int32.ofNat x) (Int32.ofNat y)) ?_
 have N0 := Fr.nil n0
 refine own_iloadN X0 hx hby o18_0 (pc' := 1) rfl rfl ?_
 refine own_iloadN X0 hx hby o18_1 (pc' := 2) rfl rfl ?_
 refine own_icmpY X0 hx hby o18_2 (by decide) (pc' := 9) (by decide) (tlt ((own_ilt (by omega) (by omega)).mpr hxy)).2.2.1 ?_
 refine own_iloadN X0 hx hby o18_9 (pc' := 10) rfl rfl ?_
 exact own_retI X0 hx hby hlk hrt o18_10 (by first | exact ⟨rfl, N0, rfl⟩ | (rw [e0]; exact ⟨rfl, N0, rfl⟩)) (by decide) (by decide)
theorem ef_rm_cpo (m : MethodId) (x0 : Addr) (x1 : Int32) : entryFrame m #[(.ref x0), (.int x1)] 3 = mkF m 0 #[.val (.ref x0), .val (.int x1), .unset] [] := by first | (simp [entryFrame, mkF, argsToLocals, Value.category]; done) | rfl
set_option maxRecDepth 65536 in
set_option maxHeartbeats 40000000 in
theorem rm_cpo (l : Launch) (Z : State) (a0 : Array Value) (hw : ∀ d ∈ tables_1, d.before a0 Z = true) (a1 : Addr) (N M : Nat) (out : List Int32) (h0 : Heap) (n0 : Nat) (Z0 : n0 ≤ h0.size) (hM : out.length = M) (hMN : M < N) (hN24 : N ≤ 24) (V1 : own_Pre Z h0 a1 N out) :
  own_Met l Z (⟨"java/util/Arrays", "copyOf", "([BI)[B"⟩ : MethodName) jdk_65_method_121_code 3 (some (.array .byte)) ({ frames := 1, cells := 1, slots := 24, locals := 40 } : Room) #[(.ref a1), (.int (Int32.ofNat M))] h0 (fun v h L => ∃ b : Addr, v = some (.ref b) ∧ h0.size ≤ b ∧ Ext h0 h ∧ Fr n0 L ∧ own_Bl Z h b out) := by
 refine own_body (plainFor_of_name (by first | (simp [plainName, overriddenIn]; done) | decide +kernel)) ?_
 intro p e s m below meth c s₁ hx hby hml hown hnm hlk hrt hZ X0 e0
 refine own_enter (ef_rm_cpo m a1 (Int32.ofNat M)) ?_
 have N0 := Fr.nil n0
 have hnb := V1.big
 refine own_iloadN X0 hx hby o19_0 (pc' := 1) rfl rfl ?_
 refine own_aloadN X0 hx hby o19_1 (pc' := 2) rfl rfl rfl ?_
 refine own_lP X0 hx hby hZ e0 V1 o19_2 (pc' := 3) rfl ?_
 refine own_icmpY X0 hx hby o19_3 (by decide) (pc' := 14) (by decide) (feq (fun q => absurd (own_inj (by omega) (by omega) q) (by omega))).2 ?_
 refine own_iloadN X0 hx hby o19_14 (pc' := 15) rfl rfl ?_
 refine own_nB (N := M) X0 hx hby hZ (ow_0 hw) e0 o19_15 (pc' := 17) rfl (cap := 24) (by omega) (by decide) (by decide) (by decide) ?_
 intro T1 h1 b1 g1 X1 e1 E1 V_b1
 have ne_a1_b1 : a1 ≠ b1 := own_nl V1.lt g1
 have n0_b1 : n0 ≤ b1 := Nat.le_trans Z0 (Nat.le_of_eq g1.symm)
 have le0_b1 : h0.size ≤ b1 := Nat.le_trans (Nat.le_refl _) (Nat.le_of_eq g1.symm)
 have sz2 := Nat.le_trans (Nat.le_refl _) E1.1
 replace V1 := V1.ext E1
 have be3 := own_xt own_xr E1
 refine own_astoreN X1 hx hby o19_17 (pc' := 18) rfl rfl (Ls' := #[.val (.ref a1), .val (.int (Int32.ofNat M)), .val (.ref b1)]) rfl ?_
 refine own_aloadN X1 hx hby o19_18 (pc' := 19) rfl rfl rfl ?_
 refine own_iconst X1 hx hby o19_19 (pc' := 20) rfl (z := 0) rfl ?_
 refine own_aloadN X1 hx hby o19_20 (pc' := 21) rfl rfl rfl ?_
 refine own_iconst X1 hx hby o19_21 (pc' := 22) rfl (z := 0) rfl ?_
 refine own_aloadN X1 hx hby o19_22 (pc' := 23) rfl rfl rfl ?_
 refine own_lP X1 hx hby hZ e1 V1 o19_23 (pc' := 24) rfl ?_
 refine own_iloadN X1 hx hby o19_24 (pc' := 25) rfl rfl ?_
 refine own_callM X1 hx hby hml hZ hown (ow_212 hw) (ow_213 hw) (ow_214 hw) (ow_215 hw) (by decide) (cc := 0) (ss := 0) (rm_min l Z a0 hw N M h1 n0 (Nat.le_trans Z0 sz2) hnb hMN) 4 rfl rfl (by decide) (by decide) rfl (argsL := [(.int (Int32.ofNat N)), (.int (Int32.ofNat M))]) (rest := [(.int (0 : Int32)), (.ref b1), (.int (0 : Int32)), (.ref a1)]) opd_8 rfl rfl (Nat.le_refl _) o19_25 (pc' := 28) rfl rfl e1 (by decide) (by decide) ?_
 rintro v4 T4 h4 L4 X4 e4 ⟨rfl, Nq4, rfl⟩
 have N4 := N0.app Nq4
 obtain ⟨g1, VA, hle, hg⟩ := id V1
 refine own_cpF X4 hx hby hZ hml hown (ow_216 hw) (ow_175 hw) (ow_173 hw) (ow_174 hw) e4 VA V_b1 (sp := 0) (dp := 0) (nn := M) (by omega) (by omega) (n0 := n0) N4 n0_b1 rfl o19_28 (pc' := 31) rfl (by decide) (W := 0) (Nat.le_refl _) (by decide) ?_
 intro T5 h5 L5 X5 e5 N5 K_5 VQ
 have sz6 := Nat.le_trans sz2 K_5.1
 replace V1 := V1.keep K_5 (own_niS ne_a1_b1 own_ni0)
 have be7 := own_xk be3 K_5 (allS le0_b1 all0)
 refine own_aloadN X5 hx hby o19_31 (pc' := 32) rfl rfl rfl ?_
 exact own_retA X5 hx hby hlk hrt rfl rfl o19_32 (by first | exact ⟨b1, rfl, le0_b1, be7, N5, own_cpBl hM VQ hg⟩ | (rw [e5]; exact ⟨b1, rfl, le0_b1, be7, N5, own_cpBl hM VQ hg⟩)) (by decide) (by decide)
theorem ef_rm_eu16 (m : MethodId) (x0 : Addr) (x1 : Int32) : entryFrame m #[(.ref x0), (.int x1)] 9 = mkF m 0 #[.val (.ref x0), .val (.int x1), .unset, .unset, .unset, .unset, .unset, .unset, .unset] [] := by first | (simp [entryFrame, mkF, argsToLocals, Value.category]; done) | rfl
set_option maxRecDepth 65536 in
set_option maxHeartbeats 40000000 in
theorem rm_eu16 (l : Launch) (Z : State) (a0 : Array Value) (hw : ∀ d ∈ tables_1, d.before a0 Z = true) (a1 : Addr) (n : Nat) (f g : Nat → Int32) (h0 : Heap) (n0 : Nat) (Z0 : n0 ≤ h0.size) (hn : n ≤ 8) (hcb : own_Cb f n) (hU : own_U f n g) (S_as : Sta Z h0 "java/lang/StringUTF16" "$assertionsDisabled" "Z" (.int (1 : Int32))) (S_hi : Sta Z h0 "java/lang/StringUTF16" "HI_BYTE_SHIFT" "I" (.int (0 : Int32))) (S_lo : Sta Z h0 "java/lang/StringUTF16" "LO_BYTE_SHIFT" "I" (.int (8 : Int32))) (V1 : own_Fa Z h0 a1 .byte "[B" (fun _ => True) (2 * n) (fun y_ => .int (g y_))) :
  own_Met l Z (⟨"java/lang/String", "encodeUTF8_UTF16", "([BZ)[B"⟩ : MethodName) jdk_42_method_47_code 9 (some (.array .byte)) ({ frames := 2, cells := 2, slots := 48, locals := 54 } : Room) #[(.ref a1), (.int (1 : Int32))] h0 (fun v h L => ∃ b : Addr, v = some (.ref b) ∧ h0.size ≤ b ∧ Ext h0 h ∧ Fr n0 L ∧ own_Bl Z h b (own_Ec f n 0)) := by
 refine own_body (plainFor_of_name (by first | (simp [plainName, overriddenIn]; done) | decide +kernel)) ?_
 intro p e s m below meth c s₁ hx hby hml hown hnm hlk hrt hZ X0 e0
 refine own_enter (ef_rm_eu16 m a1 (1 : Int32)) ?_
 have N0 := Fr.nil n0
 have hnb := V1.big
 refine own_iconst X0 hx hby o20_0 (pc' := 1) rfl (z := 0) rfl ?_
 refine own_istoreN X0 hx hby o20_1 (pc' := 2) rfl (Ls' := #[.val (.ref a1), .val (.int (1 : Int32)), .val (.int (0 : Int32)), .unset, .unset, .unset, .unset, .unset, .unset]) rfl ?_
 refine own_iconst X0 hx hby o20_2 (pc' := 3) rfl (z := 0) rfl ?_
 refine own_istoreN X0 hx hby o20_3 (pc' := 4) rfl (Ls' := #[.val (.ref a1), .val (.int (1 : Int32)), .val (.int (0 : Int32)), .val (.int (0 : Int32)), .unset, .unset, .unset, .unset, .unset]) rfl ?_
 refine own_aloadN X0 hx hby o20_4 (pc' := 5) rfl rfl rfl ?_
 refine own_fL X0 hx hby hZ e0 V1 o20_5 (pc' := 6) rfl ?_
 refine own_iconst X0 hx hby o20_6 (pc' := 7) rfl (z := 1) rfl ?_
 refine own_ishr X0 hx hby o20_7 (pc' := 8) rfl ?_
 rw [show (Int32.ofNat (2 * n) >>> ((1 : Int32) &&& 31)) = Int32.ofNat n from own_shr1 hn]
 refine own_istore X0 hx hby o20_8 (pc' := 10) rfl (Ls' := #[.val (.ref a1), .val (.int (1 : Int32)), .val (.int (0 : Int32)), .val (.int (0 : Int32)), .val (.int (Int32.ofNat n)), .unset, .unset, .unset, .unset]) rfl ?_
 refine own_iload X0 hx hby o20_10 (pc' := 12) rfl rfl ?_
 refine own_iconst X0 hx hby o20_12 (pc' := 13) rfl (z := 3) rfl ?_
 refine own_imul X0 hx hby o20_13 (pc' := 14) rfl ?_
 rw [show (Int32.ofNat n * (3 : Int32)) = Int32.ofNat (3 * n) from own_mul3 hn]
 refine own_nB (N := (3 * n)) X0 hx hby hZ (ow_0 hw) e0 o20_14 (pc' := 16) rfl (cap := 24) (by omega) (by decide) (by decide) (by decide) ?_
 intro T1 h1 b1 g1 X1 e1 E1 V_b1
 have ne_a1_b1 : a1 ≠ b1 := own_nl V1.lt g1
 have n0_b1 : n0 ≤ b1 := Nat.le_trans Z0 (Nat.le_of_eq g1.symm)
 have le0_b1 : h0.size ≤ b1 := Nat.le_trans (Nat.le_refl _) (Nat.le_of_eq g1.symm)
 have sz2 := Nat.le_trans (Nat.le_refl _) E1.1
 replace V1 := V1.ext E1
 have be3 := own_xt own_xr E1
 have VP := own_Pre.new V_b1
 refine own_astore X1 hx hby o20_16 (pc' := 18) rfl rfl (Ls' := #[.val (.ref a1), .val (.int (1 : Int32)), .val (.int (0 : Int32)), .val (.int (0 : Int32)), .val (.int (Int32.ofNat n)), .val (.ref b1), .unset, .unset, .unset]) rfl ?_
 have ne_a1_d := ne_a1_b1
 refine own_join (α := (Nat) × (State) × (Heap) × (List Loc) × (Nat) × (Nat) × (List Int32) × (Slot) × (Slot) × (Slot)) (F := fun z => z.2.1.setTop (mkF m 58 #[.val (.ref a1), .val (.int (1 : Int32)), .val (.int (Int32.ofNat z.2.2.2.2.2.1)), .val (.int (Int32.ofNat z.2.2.2.2.1)), .val (.int (Int32.ofNat n)), .val (.ref b1), z.2.2.2.2.2.2.2.1, z.2.2.2.2.2.2.2.2.1, z.2.2.2.2.2.2.2.2.2] [])) (P := fun z => Stand p l e ({ frames := 2, cells := 2, slots := 48, locals := 54 } : Room) s m #[(.ref a1), (.int (1 : Int32))] below meth c z.2.1 z.2.2.2.1 1 24 ∧ z.2.1.heap = z.2.2.1 ∧ h0.size ≤ z.2.2.1.size ∧ Fr n0 z.2.2.2.1 ∧ Ext h0 z.2.2.1 ∧ (n ≤ z.2.2.2.2.1 + z.1) ∧ (z.2.2.2.2.1 ≤ n) ∧ (own_Fa Z z.2.2.1 a1 .byte "[B" (fun _ => True) (2 * n) (fun y_ => .int (g y_))) ∧ (own_Pre Z z.2.2.1 b1 (3 * n) z.2.2.2.2.2.2.1) ∧ (z.2.2.2.2.2.2.1.length = z.2.2.2.2.2.1) ∧ (z.2.2.2.2.2.1 ≤ 3 * z.2.2.2.2.1) ∧ (z.2.2.2.2.2.2.1 ++ own_Ec f n z.2.2.2.2.1 = (own_Ec f n 0)) ∧ (own_s1 z.2.2.2.2.2.2.2.1) ∧ (own_s1 z.2.2.2.2.2.2.2.2.1) ∧ (own_s1 z.2.2.2.2.2.2.2.2.2)) ?_ ?_
 ·rintro ⟨k1, T_1, h_1, L_1, i1, dp, out, u6, u7, u8⟩ hP
  dsimp only at hP ⊢
  revert hP
  induction k1 generalizing T_1 h_1 L_1 i1 dp out u6 u7 u8 with
  | zero =>
   rintro ⟨Xl1, el1, szl1, Nl1, bel1, hik, hin, V1, VP, hdp, hd3, hE, hu6, hu7, hu8⟩
   refine own_iloadN Xl1 hx hby o20_58 (pc' := 59) rfl rfl ?_
   refine own_iload Xl1 hx hby o20_59 (pc' := 61) rfl rfl ?_
   refine own_icmpY Xl1 hx hby o20_61 (by decide) (pc' := 355) (by decide) (flt (by rw [own_ilt (by omega) (by omega)]; omega)).2.1 ?_
   have hin' : i1 = n := by omega
   have hEo : out = (own_Ec f n 0) := by rw [hin', own_Ec_end (Nat.lt_irrefl n), List.append_nil] at hE; exact hE
   refine own_iloadN Xl1 hx hby o20_355 (pc' := 356) rfl rfl ?_
   refine own_aload Xl1 hx hby o20_356 (pc' := 358) rfl rfl rfl ?_
   refine own_lP Xl1 hx hby hZ el1 VP o20_358 (pc' := 359) rfl ?_
   by_cases hq_ : (Int32.ofNat dp) = (Int32.ofNat (3 * n))
   ·refine own_icmpN Xl1 hx hby o20_359 (pc' := 362) rfl (teq hq_).2 ?_
    refine own_aload Xl1 hx hby o20_362 (pc' := 364) rfl rfl rfl ?_
    have h3n : dp = 3 * n := own_inj (by omega) (by omega) hq_
    have VB : own_Bl Z h_1 b1 out := own_Pre.full (by rw [hdp, h3n]; exact VP)
    exact own_retA Xl1 hx hby hlk hrt rfl rfl o20_364 (by first | exact ⟨b1, rfl, le0_b1, bel1, Nl1, hEo ▸ VB⟩ | (rw [el1]; exact ⟨b1, rfl, le0_b1, bel1, Nl1, hEo ▸ VB⟩)) (by decide) (by decide)
   ·refine own_icmpY Xl1 hx hby o20_359 (by decide) (pc' := 365) (by decide) (feq hq_).2 ?_
    refine own_aload Xl1 hx hby o20_365 (pc' := 367) rfl rfl rfl ?_
    refine own_iloadN Xl1 hx hby o20_367 (pc' := 368) rfl rfl ?_
    refine own_callM Xl1 hx hby hml hZ hown (ow_280 hw) (ow_281 hw) (ow_204 hw) (ow_282 hw) (by decide) (cc := 1) (ss := 24) (rm_cpo l Z a0 hw b1 (3 * n) dp out h_1 n0 (Nat.le_trans Z0 szl1) hdp (Nat.lt_of_le_of_ne (hdp ▸ VP.len) (fun q => hq_ (by rw [q]))) (by omega) VP) 0 rfl rfl (by decide) (by decide) rfl (argsL := [(.ref b1), (.int (Int32.ofNat dp))]) (rest := []) opd_9 rfl rfl (Nat.le_refl _) o20_368 (pc' := 371) rfl rfl el1 (by decide) (by decide) ?_
    rintro v4 T4 h4 L4 X4 e4 ⟨bc, rfl, lb4, Eq4, Nq4, VB⟩
    have ne_a1_bc : a1 ≠ bc := Nat.ne_of_lt (Nat.lt_of_lt_of_le V1.lt lb4)
    have ne_b1_bc : b1 ≠ bc := Nat.ne_of_lt (Nat.lt_of_lt_of_le VP.lt lb4)
    have n0_bc : n0 ≤ bc := Nat.le_trans (Nat.le_trans Z0 szl1) lb4
    have le0_bc : h0.size ≤ bc := Nat.le_trans szl1 lb4
    have N4 := Nl1.app Nq4
    have sz5 := Nat.le_trans szl1 Eq4.1
    replace V1 := V1.ext Eq4
    replace VP := VP.ext Eq4
    have be6 := own_xt bel1 Eq4
    exact own_retA X4 hx hby hlk hrt rfl rfl o20_371 (by first | exact ⟨bc, rfl, le0_bc, be6, N4, hEo ▸ VB⟩ | (rw [e4]; exact ⟨bc, rfl, le0_bc, be6, N4, hEo ▸ VB⟩)) (by decide) (by decide)
  | succ k1 ih1 =>
   rintro ⟨Xl1, el1, szl1, Nl1, bel1, hik, hin, V1, VP, hdp, hd3, hE, hu6, hu7, hu8⟩
   refine own_iloadN Xl1 hx hby o20_58 (pc' := 59) rfl rfl ?_
   refine own_iload Xl1 hx hby o20_59 (pc' := 61) rfl rfl ?_
   by_cases hlt : i1 < n
   ·refine own_icmpN Xl1 hx hby o20_61 (pc' := 64) rfl (tlt ((own_ilt (by omega) (by omega)).mpr hlt)).2.1 ?_
    refine own_aloadN Xl1 hx hby o20_64 (pc' := 65) rfl rfl rfl ?_
    refine own_iloadN Xl1 hx hby o20_65 (pc' := 66) rfl rfl ?_
    refine own_iincN Xl1 hx hby o20_66 (pc' := 69) rfl rfl (Ls' := #[.val (.ref a1), .val (.int (1 : Int32)), .val (.int (Int32.ofNat dp)), .val (.int (Int32.ofNat (i1 + 1))), .val (.int (Int32.ofNat n)), .val (.ref b1), u6, u7, u8]) rfl ?_
    refine own_callM Xl1 hx hby hml hZ hown (ow_266 hw) (ow_258 hw) (ow_236 hw) (ow_259 hw) (by decide) (cc := 0) (ss := 0) (rm_getc l Z a0 hw a1 (f i1) i1 (2 * n) g h_1 n0 (Nat.le_trans Z0 szl1) (by omega) (hU i1 hlt).1 (hU i1 hlt).2 (hcb i1 hlt) (S_as.ext bel1) (S_hi.ext bel1) (S_lo.ext bel1) V1) 0 rfl rfl (by decide) (by decide) rfl (argsL := [(.ref a1), (.int (Int32.ofNat i1))]) (rest := []) opd_5 rfl rfl (Nat.le_refl _) o20_69 (pc' := 72) rfl rfl el1 (by decide) (by decide) ?_
    rintro v7 T7 h7 L7 X7 e7 ⟨rfl, Nq7, rfl⟩
    have N7 := Nl1.app Nq7
    refine own_istore X7 hx hby o20_72 (pc' := 74) rfl (Ls' := #[.val (.ref a1), .val (.int (1 : Int32)), .val (.int (Int32.ofNat dp)), .val (.int (Int32.ofNat (i1 + 1))), .val (.int (Int32.ofNat n)), .val (.ref b1), .val (.int (f i1)), u7, u8]) (own_s96 hu6 rfl) ?_
    refine own_iload X7 hx hby o20_74 (pc' := 76) rfl rfl ?_
    refine own_sipush X7 hx hby o20_76 (pc' := 79) rfl (z := 128) rfl ?_
    by_cases h128 : (f i1) < (128 : Int32)
    ·refine own_icmpN X7 hx hby o20_79 (pc' := 82) rfl (tlt h128).2.1 ?_
     refine own_aload X7 hx hby o20_82 (pc' := 84) rfl rfl rfl ?_
     refine own_iloadN X7 hx hby o20_84 (pc' := 85) rfl rfl ?_
     refine own_iincN X7 hx hby o20_85 (pc' := 88) rfl rfl (Ls' := #[.val (.ref a1), .val (.int (1 : Int32)), .val (.int (Int32.ofNat (dp + 1))), .val (.int (Int32.ofNat (i1 + 1))), .val (.int (Int32.ofNat n)), .val (.ref b1), .val (.int (f i1)), u7, u8]) rfl ?_
     refine own_iload X7 hx hby o20_88 (pc' := 90) rfl rfl ?_
     refine own_i2b X7 hx hby o20_90 (pc' := 91) rfl ?_
     refine own_gP X7 hx hby hZ e7 VP (by simp [hdp]; omega) (w := (own_b8 (f i1))) (own_nar8 _) (congrArg Int32.ofNat (by simp [hdp])) o20_91 (pc' := 92) rfl ?_
     intro T8 h8 X8 e8 W8 Q8
     have sz9 := Nat.le_trans szl1 (Keep.of_wr W8).1
     replace V1 := V1.other W8 ne_a1_b1
     have be10 := own_xw bel1 W8 le0_b1
     replace VP := Q8
     have N8 := own_fr1 (sl := (out : List Int32).length) N7 n0_b1
     refine own_goto X8 hx hby o20_92 (by decide) (pc' := 352) (by decide) ?_
     refine own_goto X8 hx hby o20_352 (by decide) (pc' := 58) (by decide) ?_
     exact ih1 T8 h8 _ (i1 + 1) (dp + 1) ((out ++ [(own_b8 (f i1))])) ((.val (.int (f i1)))) (u7) (u8) ⟨X8.mono (by decide) (by decide), e8, sz9, N8, be10, (by omega), (by omega), V1, VP, (by simp [hdp]), (by omega), (own_Estep hlt hE (own_cpC (own_nSu (own_n128 h128))) (own_stp1 (own_lt65 (hcb i1 hlt).2)) (own_put1 (own_nlt0 (hcb i1 hlt).1) h128) (by simp [List.append_assoc])), (Or.inr ⟨_, rfl, rfl⟩), hu7, hu8⟩
    ·refine own_icmpY X7 hx hby o20_79 (by decide) (pc' := 95) (by decide) (flt h128).2.1 ?_
     refine own_iload X7 hx hby o20_95 (pc' := 97) rfl rfl ?_
     refine own_sipush X7 hx hby o20_97 (pc' := 100) rfl (z := 2048) rfl ?_
     by_cases h2048 : (f i1) < (2048 : Int32)
     ·refine own_icmpN X7 hx hby o20_100 (pc' := 103) rfl (tlt h2048).2.1 ?_
      refine own_aload X7 hx hby o20_103 (pc' := 105) rfl rfl rfl ?_
      refine own_iloadN X7 hx hby o20_105 (pc' := 106) rfl rfl ?_
      refine own_iincN X7 hx hby o20_106 (pc' := 109) rfl rfl (Ls' := #[.val (.ref a1), .val (.int (1 : Int32)), .val (.int (Int32.ofNat (dp + 1))), .val (.int (Int32.ofNat (i1 + 1))), .val (.int (Int32.ofNat n)), .val (.ref b1), .val (.int (f i1)), u7, u8]) rfl ?_
      refine own_sipush X7 hx hby o20_109 (pc' := 112) rfl (z := 192) rfl ?_
      refine own_iload X7 hx hby o20_112 (pc' := 114) rfl rfl ?_
      refine own_bipush X7 hx hby o20_114 (pc' := 116) rfl (z := 6) rfl ?_
      refine own_ishr X7 hx hby o20_116 (pc' := 117) rfl ?_
      refine own_ior X7 hx hby o20_117 (pc' := 118) rfl ?_
      refine own_i2b X7 hx hby o20_118 (pc' := 119) rfl ?_
      refine own_gP X7 hx hby hZ e7 VP (by simp [hdp]; omega) (w := (own_b8 ((192 : Int32) ||| ((f i1) >>> ((6 : Int32) &&& 31))))) (own_nar8 _) (congrArg Int32.ofNat (by simp [hdp])) o20_119 (pc' := 120) rfl ?_
      intro T11 h11 X11 e11 W11 Q11
      have sz12 := Nat.le_trans szl1 (Keep.of_wr W11).1
      replace V1 := V1.other W11 ne_a1_b1
      have be13 := own_xw bel1 W11 le0_b1
      replace VP := Q11
      have N11 := own_fr1 (sl := (out : List Int32).length) N7 n0_b1
      refine own_aload X11 hx hby o20_120 (pc' := 122) rfl rfl rfl ?_
      refine own_iloadN X11 hx hby o20_122 (pc' := 123) rfl rfl ?_
      refine own_iincN X11 hx hby o20_123 (pc' := 126) rfl rfl (Ls' := #[.val (.ref a1), .val (.int (1 : Int32)), .val (.int (Int32.ofNat ((dp + 1) + 1))), .val (.int (Int32.ofNat (i1 + 1))), .val (.int (Int32.ofNat n)), .val (.ref b1), .val (.int (f i1)), u7, u8]) rfl ?_
      refine own_sipush X11 hx hby o20_126 (pc' := 129) rfl (z := 128) rfl ?_
      refine own_iload X11 hx hby o20_129 (pc' := 131) rfl rfl ?_
      refine own_bipush X11 hx hby o20_131 (pc' := 133) rfl (z := 63) rfl ?_
      refine own_iand X11 hx hby o20_133 (pc' := 134) rfl ?_
      refine own_ior X11 hx hby o20_134 (pc' := 135) rfl ?_
      refine own_i2b X11 hx hby o20_135 (pc' := 136) rfl ?_
      refine own_gP X11 hx hby hZ e11 VP (by simp [hdp]; omega) (w := (own_b8 ((128 : Int32) ||| ((f i1) &&& (63 : Int32))))) (own_nar8 _) (congrArg Int32.ofNat (by simp [hdp])) o20_136 (pc' := 137) rfl ?_
      intro T14 h14 X14 e14 W14 Q14
      have sz15 := Nat.le_trans sz12 (Keep.of_wr W14).1
      replace V1 := V1.other W14 ne_a1_b1
      have be16 := own_xw be13 W14 le0_b1
      replace VP := Q14
      have N14 := own_fr1 (sl := ((out ++ [(own_b8 ((192 : Int32) ||| ((f i1) >>> ((6 : Int32) &&& 31))))]) : List Int32).length) N11 n0_b1
      refine own_goto X14 hx hby o20_137 (by decide) (pc' := 352) (by decide) ?_
      refine own_goto X14 hx hby o20_352 (by decide) (pc' := 58) (by decide) ?_
      exact ih1 T14 h14 _ (i1 + 1) (dp + 1 + 1) (((out ++ [(own_b8 ((192 : Int32) ||| ((f i1) >>> ((6 : Int32) &&& 31))))]) ++ [(own_b8 ((128 : Int32) ||| ((f i1) &&& (63 : Int32))))])) ((.val (.int (f i1)))) (u7) (u8) ⟨X14.mono (by decide) (by decide), e14, sz15, N14, be16, (by omega), (by omega), V1, VP, (by simp [hdp]), (by omega), (own_Estep hlt hE (own_cpC (own_nSu h2048)) (own_stp1 (own_lt65 (hcb i1 hlt).2)) (own_put2 (own_nlt0 (hcb i1 hlt).1) h128 h2048) (by simp [List.append_assoc])), (Or.inr ⟨_, rfl, rfl⟩), hu7, hu8⟩
     ·refine own_icmpY X7 hx hby o20_100 (by decide) (pc' := 140) (by decide) (flt h2048).2.1 ?_
      refine own_iload X7 hx hby o20_140 (pc' := 142) rfl rfl ?_
      refine own_callM X7 hx hby hml hZ hown (ow_267 hw) (ow_268 hw) (ow_269 hw) (ow_270 hw) (by decide) (cc := 0) (ss := 0) (rm_isSurrogate l Z a0 hw (f i1) h_1 n0 (Nat.le_trans Z0 szl1)) 0 rfl rfl (by decide) (by decide) rfl (argsL := [(.int (f i1))]) (rest := []) opd_10 rfl rfl (Nat.le_refl _) o20_142 (pc' := 145) rfl rfl e7 (by decide) (by decide) ?_
      rintro v17 T17 h17 L17 X17 e17 ⟨rfl, Nq17, rfl⟩
      have N17 := N7.app Nq17
      by_cases hSu_ : own_Su (f i1)
      ·rw [if_pos hSu_]
       refine own_ifN X17 hx hby o20_145 (pc' := 148) rfl (feq (by decide)).1 ?_
       refine own_iconst X17 hx hby o20_148 (pc' := 149) rfl (z := (-1)) rfl ?_
       refine own_istore X17 hx hby o20_149 (pc' := 151) rfl (Ls' := #[.val (.ref a1), .val (.int (1 : Int32)), .val (.int (Int32.ofNat dp)), .val (.int (Int32.ofNat (i1 + 1))), .val (.int (Int32.ofNat n)), .val (.ref b1), .val (.int (f i1)), .val (.int (-1 : Int32)), u8]) (own_s97 hu7 rfl) ?_
       refine own_iload X17 hx hby o20_151 (pc' := 153) rfl rfl ?_
       refine own_callM X17 hx hby hml hZ hown (ow_273 hw) (ow_274 hw) (ow_269 hw) (ow_275 hw) (by decide) (cc := 0) (ss := 0) (rm_isHighSurrogate l Z a0 hw (f i1) h_1 n0 (Nat.le_trans Z0 szl1)) 0 rfl rfl (by decide) (by decide) rfl (argsL := [(.int (f i1))]) (rest := []) opd_10 rfl rfl (Nat.le_refl _) o20_153 (pc' := 156) rfl rfl e17 (by decide) (by decide) ?_
       rintro v18 T18 h18 L18 X18 e18 ⟨rfl, Nq18, rfl⟩
       have N18 := N17.app Nq18
       by_cases hHi_ : own_Hi (f i1)
       ·rw [if_pos hHi_]
        refine own_ifN X18 hx hby o20_156 (pc' := 159) rfl (feq (by decide)).1 ?_
        refine own_iloadN X18 hx hby o20_159 (pc' := 160) rfl rfl ?_
        refine own_iload X18 hx hby o20_160 (pc' := 162) rfl rfl ?_
        by_cases hb_ : (Int32.ofNat (i1 + 1)) < (Int32.ofNat n)
        ·refine own_icmpN X18 hx hby o20_162 (pc' := 165) rfl (tlt hb_).2.1 ?_
         have hi1 : i1 + 1 < n := (own_ilt (by omega) (by omega)).mp hb_
         refine own_aloadN X18 hx hby o20_165 (pc' := 166) rfl rfl rfl ?_
         refine own_iloadN X18 hx hby o20_166 (pc' := 167) rfl rfl ?_
         refine own_callM X18 hx hby hml hZ hown (ow_266 hw) (ow_258 hw) (ow_236 hw) (ow_259 hw) (by decide) (cc := 0) (ss := 0) (rm_getc l Z a0 hw a1 (f (i1 + 1)) (i1 + 1) (2 * n) g h_1 n0 (Nat.le_trans Z0 szl1) (by omega) (hU (i1 + 1) hi1).1 (hU (i1 + 1) hi1).2 (hcb (i1 + 1) hi1) (S_as.ext bel1) (S_hi.ext bel1) (S_lo.ext bel1) V1) 0 rfl rfl (by decide) (by decide) rfl (argsL := [(.ref a1), (.int (Int32.ofNat (i1 + 1)))]) (rest := []) opd_5 rfl rfl (Nat.le_refl _) o20_167 (pc' := 170) rfl rfl e18 (by decide) (by decide) ?_
         rintro v19 T19 h19 L19 X19 e19 ⟨rfl, Nq19, rfl⟩
         have N19 := N18.app Nq19
         refine own_dup X19 hx hby o20_170 (pc' := 171) rfl rfl ?_
         refine own_istore X19 hx hby o20_171 (pc' := 173) rfl (Ls' := #[.val (.ref a1), .val (.int (1 : Int32)), .val (.int (Int32.ofNat dp)), .val (.int (Int32.ofNat (i1 + 1))), .val (.int (Int32.ofNat n)), .val (.ref b1), .val (.int (f i1)), .val (.int (-1 : Int32)), .val (.int (f (i1 + 1)))]) (own_s98 hu8 rfl) ?_
         refine own_callM X19 hx hby hml hZ hown (ow_277 hw) (ow_278 hw) (ow_269 hw) (ow_279 hw) (by decide) (cc := 0) (ss := 0) (rm_isLowSurrogate l Z a0 hw (f (i1 + 1)) h_1 n0 (Nat.le_trans Z0 szl1)) 0 rfl rfl (by decide) (by decide) rfl (argsL := [(.int (f (i1 + 1)))]) (rest := []) opd_10 rfl rfl (Nat.le_refl _) o20_173 (pc' := 176) rfl rfl e19 (by decide) (by decide) ?_
         rintro v20 T20 h20 L20 X20 e20 ⟨rfl, Nq20, rfl⟩
         have N20 := N19.app Nq20
         by_cases hLo_ : own_Lo (f (i1 + 1))
         ·rw [if_pos hLo_]
          refine own_ifN X20 hx hby o20_176 (pc' := 179) rfl (feq (by decide)).1 ?_
          refine own_iload X20 hx hby o20_179 (pc' := 181) rfl rfl ?_
          refine own_iload X20 hx hby o20_181 (pc' := 183) rfl rfl ?_
          refine own_callM X20 hx hby hml hZ hown (ow_293 hw) (ow_294 hw) (ow_269 hw) (ow_295 hw) (by decide) (cc := 0) (ss := 0) (rm_tcp l Z a0 hw (f i1) (f (i1 + 1)) h_1 n0 (Nat.le_trans Z0 szl1) hHi_) 0 rfl rfl (by decide) (by decide) rfl (argsL := [(.int (f i1)), (.int (f (i1 + 1)))]) (rest := []) opd_11 rfl rfl (Nat.le_refl _) o20_183 (pc' := 186) rfl rfl e20 (by decide) (by decide) ?_
          rintro v21 T21 h21 L21 X21 e21 ⟨rfl, Nq21, rfl⟩
          have N21 := N20.app Nq21
          refine own_istore X21 hx hby o20_186 (pc' := 188) rfl (Ls' := #[.val (.ref a1), .val (.int (1 : Int32)), .val (.int (Int32.ofNat dp)), .val (.int (Int32.ofNat (i1 + 1))), .val (.int (Int32.ofNat n)), .val (.ref b1), .val (.int (f i1)), .val (.int (own_cp2 (f i1) (f (i1 + 1)))), .val (.int (f (i1 + 1)))]) rfl ?_
          refine own_iload X21 hx hby o20_188 (pc' := 190) rfl rfl ?_
          have hcb2 := own_cp2b hHi_ hLo_
          refine own_ifY X21 hx hby o20_190 (by decide) (pc' := 218) (by decide) (flt hcb2.1).2.1 ?_
          refine own_aload X21 hx hby o20_218 (pc' := 220) rfl rfl rfl ?_
          refine own_iloadN X21 hx hby o20_220 (pc' := 221) rfl rfl ?_
          refine own_iincN X21 hx hby o20_221 (pc' := 224) rfl rfl (Ls' := #[.val (.ref a1), .val (.int (1 : Int32)), .val (.int (Int32.ofNat (dp + 1))), .val (.int (Int32.ofNat (i1 + 1))), .val (.int (Int32.ofNat n)), .val (.ref b1), .val (.int (f i1)), .val (.int (own_cp2 (f i1) (f (i1 + 1)))), .val (.int (f (i1 + 1)))]) rfl ?_
          refine own_sipush X21 hx hby o20_224 (pc' := 227) rfl (z := 240) rfl ?_
          refine own_iload X21 hx hby o20_227 (pc' := 229) rfl rfl ?_
          refine own_bipush X21 hx hby o20_229 (pc' := 231) rfl (z := 18) rfl ?_
          refine own_ishr X21 hx hby o20_231 (pc' := 232) rfl ?_
          refine own_ior X21 hx hby o20_232 (pc' := 233) rfl ?_
          refine own_i2b X21 hx hby o20_233 (pc' := 234) rfl ?_
          refine own_gP X21 hx hby hZ e21 VP (by simp [hdp]; omega) (w := (own_b8 ((240 : Int32) ||| ((own_cp2 (f i1) (f (i1 + 1))) >>> ((18 : Int32) &&& 31))))) (own_nar8 _) (congrArg Int32.ofNat (by simp [hdp])) o20_234 (pc' := 235) rfl ?_
          intro T22 h22 X22 e22 W22 Q22
          have sz23 := Nat.le_trans szl1 (Keep.of_wr W22).1
          replace V1 := V1.other W22 ne_a1_b1
          have be24 := own_xw bel1 W22 le0_b1
          replace VP := Q22
          have N22 := own_fr1 (sl := (out : List Int32).length) N21 n0_b1
          refine own_aload X22 hx hby o20_235 (pc' := 237) rfl rfl rfl ?_
          refine own_iloadN X22 hx hby o20_237 (pc' := 238) rfl rfl ?_
          refine own_iincN X22 hx hby o20_238 (pc' := 241) rfl rfl (Ls' := #[.val (.ref a1), .val (.int (1 : Int32)), .val (.int (Int32.ofNat ((dp + 1) + 1))), .val (.int (Int32.ofNat (i1 + 1))), .val (.int (Int32.ofNat n)), .val (.ref b1), .val (.int (f i1)), .val (.int (own_cp2 (f i1) (f (i1 + 1)))), .val (.int (f (i1 + 1)))]) rfl ?_
          refine own_sipush X22 hx hby o20_241 (pc' := 244) rfl (z := 128) rfl ?_
          refine own_iload X22 hx hby o20_244 (pc' := 246) rfl rfl ?_
          refine own_bipush X22 hx hby o20_246 (pc' := 248) rfl (z := 12) rfl ?_
          refine own_ishr X22 hx hby o20_248 (pc' := 249) rfl ?_
          refine own_bipush X22 hx hby o20_249 (pc' := 251) rfl (z := 63) rfl ?_
          refine own_iand X22 hx hby o20_251 (pc' := 252) rfl ?_
          refine own_ior X22 hx hby o20_252 (pc' := 253) rfl ?_
          refine own_i2b X22 hx hby o20_253 (pc' := 254) rfl ?_
          refine own_gP X22 hx hby hZ e22 VP (by simp [hdp]; omega) (w := (own_b8 ((128 : Int32) ||| (((own_cp2 (f i1) (f (i1 + 1))) >>> ((12 : Int32) &&& 31)) &&& (63 : Int32))))) (own_nar8 _) (congrArg Int32.ofNat (by simp [hdp])) o20_254 (pc' := 255) rfl ?_
          intro T25 h25 X25 e25 W25 Q25
          have sz26 := Nat.le_trans sz23 (Keep.of_wr W25).1
          replace V1 := V1.other W25 ne_a1_b1
          have be27 := own_xw be24 W25 le0_b1
          replace VP := Q25
          have N25 := own_fr1 (sl := ((out ++ [(own_b8 ((240 : Int32) ||| ((own_cp2 (f i1) (f (i1 + 1))) >>> ((18 : Int32) &&& 31))))]) : List Int32).length) N22 n0_b1
          refine own_aload X25 hx hby o20_255 (pc' := 257) rfl rfl rfl ?_
          refine own_iloadN X25 hx hby o20_257 (pc' := 258) rfl rfl ?_
          refine own_iincN X25 hx hby o20_258 (pc' := 261) rfl rfl (Ls' := #[.val (.ref a1), .val (.int (1 : Int32)), .val (.int (Int32.ofNat ((dp + 1 + 1) + 1))), .val (.int (Int32.ofNat (i1 + 1))), .val (.int (Int32.ofNat n)), .val (.ref b1), .val (.int (f i1)), .val (.int (own_cp2 (f i1) (f (i1 + 1)))), .val (.int (f (i1 + 1)))]) rfl ?_
          refine own_sipush X25 hx hby o20_261 (pc' := 264) rfl (z := 128) rfl ?_
          refine own_iload X25 hx hby o20_264 (pc' := 266) rfl rfl ?_
          refine own_bipush X25 hx hby o20_266 (pc' := 268) rfl (z := 6) rfl ?_
          refine own_ishr X25 hx hby o20_268 (pc' := 269) rfl ?_
          refine own_bipush X25 hx hby o20_269 (pc' := 271) rfl (z := 63) rfl ?_
          refine own_iand X25 hx hby o20_271 (pc' := 272) rfl ?_
          refine own_ior X25 hx hby o20_272 (pc' := 273) rfl ?_
          refine own_i2b X25 hx hby o20_273 (pc' := 274) rfl ?_
          refine own_gP X25 hx hby hZ e25 VP (by simp [hdp]; omega) (w := (own_b8 ((128 : Int32) ||| (((own_cp2 (f i1) (f (i1 + 1))) >>> ((6 : Int32) &&& 31)) &&& (63 : Int32))))) (own_nar8 _) (congrArg Int32.ofNat (by simp [hdp])) o20_274 (pc' := 275) rfl ?_
          intro T28 h28 X28 e28 W28 Q28
          have sz29 := Nat.le_trans sz26 (Keep.of_wr W28).1
          replace V1 := V1.other W28 ne_a1_b1
          have be30 := own_xw be27 W28 le0_b1
          replace VP := Q28
          have N28 := own_fr1 (sl := (((out ++ [(own_b8 ((240 : Int32) ||| ((own_cp2 (f i1) (f (i1 + 1))) >>> ((18 : Int32) &&& 31))))]) ++ [(own_b8 ((128 : Int32) ||| (((own_cp2 (f i1) (f (i1 + 1))) >>> ((12 : Int32) &&& 31)) &&& (63 : Int32))))]) : List Int32).length) N25 n0_b1
          refine own_aload X28 hx hby o20_275 (pc' := 277) rfl rfl rfl ?_
          refine own_iloadN X28 hx hby o20_277 (pc' := 278) rfl rfl ?_
          refine own_iincN X28 hx hby o20_278 (pc' := 281) rfl rfl (Ls' := #[.val (.ref a1), .val (.int (1 : Int32)), .val (.int (Int32.ofNat ((dp + 1 + 1 + 1) + 1))), .val (.int (Int32.ofNat (i1 + 1))), .val (.int (Int32.ofNat n)), .val (.ref b1), .val (.int (f i1)), .val (.int (own_cp2 (f i1) (f (i1 + 1)))), .val (.int (f (i1 + 1)))]) rfl ?_
          refine own_sipush X28 hx hby o20_281 (pc' := 284) rfl (z := 128) rfl ?_
          refine own_iload X28 hx hby o20_284 (pc' := 286) rfl rfl ?_
          refine own_bipush X28 hx hby o20_286 (pc' := 288) rfl (z := 63) rfl ?_
          refine own_iand X28 hx hby o20_288 (pc' := 289) rfl ?_
          refine own_ior X28 hx hby o20_289 (pc' := 290) rfl ?_
          refine own_i2b X28 hx hby o20_290 (pc' := 291) rfl ?_
          refine own_gP X28 hx hby hZ e28 VP (by simp [hdp]; omega) (w := (own_b8 ((128 : Int32) ||| ((own_cp2 (f i1) (f (i1 + 1))) &&& (63 : Int32))))) (own_nar8 _) (congrArg Int32.ofNat (by simp [hdp])) o20_291 (pc' := 292) rfl ?_
          intro T31 h31 X31 e31 W31 Q31
          have sz32 := Nat.le_trans sz29 (Keep.of_wr W31).1
          replace V1 := V1.other W31 ne_a1_b1
          have be33 := own_xw be30 W31 le0_b1
          replace VP := Q31
          have N31 := own_fr1 (sl := ((((out ++ [(own_b8 ((240 : Int32) ||| ((own_cp2 (f i1) (f (i1 + 1))) >>> ((18 : Int32) &&& 31))))]) ++ [(own_b8 ((128 : Int32) ||| (((own_cp2 (f i1) (f (i1 + 1))) >>> ((12 : Int32) &&& 31)) &&& (63 : Int32))))]) ++ [(own_b8 ((128 : Int32) ||| (((own_cp2 (f i1) (f (i1 + 1))) >>> ((6 : Int32) &&& 31)) &&& (63 : Int32))))]) : List Int32).length) N28 n0_b1
          refine own_iincN X31 hx hby o20_292 (pc' := 295) rfl rfl (Ls' := #[.val (.ref a1), .val (.int (1 : Int32)), .val (.int (Int32.ofNat ((dp + 1 + 1 + 1) + 1))), .val (.int (Int32.ofNat ((i1 + 1) + 1))), .val (.int (Int32.ofNat n)), .val (.ref b1), .val (.int (f i1)), .val (.int (own_cp2 (f i1) (f (i1 + 1)))), .val (.int (f (i1 + 1)))]) rfl ?_
          refine own_goto X31 hx hby o20_295 (by decide) (pc' := 352) (by decide) ?_
          refine own_goto X31 hx hby o20_352 (by decide) (pc' := 58) (by decide) ?_
          exact ih1 T31 h31 _ (i1 + 1 + 1) (dp + 1 + 1 + 1 + 1) (((((out ++ [(own_b8 ((240 : Int32) ||| ((own_cp2 (f i1) (f (i1 + 1))) >>> ((18 : Int32) &&& 31))))]) ++ [(own_b8 ((128 : Int32) ||| (((own_cp2 (f i1) (f (i1 + 1))) >>> ((12 : Int32) &&& 31)) &&& (63 : Int32))))]) ++ [(own_b8 ((128 : Int32) ||| (((own_cp2 (f i1) (f (i1 + 1))) >>> ((6 : Int32) &&& 31)) &&& (63 : Int32))))]) ++ [(own_b8 ((128 : Int32) ||| ((own_cp2 (f i1) (f (i1 + 1))) &&& (63 : Int32))))])) ((.val (.int (f i1)))) ((.val (.int (own_cp2 (f i1) (f (i1 + 1)))))) ((.val (.int (f (i1 + 1))))) ⟨X31.mono (by decide) (by decide), e31, sz32, N31, be33, (by omega), (by omega), V1, VP, (by simp [hdp]), (by omega), (own_Estep hlt hE (own_cpA hHi_ hi1 hLo_) (own_stp2 hcb2.2.2.2) (own_put4 hcb2.1 hcb2.2.1 hcb2.2.2.1 hcb2.2.2.2) (by simp [List.append_assoc])), (Or.inr ⟨_, rfl, rfl⟩), (Or.inr ⟨_, rfl, rfl⟩), (Or.inr ⟨_, rfl, rfl⟩)⟩
         ·rw [if_neg hLo_]
          refine own_ifY X20 hx hby o20_176 (by decide) (pc' := 188) (by decide) (teq rfl).1 ?_
          refine own_iload X20 hx hby o20_188 (pc' := 190) rfl rfl ?_
          refine own_ifN X20 hx hby o20_190 (pc' := 193) rfl (tlt (by decide)).2.1 ?_
          refine own_iloadN X20 hx hby o20_193 (pc' := 194) rfl rfl ?_
          refine own_ifN X20 hx hby o20_194 (pc' := 197) rfl (feq (by decide)).1 ?_
          refine own_aload X20 hx hby o20_197 (pc' := 199) rfl rfl rfl ?_
          refine own_iloadN X20 hx hby o20_199 (pc' := 200) rfl rfl ?_
          refine own_iincN X20 hx hby o20_200 (pc' := 203) rfl rfl (Ls' := #[.val (.ref a1), .val (.int (1 : Int32)), .val (.int (Int32.ofNat (dp + 1))), .val (.int (Int32.ofNat (i1 + 1))), .val (.int (Int32.ofNat n)), .val (.ref b1), .val (.int (f i1)), .val (.int (-1 : Int32)), .val (.int (f (i1 + 1)))]) rfl ?_
          refine own_bipush X20 hx hby o20_203 (pc' := 205) rfl (z := 63) rfl ?_
          refine own_gP X20 hx hby hZ e20 VP (by simp [hdp]; omega) (w := (63 : Int32)) rfl (congrArg Int32.ofNat (by simp [hdp])) o20_205 (pc' := 206) rfl ?_
          intro T34 h34 X34 e34 W34 Q34
          have sz35 := Nat.le_trans szl1 (Keep.of_wr W34).1
          replace V1 := V1.other W34 ne_a1_b1
          have be36 := own_xw bel1 W34 le0_b1
          replace VP := Q34
          have N34 := own_fr1 (sl := (out : List Int32).length) N20 n0_b1
          refine own_goto X34 hx hby o20_206 (by decide) (pc' := 295) (by decide) ?_
          refine own_goto X34 hx hby o20_295 (by decide) (pc' := 352) (by decide) ?_
          refine own_goto X34 hx hby o20_352 (by decide) (pc' := 58) (by decide) ?_
          exact ih1 T34 h34 _ (i1 + 1) (dp + 1) ((out ++ [(63 : Int32)])) ((.val (.int (f i1)))) ((.val (.int (-1 : Int32)))) ((.val (.int (f (i1 + 1))))) ⟨X34.mono (by decide) (by decide), e34, sz35, N34, be36, (by omega), (by omega), V1, VP, (by simp [hdp]), (by omega), (own_Estep hlt hE (own_cpB (fun q => hLo_ q.2.2) hSu_) (own_stp1 (by decide)) (own_put0 (by decide)) (by simp [List.append_assoc])), (Or.inr ⟨_, rfl, rfl⟩), (Or.inr ⟨_, rfl, rfl⟩), (Or.inr ⟨_, rfl, rfl⟩)⟩
        ·refine own_icmpY X18 hx hby o20_162 (by decide) (pc' := 188) (by decide) (flt hb_).2.1 ?_
         refine own_iload X18 hx hby o20_188 (pc' := 190) rfl rfl ?_
         refine own_ifN X18 hx hby o20_190 (pc' := 193) rfl (tlt (by decide)).2.1 ?_
         refine own_iloadN X18 hx hby o20_193 (pc' := 194) rfl rfl ?_
         refine own_ifN X18 hx hby o20_194 (pc' := 197) rfl (feq (by decide)).1 ?_
         refine own_aload X18 hx hby o20_197 (pc' := 199) rfl rfl rfl ?_
         refine own_iloadN X18 hx hby o20_199 (pc' := 200) rfl rfl ?_
         refine own_iincN X18 hx hby o20_200 (pc' := 203) rfl rfl (Ls' := #[.val (.ref a1), .val (.int (1 : Int32)), .val (.int (Int32.ofNat (dp + 1))), .val (.int (Int32.ofNat (i1 + 1))), .val (.int (Int32.ofNat n)), .val (.ref b1), .val (.int (f i1)), .val (.int (-1 : Int32)), u8]) rfl ?_
         refine own_bipush X18 hx hby o20_203 (pc' := 205) rfl (z := 63) rfl ?_
         refine own_gP X18 hx hby hZ e18 VP (by simp [hdp]; omega) (w := (63 : Int32)) rfl (congrArg Int32.ofNat (by simp [hdp])) o20_205 (pc' := 206) rfl ?_
         intro T37 h37 X37 e37 W37 Q37
         have sz38 := Nat.le_trans szl1 (Keep.of_wr W37).1
         replace V1 := V1.other W37 ne_a1_b1
         have be39 := own_xw bel1 W37 le0_b1
         replace VP := Q37
         have N37 := own_fr1 (sl := (out : List Int32).length) N18 n0_b1
         refine own_goto X37 hx hby o20_206 (by decide) (pc' := 295) (by decide) ?_
         refine own_goto X37 hx hby o20_295 (by decide) (pc' := 352) (by decide) ?_
         refine own_goto X37 hx hby o20_352 (by decide) (pc' := 58) (by decide) ?_
         exact ih1 T37 h37 _ (i1 + 1) (dp + 1) ((out ++ [(63 : Int32)])) ((.val (.int (f i1)))) ((.val (.int (-1 : Int32)))) (u8) ⟨X37.mono (by decide) (by decide), e37, sz38, N37, be39, (by omega), (by omega), V1, VP, (by simp [hdp]), (by omega), (own_Estep hlt hE (own_cpB (fun q => hb_ ((own_ilt (by omega) (by omega)).mpr q.2.1)) hSu_) (own_stp1 (by decide)) (own_put0 (by decide)) (by simp [List.append_assoc])), (Or.inr ⟨_, rfl, rfl⟩), (Or.inr ⟨_, rfl, rfl⟩), hu8⟩
       ·rw [if_neg hHi_]
        refine own_ifY X18 hx hby o20_156 (by decide) (pc' := 188) (by decide) (teq rfl).1 ?_
        refine own_iload X18 hx hby o20_188 (pc' := 190) rfl rfl ?_
        refine own_ifN X18 hx hby o20_190 (pc' := 193) rfl (tlt (by decide)).2.1 ?_
        refine own_iloadN X18 hx hby o20_193 (pc' := 194) rfl rfl ?_
        refine own_ifN X18 hx hby o20_194 (pc' := 197) rfl (feq (by decide)).1 ?_
        refine own_aload X18 hx hby o20_197 (pc' := 199) rfl rfl rfl ?_
        refine own_iloadN X18 hx hby o20_199 (pc' := 200) rfl rfl ?_
        refine own_iincN X18 hx hby o20_200 (pc' := 203) rfl rfl (Ls' := #[.val (.ref a1), .val (.int (1 : Int32)), .val (.int (Int32.ofNat (dp + 1))), .val (.int (Int32.ofNat (i1 + 1))), .val (.int (Int32.ofNat n)), .val (.ref b1), .val (.int (f i1)), .val (.int (-1 : Int32)), u8]) rfl ?_
        refine own_bipush X18 hx hby o20_203 (pc' := 205) rfl (z := 63) rfl ?_
        refine own_gP X18 hx hby hZ e18 VP (by simp [hdp]; omega) (w := (63 : Int32)) rfl (congrArg Int32.ofNat (by simp [hdp])) o20_205 (pc' := 206) rfl ?_
        intro T40 h40 X40 e40 W40 Q40
        have sz41 := Nat.le_trans szl1 (Keep.of_wr W40).1
        replace V1 := V1.other W40 ne_a1_b1
        have be42 := own_xw bel1 W40 le0_b1
        replace VP := Q40
        have N40 := own_fr1 (sl := (out : List Int32).length) N18 n0_b1
        refine own_goto X40 hx hby o20_206 (by decide) (pc' := 295) (by decide) ?_
        refine own_goto X40 hx hby o20_295 (by decide) (pc' := 352) (by decide) ?_
        refine own_goto X40 hx hby o20_352 (by decide) (pc' := 58) (by decide) ?_
        exact ih1 T40 h40 _ (i1 + 1) (dp + 1) ((out ++ [(63 : Int32)])) ((.val (.int (f i1)))) ((.val (.int (-1 : Int32)))) (u8) ⟨X40.mono (by decide) (by decide), e40, sz41, N40, be42, (by omega), (by omega), V1, VP, (by simp [hdp]), (by omega), (own_Estep hlt hE (own_cpB (fun q => hHi_ q.1) hSu_) (own_stp1 (by decide)) (own_put0 (by decide)) (by simp [List.append_assoc])), (Or.inr ⟨_, rfl, rfl⟩), (Or.inr ⟨_, rfl, rfl⟩), hu8⟩
      ·rw [if_neg hSu_]
       refine own_ifY X17 hx hby o20_145 (by decide) (pc' := 298) (by decide) (teq rfl).1 ?_
       refine own_aload X17 hx hby o20_298 (pc' := 300) rfl rfl rfl ?_
       refine own_iloadN X17 hx hby o20_300 (pc' := 301) rfl rfl ?_
       refine own_iincN X17 hx hby o20_301 (pc' := 304) rfl rfl (Ls' := #[.val (.ref a1), .val (.int (1 : Int32)), .val (.int (Int32.ofNat (dp + 1))), .val (.int (Int32.ofNat (i1 + 1))), .val (.int (Int32.ofNat n)), .val (.ref b1), .val (.int (f i1)), u7, u8]) rfl ?_
       refine own_sipush X17 hx hby o20_304 (pc' := 307) rfl (z := 224) rfl ?_
       refine own_iload X17 hx hby o20_307 (pc' := 309) rfl rfl ?_
       refine own_bipush X17 hx hby o20_309 (pc' := 311) rfl (z := 12) rfl ?_
       refine own_ishr X17 hx hby o20_311 (pc' := 312) rfl ?_
       refine own_ior X17 hx hby o20_312 (pc' := 313) rfl ?_
       refine own_i2b X17 hx hby o20_313 (pc' := 314) rfl ?_
       refine own_gP X17 hx hby hZ e17 VP (by simp [hdp]; omega) (w := (own_b8 ((224 : Int32) ||| ((f i1) >>> ((12 : Int32) &&& 31))))) (own_nar8 _) (congrArg Int32.ofNat (by simp [hdp])) o20_314 (pc' := 315) rfl ?_
       intro T43 h43 X43 e43 W43 Q43
       have sz44 := Nat.le_trans szl1 (Keep.of_wr W43).1
       replace V1 := V1.other W43 ne_a1_b1
       have be45 := own_xw bel1 W43 le0_b1
       replace VP := Q43
       have N43 := own_fr1 (sl := (out : List Int32).length) N17 n0_b1
       refine own_aload X43 hx hby o20_315 (pc' := 317) rfl rfl rfl ?_
       refine own_iloadN X43 hx hby o20_317 (pc' := 318) rfl rfl ?_
       refine own_iincN X43 hx hby o20_318 (pc' := 321) rfl rfl (Ls' := #[.val (.ref a1), .val (.int (1 : Int32)), .val (.int (Int32.ofNat ((dp + 1) + 1))), .val (.int (Int32.ofNat (i1 + 1))), .val (.int (Int32.ofNat n)), .val (.ref b1), .val (.int (f i1)), u7, u8]) rfl ?_
       refine own_sipush X43 hx hby o20_321 (pc' := 324) rfl (z := 128) rfl ?_
       refine own_iload X43 hx hby o20_324 (pc' := 326) rfl rfl ?_
       refine own_bipush X43 hx hby o20_326 (pc' := 328) rfl (z := 6) rfl ?_
       refine own_ishr X43 hx hby o20_328 (pc' := 329) rfl ?_
       refine own_bipush X43 hx hby o20_329 (pc' := 331) rfl (z := 63) rfl ?_
       refine own_iand X43 hx hby o20_331 (pc' := 332) rfl ?_
       refine own_ior X43 hx hby o20_332 (pc' := 333) rfl ?_
       refine own_i2b X43 hx hby o20_333 (pc' := 334) rfl ?_
       refine own_gP X43 hx hby hZ e43 VP (by simp [hdp]; omega) (w := (own_b8 ((128 : Int32) ||| (((f i1) >>> ((6 : Int32) &&& 31)) &&& (63 : Int32))))) (own_nar8 _) (congrArg Int32.ofNat (by simp [hdp])) o20_334 (pc' := 335) rfl ?_
       intro T46 h46 X46 e46 W46 Q46
       have sz47 := Nat.le_trans sz44 (Keep.of_wr W46).1
       replace V1 := V1.other W46 ne_a1_b1
       have be48 := own_xw be45 W46 le0_b1
       replace VP := Q46
       have N46 := own_fr1 (sl := ((out ++ [(own_b8 ((224 : Int32) ||| ((f i1) >>> ((12 : Int32) &&& 31))))]) : List Int32).length) N43 n0_b1
       refine own_aload X46 hx hby o20_335 (pc' := 337) rfl rfl rfl ?_
       refine own_iloadN X46 hx hby o20_337 (pc' := 338) rfl rfl ?_
       refine own_iincN X46 hx hby o20_338 (pc' := 341) rfl rfl (Ls' := #[.val (.ref a1), .val (.int (1 : Int32)), .val (.int (Int32.ofNat ((dp + 1 + 1) + 1))), .val (.int (Int32.ofNat (i1 + 1))), .val (.int (Int32.ofNat n)), .val (.ref b1), .val (.int (f i1)), u7, u8]) rfl ?_
       refine own_sipush X46 hx hby o20_341 (pc' := 344) rfl (z := 128) rfl ?_
       refine own_iload X46 hx hby o20_344 (pc' := 346) rfl rfl ?_
       refine own_bipush X46 hx hby o20_346 (pc' := 348) rfl (z := 63) rfl ?_
       refine own_iand X46 hx hby o20_348 (pc' := 349) rfl ?_
       refine own_ior X46 hx hby o20_349 (pc' := 350) rfl ?_
       refine own_i2b X46 hx hby o20_350 (pc' := 351) rfl ?_
       refine own_gP X46 hx hby hZ e46 VP (by simp [hdp]; omega) (w := (own_b8 ((128 : Int32) ||| ((f i1) &&& (63 : Int32))))) (own_nar8 _) (congrArg Int32.ofNat (by simp [hdp])) o20_351 (pc' := 352) rfl ?_
       intro T49 h49 X49 e49 W49 Q49
       have sz50 := Nat.le_trans sz47 (Keep.of_wr W49).1
       replace V1 := V1.other W49 ne_a1_b1
       have be51 := own_xw be48 W49 le0_b1
       replace VP := Q49
       have N49 := own_fr1 (sl := (((out ++ [(own_b8 ((224 : Int32) ||| ((f i1) >>> ((12 : Int32) &&& 31))))]) ++ [(own_b8 ((128 : Int32) ||| (((f i1) >>> ((6 : Int32) &&& 31)) &&& (63 : Int32))))]) : List Int32).length) N46 n0_b1
       refine own_goto X49 hx hby o20_352 (by decide) (pc' := 58) (by decide) ?_
       exact ih1 T49 h49 _ (i1 + 1) (dp + 1 + 1 + 1) ((((out ++ [(own_b8 ((224 : Int32) ||| ((f i1) >>> ((12 : Int32) &&& 31))))]) ++ [(own_b8 ((128 : Int32) ||| (((f i1) >>> ((6 : Int32) &&& 31)) &&& (63 : Int32))))]) ++ [(own_b8 ((128 : Int32) ||| ((f i1) &&& (63 : Int32))))])) ((.val (.int (f i1)))) (u7) (u8) ⟨X49.mono (by decide) (by decide), e49, sz50, N49, be51, (by omega), (by omega), V1, VP, (by simp [hdp]), (by omega), (own_Estep hlt hE (own_cpC hSu_) (own_stp1 (own_lt65 (hcb i1 hlt).2)) (own_put3 (own_nlt0 (hcb i1 hlt).1) h128 h2048 (own_lt65 (hcb i1 hlt).2)) (by simp [List.append_assoc])), (Or.inr ⟨_, rfl, rfl⟩), hu7, hu8⟩
   ·refine own_icmpY Xl1 hx hby o20_61 (by decide) (pc' := 355) (by decide) (flt (by rw [own_ilt (by omega) (by omega)]; exact hlt)).2.1 ?_
    have hin' : i1 = n := by omega
    have hEo : out = (own_Ec f n 0) := by rw [hin', own_Ec_end (Nat.lt_irrefl n), List.append_nil] at hE; exact hE
    refine own_iloadN Xl1 hx hby o20_355 (pc' := 356) rfl rfl ?_
    refine own_aload Xl1 hx hby o20_356 (pc' := 358) rfl rfl rfl ?_
    refine own_lP Xl1 hx hby hZ el1 VP o20_358 (pc' := 359) rfl ?_
    by_cases hq_ : (Int32.ofNat dp) = (Int32.ofNat (3 * n))
    ·refine own_icmpN Xl1 hx hby o20_359 (pc' := 362) rfl (teq hq_).2 ?_
     refine own_aload Xl1 hx hby o20_362 (pc' := 364) rfl rfl rfl ?_
     have h3n : dp = 3 * n := own_inj (by omega) (by omega) hq_
     have VB : own_Bl Z h_1 b1 out := own_Pre.full (by rw [hdp, h3n]; exact VP)
     exact own_retA Xl1 hx hby hlk hrt rfl rfl o20_364 (by first | exact ⟨b1, rfl, le0_b1, bel1, Nl1, hEo ▸ VB⟩ | (rw [el1]; exact ⟨b1, rfl, le0_b1, bel1, Nl1, hEo ▸ VB⟩)) (by decide) (by decide)
    ·refine own_icmpY Xl1 hx hby o20_359 (by decide) (pc' := 365) (by decide) (feq hq_).2 ?_
     refine own_aload Xl1 hx hby o20_365 (pc' := 367) rfl rfl rfl ?_
     refine own_iloadN Xl1 hx hby o20_367 (pc' := 368) rfl rfl ?_
     refine own_callM Xl1 hx hby hml hZ hown (ow_280 hw) (ow_281 hw) (ow_204 hw) (ow_282 hw) (by decide) (cc := 1) (ss := 24) (rm_cpo l Z a0 hw b1 (3 * n) dp out h_1 n0 (Nat.le_trans Z0 szl1) hdp (Nat.lt_of_le_of_ne (hdp ▸ VP.len) (fun q => hq_ (by rw [q]))) (by omega) VP) 0 rfl rfl (by decide) (by decide) rfl (argsL := [(.ref b1), (.int (Int32.ofNat dp))]) (rest := []) opd_9 rfl rfl (Nat.le_refl _) o20_368 (pc' := 371) rfl rfl el1 (by decide) (by decide) ?_
     rintro v52 T52 h52 L52 X52 e52 ⟨bc, rfl, lb52, Eq52, Nq52, VB⟩
     have ne_a1_bc : a1 ≠ bc := Nat.ne_of_lt (Nat.lt_of_lt_of_le V1.lt lb52)
     have ne_b1_bc : b1 ≠ bc := Nat.ne_of_lt (Nat.lt_of_lt_of_le VP.lt lb52)
     have n0_bc : n0 ≤ bc := Nat.le_trans (Nat.le_trans Z0 szl1) lb52
     have le0_bc : h0.size ≤ bc := Nat.le_trans szl1 lb52
     have N52 := Nl1.app Nq52
     have sz53 := Nat.le_trans szl1 Eq52.1
     replace V1 := V1.ext Eq52
     replace VP := VP.ext Eq52
     have be54 := own_xt bel1 Eq52
     exact own_retA X52 hx hby hlk hrt rfl rfl o20_371 (by first | exact ⟨bc, rfl, le0_bc, be54, N52, hEo ▸ VB⟩ | (rw [e52]; exact ⟨bc, rfl, le0_bc, be54, N52, hEo ▸ VB⟩)) (by decide) (by decide)
 ·intro J55
  refine own_join (α := (Nat) × (State) × (Heap) × (List Loc) × (Nat) × (Nat) × (List Int32) × (Slot)) (F := fun z => z.2.1.setTop (mkF m 18 #[.val (.ref a1), .val (.int (1 : Int32)), .val (.int (Int32.ofNat z.2.2.2.2.2.1)), .val (.int (Int32.ofNat z.2.2.2.2.1)), .val (.int (Int32.ofNat n)), .val (.ref b1), z.2.2.2.2.2.2.2, .unset, .unset] [])) (P := fun z => Stand p l e ({ frames := 2, cells := 2, slots := 48, locals := 54 } : Room) s m #[(.ref a1), (.int (1 : Int32))] below meth c z.2.1 z.2.2.2.1 1 24 ∧ z.2.1.heap = z.2.2.1 ∧ h0.size ≤ z.2.2.1.size ∧ Fr n0 z.2.2.2.1 ∧ Ext h0 z.2.2.1 ∧ (z.2.2.2.2.1 + z.1 = n) ∧ (own_Fa Z z.2.2.1 a1 .byte "[B" (fun _ => True) (2 * n) (fun y_ => .int (g y_))) ∧ (own_Pre Z z.2.2.1 b1 (3 * n) z.2.2.2.2.2.2.1) ∧ (z.2.2.2.2.2.2.1.length = z.2.2.2.2.2.1) ∧ (z.2.2.2.2.2.1 ≤ 3 * z.2.2.2.2.1) ∧ (z.2.2.2.2.2.2.1 ++ own_Ec f n z.2.2.2.2.1 = (own_Ec f n 0)) ∧ (own_s1 z.2.2.2.2.2.2.2)) ?_ ?_
  ·rintro ⟨k9, T_9, h_9, L_9, i1, dp, out, u6⟩ hP
   dsimp only at hP ⊢
   revert hP
   induction k9 generalizing T_9 h_9 L_9 i1 dp out u6 with
   | zero =>
    rintro ⟨Xl9, el9, szl9, Nl9, bel9, hik, V1, VP, hdp, hd3, hE, hu6⟩
    refine own_iloadN Xl9 hx hby o20_18 (pc' := 19) rfl rfl ?_
    refine own_iload Xl9 hx hby o20_19 (pc' := 21) rfl rfl ?_
    refine own_icmpY Xl9 hx hby o20_21 (by decide) (pc' := 58) (by decide) (flt (by rw [own_ilt (by omega) (by omega)]; omega)).2.1 ?_
    have hq1_ : n ≤ i1 + n := by omega
    have hq2_ : i1 ≤ n := by omega
    exact J55 (n, T_9, h_9, _, i1, dp, out, u6, .unset, .unset) ⟨Xl9.mono (by decide) (by decide), el9, szl9, Nl9, bel9, hq1_, hq2_, V1, VP, hdp, hd3, hE, hu6, (Or.inl rfl), (Or.inl rfl)⟩
   | succ k9 ih9 =>
    rintro ⟨Xl9, el9, szl9, Nl9, bel9, hik, V1, VP, hdp, hd3, hE, hu6⟩
    have hlt : i1 < n := by omega
    refine own_iloadN Xl9 hx hby o20_18 (pc' := 19) rfl rfl ?_
    refine own_iload Xl9 hx hby o20_19 (pc' := 21) rfl rfl ?_
    refine own_icmpN Xl9 hx hby o20_21 (pc' := 24) rfl (tlt ((own_ilt (by omega) (by omega)).mpr hlt)).2.1 ?_
    refine own_aloadN Xl9 hx hby o20_24 (pc' := 25) rfl rfl rfl ?_
    refine own_iloadN Xl9 hx hby o20_25 (pc' := 26) rfl rfl ?_
    refine own_callM Xl9 hx hby hml hZ hown (ow_266 hw) (ow_258 hw) (ow_236 hw) (ow_259 hw) (by decide) (cc := 0) (ss := 0) (rm_getc l Z a0 hw a1 (f i1) i1 (2 * n) g h_9 n0 (Nat.le_trans Z0 szl9) (by omega) (hU i1 hlt).1 (hU i1 hlt).2 (hcb i1 hlt) (S_as.ext bel9) (S_hi.ext bel9) (S_lo.ext bel9) V1) 0 rfl rfl (by decide) (by decide) rfl (argsL := [(.ref a1), (.int (Int32.ofNat i1))]) (rest := []) opd_5 rfl rfl (Nat.le_refl _) o20_26 (pc' := 29) rfl rfl el9 (by decide) (by decide) ?_
    rintro v56 T56 h56 L56 X56 e56 ⟨rfl, Nq56, rfl⟩
    have N56 := Nl9.app Nq56
    refine own_istore X56 hx hby o20_29 (pc' := 31) rfl (Ls' := #[.val (.ref a1), .val (.int (1 : Int32)), .val (.int (Int32.ofNat dp)), .val (.int (Int32.ofNat i1)), .val (.int (Int32.ofNat n)), .val (.ref b1), .val (.int (f i1)), .unset, .unset]) (own_s96 hu6 rfl) ?_
    refine own_iload X56 hx hby o20_31 (pc' := 33) rfl rfl ?_
    refine own_sipush X56 hx hby o20_33 (pc' := 36) rfl (z := 128) rfl ?_
    by_cases h128 : (f i1) < (128 : Int32)
    ·refine own_icmpY X56 hx hby o20_36 (by decide) (pc' := 42) (by decide) (tlt h128).1 ?_
     refine own_aload X56 hx hby o20_42 (pc' := 44) rfl rfl rfl ?_
     refine own_iloadN X56 hx hby o20_44 (pc' := 45) rfl rfl ?_
     refine own_iincN X56 hx hby o20_45 (pc' := 48) rfl rfl (Ls' := #[.val (.ref a1), .val (.int (1 : Int32)), .val (.int (Int32.ofNat (dp + 1))), .val (.int (Int32.ofNat i1)), .val (.int (Int32.ofNat n)), .val (.ref b1), .val (.int (f i1)), .unset, .unset]) rfl ?_
     refine own_iload X56 hx hby o20_48 (pc' := 50) rfl rfl ?_
     refine own_i2b X56 hx hby o20_50 (pc' := 51) rfl ?_
     refine own_gP X56 hx hby hZ e56 VP (by simp [hdp]; omega) (w := (own_b8 (f i1))) (own_nar8 _) (congrArg Int32.ofNat (by simp [hdp])) o20_51 (pc' := 52) rfl ?_
     intro T57 h57 X57 e57 W57 Q57
     have sz58 := Nat.le_trans szl9 (Keep.of_wr W57).1
     replace V1 := V1.other W57 ne_a1_b1
     have be59 := own_xw bel9 W57 le0_b1
     replace VP := Q57
     have N57 := own_fr1 (sl := (out : List Int32).length) N56 n0_b1
     refine own_iincN X57 hx hby o20_52 (pc' := 55) rfl rfl (Ls' := #[.val (.ref a1), .val (.int (1 : Int32)), .val (.int (Int32.ofNat (dp + 1))), .val (.int (Int32.ofNat (i1 + 1))), .val (.int (Int32.ofNat n)), .val (.ref b1), .val (.int (f i1)), .unset, .unset]) rfl ?_
     refine own_goto X57 hx hby o20_55 (by decide) (pc' := 18) (by decide) ?_
     exact ih9 T57 h57 _ (i1 + 1) (dp + 1) ((out ++ [(own_b8 (f i1))])) (.val (.int (f i1))) ⟨X57.mono (by decide) (by decide), e57, sz58, N57, be59, (by omega), V1, VP, (by simp [hdp]), (by omega), (own_Estep hlt hE (own_cpC (own_nSu (own_n128 h128))) (own_stp1 (own_lt65 (hcb i1 hlt).2)) (own_put1 (own_nlt0 (hcb i1 hlt).1) h128) (by simp)), (Or.inr ⟨_, rfl, rfl⟩)⟩
    ·refine own_icmpN X56 hx hby o20_36 (pc' := 39) rfl (flt h128).1 ?_
     refine own_goto X56 hx hby o20_39 (by decide) (pc' := 58) (by decide) ?_
     have hq1_ : n ≤ i1 + n := by omega
     have hq2_ : i1 ≤ n := by omega
     exact J55 (n, T56, h_9, _, i1, dp, out, (.val (.int (f i1))), .unset, .unset) ⟨X56.mono (by decide) (by decide), e56, szl9, N56, bel9, hq1_, hq2_, V1, VP, hdp, hd3, hE, (Or.inr ⟨_, rfl, rfl⟩), (Or.inl rfl), (Or.inl rfl)⟩
  ·intro J60
   exact J60 (n, T1, h1, _, 0, 0, [], .unset) ⟨X1.mono (by decide) (by decide), e1, sz2, N0, be3, (Nat.zero_add _), V1, VP, rfl, (Nat.zero_le _), rfl, (Or.inl rfl)⟩
theorem ef_rm_e8u (m : MethodId) (x0 : Int32) (x1 : Addr) (x2 : Int32) : entryFrame m #[(.int x0), (.ref x1), (.int x2)] 9 = mkF m 0 #[.val (.int x0), .val (.ref x1), .val (.int x2), .unset, .unset, .unset, .unset, .unset, .unset] [] := by first | (simp [entryFrame, mkF, argsToLocals, Value.category]; done) | rfl
set_option maxRecDepth 65536 in
set_option maxHeartbeats 40000000 in
theorem rm_e8u (l : Launch) (Z : State) (a0 : Array Value) (hw : ∀ d ∈ tables_1, d.before a0 Z = true) (a1 : Addr) (n : Nat) (f g : Nat → Int32) (h0 : Heap) (n0 : Nat) (Z0 : n0 ≤ h0.size) (hn : n ≤ 8) (hcb : own_Cb f n) (hU : own_U f n g) (S_as : Sta Z h0 "java/lang/StringUTF16" "$assertionsDisabled" "Z" (.int (1 : Int32))) (S_hi : Sta Z h0 "java/lang/StringUTF16" "HI_BYTE_SHIFT" "I" (.int (0 : Int32))) (S_lo : Sta Z h0 "java/lang/StringUTF16" "LO_BYTE_SHIFT" "I" (.int (8 : Int32))) (V1 : own_Fa Z h0 a1 .byte "[B" (fun _ => True) (2 * n) (fun y_ => .int (g y_))) :
  own_Met l Z (⟨"java/lang/String", "encodeUTF8", "(B[BZ)[B"⟩ : MethodName) jdk_42_method_46_code 9 (some (.array .byte)) ({ frames := 3, cells := 2, slots := 48, locals := 74 } : Room) #[(.int (1 : Int32)), (.ref a1), (.int (1 : Int32))] h0 (fun v h L => ∃ b : Addr, v = some (.ref b) ∧ h0.size ≤ b ∧ Ext h0 h ∧ Fr n0 L ∧ own_Bl Z h b (own_Ec f n 0)) := by
 refine own_body (plainFor_of_name (by first | (simp [plainName, overriddenIn]; done) | decide +kernel)) ?_
 intro p e s m below meth c s₁ hx hby hml hown hnm hlk hrt hZ X0 e0
 refine own_enter (ef_rm_e8u m (1 : Int32) a1 (1 : Int32)) ?_
 have N0 := Fr.nil n0
 refine own_iloadN X0 hx hby o21_0 (pc' := 1) rfl rfl ?_
 refine own_iconst X0 hx hby o21_1 (pc' := 2) rfl (z := 1) rfl ?_
 refine own_icmpN X0 hx hby o21_2 (pc' := 5) rfl (teq rfl).2 ?_
 refine own_aloadN X0 hx hby o21_5 (pc' := 6) rfl rfl rfl ?_
 refine own_iloadN X0 hx hby o21_6 (pc' := 7) rfl rfl ?_
 refine own_callM X0 hx hby hml hZ hown (ow_263 hw) (ow_264 hw) (ow_9 hw) (ow_265 hw) (by decide) (cc := 2) (ss := 48) (rm_eu16 l Z a0 hw a1 n f g h0 n0 Z0 hn hcb hU S_as S_hi S_lo V1) 0 rfl rfl (by decide) (by decide) rfl (argsL := [(.ref a1), (.int (1 : Int32))]) (rest := []) opd_12 rfl rfl (Nat.le_refl _) o21_7 (pc' := 10) rfl rfl e0 (by decide) (by decide) ?_
 rintro v1 T1 h1 L1 X1 e1 ⟨bc, rfl, lb1, Eq1, Nq1, VB⟩
 have ne_a1_bc : a1 ≠ bc := Nat.ne_of_lt (Nat.lt_of_lt_of_le V1.lt lb1)
 have n0_bc : n0 ≤ bc := Nat.le_trans Z0 lb1
 have le0_bc : h0.size ≤ bc := Nat.le_trans (Nat.le_refl _) lb1
 have N1 := N0.app Nq1
 have sz2 := Nat.le_trans (Nat.le_refl _) Eq1.1
 replace V1 := V1.ext Eq1
 have be3 := own_xt own_xr Eq1
 exact own_retA X1 hx hby hlk hrt rfl rfl o21_10 (by first | exact ⟨bc, rfl, le0_bc, be3, N1, VB⟩ | (rw [e1]; exact ⟨bc, rfl, le0_bc, be3, N1, VB⟩)) (by decide) (by decide)
theorem ef_rm_e8l (m : MethodId) (x0 : Int32) (x1 : Addr) (x2 : Int32) : entryFrame m #[(.int x0), (.ref x1), (.int x2)] 9 = mkF m 0 #[.val (.int x0), .val (.ref x1), .val (.int x2), .unset, .unset, .unset, .unset, .unset, .unset] [] := by first | (simp [entryFrame, mkF, argsToLocals, Value.category]; done) | rfl
set_option maxRecDepth 65536 in
set_option maxHeartbeats 40000000 in
theorem rm_e8l (l : Launch) (Z : State) (a0 : Array Value) (hw : ∀ d ∈ tables_1, d.before a0 Z = true) (a1 : Addr) (n : Nat) (f g : Nat → Int32) (h0 : Heap) (n0 : Nat) (Z0 : n0 ≤ h0.size) (hn : n ≤ 8) (hcb : own_Cb f n) (hal : ∀ i, i < n → ¬ (255 : Int32) < f i) (hg : ∀ i, i < n → g i = own_b8 (f i)) (S_as : Sta Z h0 "java/lang/StringUTF16" "$assertionsDisabled" "Z" (.int (1 : Int32))) (S_hi : Sta Z h0 "java/lang/StringUTF16" "HI_BYTE_SHIFT" "I" (.int (0 : Int32))) (S_lo : Sta Z h0 "java/lang/StringUTF16" "LO_BYTE_SHIFT" "I" (.int (8 : Int32))) (V1 : own_Fa Z h0 a1 .byte "[B" (fun _ => True) n (fun y_ => .int (g y_))) :
  own_Met l Z (⟨"java/lang/String", "encodeUTF8", "(B[BZ)[B"⟩ : MethodName) jdk_42_method_46_code 9 (some (.array .byte)) ({ frames := 2, cells := 2, slots := 40, locals := 54 } : Room) #[(.int (0 : Int32)), (.ref a1), (.int (1 : Int32))] h0 (fun v h L => ∃ b : Addr, v = some (.ref b) ∧ h0.size ≤ b ∧ Ext h0 h ∧ Fr n0 L ∧ own_Bl Z h b (own_Ec f n 0)) := by
 refine own_body (plainFor_of_name (by first | (simp [plainName, overriddenIn]; done) | decide +kernel)) ?_
 intro p e s m below meth c s₁ hx hby hml hown hnm hlk hrt hZ X0 e0
 refine own_enter (ef_rm_e8l m (0 : Int32) a1 (1 : Int32)) ?_
 have N0 := Fr.nil n0
 have hnb := V1.big
 refine own_iloadN X0 hx hby o21_0 (pc' := 1) rfl rfl ?_
 refine own_iconst X0 hx hby o21_1 (pc' := 2) rfl (z := 1) rfl ?_
 refine own_icmpY X0 hx hby o21_2 (by decide) (pc' := 11) (by decide) (feq (by decide)).2 ?_
 refine own_aloadN X0 hx hby o21_11 (pc' := 12) rfl rfl rfl ?_
 refine own_iconst X0 hx hby o21_12 (pc' := 13) rfl (z := 0) rfl ?_
 refine own_aloadN X0 hx hby o21_13 (pc' := 14) rfl rfl rfl ?_
 refine own_fL X0 hx hby hZ e0 V1 o21_14 (pc' := 15) rfl ?_
 refine own_callM X0 hx hby hml hZ hown (ow_77 hw) (ow_78 hw) (ow_79 hw) (ow_80 hw) (by decide) (cc := 0) (ss := 0) (rm_hneg l Z a0 hw a1 n g h0 n0 Z0 V1) 0 rfl rfl (by decide) (by decide) rfl (argsL := [(.ref a1), (.int (0 : Int32)), (.int (Int32.ofNat n))]) (rest := []) opd_13 rfl rfl (Nat.le_refl _) o21_15 (pc' := 18) rfl rfl e0 (by decide) (by decide) ?_
 rintro v1 T1 h1 L1 X1 e1 ⟨zz, rfl, Nq1, rfl, hz⟩
 have N1 := N0.app Nq1
 rcases hz with hz | hz
 ·obtain ⟨hz0, hpos⟩ := hz
  subst hz0
  refine own_ifN X1 hx hby o21_18 (pc' := 21) rfl (teq rfl).2 ?_
  refine own_aloadN X1 hx hby o21_21 (pc' := 22) rfl rfl rfl ?_
  refine own_cloneF X1 hx hby hZ hml hown (ow_84 hw) (ow_85 hw) (ow_89 hw) (ow_87 hw) (ow_88 hw) (ow_90 hw) e1 V1 rfl o21_22 (pc' := 25) rfl (by decide) (W := 0) (cap := 8) (Nat.le_refl _) (by decide) hn (by decide) (by decide) ?_
  intro T2 h2 b2 g2 X2 e2 E2 V_b2
  have ne_a1_b2 : a1 ≠ b2 := own_nl V1.lt g2
  have n0_b2 : n0 ≤ b2 := Nat.le_trans Z0 (Nat.le_of_eq g2.symm)
  have le0_b2 : h0.size ≤ b2 := Nat.le_trans (Nat.le_refl _) (Nat.le_of_eq g2.symm)
  have sz3 := Nat.le_trans (Nat.le_refl _) E2.1
  replace V1 := V1.ext E2
  have be4 := own_xt own_xr E2
  refine own_cast X2 hx hby hZ hown (ow_91 hw) e2 (Ins.self V_b2.exa) o21_25 (pc' := 28) rfl ?_
  intro T5 X5 e5
  have hasc : ∀ i, i < n → f i < (128 : Int32) := fun i hi => Classical.byContradiction fun q => hpos i hi (by rw [hg i hi]; exact (own_lat (hcb i hi).1 (hal i hi)).1.mpr q)
  exact own_retA X5 hx hby hlk hrt rfl rfl o21_28 (by first | exact ⟨b2, rfl, le0_b2, be4, N1, own_ascB (fun i hi => ⟨(hcb i hi).1, hasc i hi⟩) hg V_b2⟩ | (rw [e5]; exact ⟨b2, rfl, le0_b2, be4, N1, own_ascB (fun i hi => ⟨(hcb i hi).1, hasc i hi⟩) hg V_b2⟩)) (by decide) (by decide)
 ·obtain ⟨hz1, -⟩ := hz
  subst hz1
  refine own_ifY X1 hx hby o21_18 (by decide) (pc' := 29) (by decide) (feq (by decide)).2 ?_
  refine own_iconst X1 hx hby o21_29 (pc' := 30) rfl (z := 0) rfl ?_
  refine own_istoreN X1 hx hby o21_30 (pc' := 31) rfl (Ls' := #[.val (.int (0 : Int32)), .val (.ref a1), .val (.int (1 : Int32)), .val (.int (0 : Int32)), .unset, .unset, .unset, .unset, .unset]) rfl ?_
  refine own_aloadN X1 hx hby o21_31 (pc' := 32) rfl rfl rfl ?_
  refine own_fL X1 hx hby hZ e1 V1 o21_32 (pc' := 33) rfl ?_
  refine own_callM X1 hx hby hml hZ hown (ow_297 hw) (ow_245 hw) (ow_236 hw) (ow_246 hw) (by decide) (cc := 1) (ss := 16) (rm_nbf l Z a0 hw n h0 n0 Z0 hn) 0 rfl rfl (by decide) (by decide) rfl (argsL := [(.int (Int32.ofNat n))]) (rest := []) opd_1 rfl rfl (Nat.le_refl _) o21_33 (pc' := 36) rfl rfl e1 (by decide) (by decide) ?_
  rintro v6 T6 h6 L6 X6 e6 ⟨bd, rfl, lb6, Eq6, Nq6, V2⟩
  have ne_a1_bd : a1 ≠ bd := Nat.ne_of_lt (Nat.lt_of_lt_of_le V1.lt lb6)
  have n0_bd : n0 ≤ bd := Nat.le_trans Z0 lb6
  have le0_bd : h0.size ≤ bd := Nat.le_trans (Nat.le_refl _) lb6
  have N6 := N1.app Nq6
  have sz7 := Nat.le_trans (Nat.le_refl _) Eq6.1
  replace V1 := V1.ext Eq6
  have be8 := own_xt own_xr Eq6
  have VP := own_Pre.new V2
  refine own_astore X6 hx hby o21_36 (pc' := 38) rfl rfl (Ls' := #[.val (.int (0 : Int32)), .val (.ref a1), .val (.int (1 : Int32)), .val (.int (0 : Int32)), .val (.ref bd), .unset, .unset, .unset, .unset]) rfl ?_
  refine own_aloadN X6 hx hby o21_38 (pc' := 39) rfl rfl rfl ?_
  refine own_astore X6 hx hby o21_39 (pc' := 41) rfl rfl (Ls' := #[.val (.int (0 : Int32)), .val (.ref a1), .val (.int (1 : Int32)), .val (.int (0 : Int32)), .val (.ref bd), .val (.ref a1), .unset, .unset, .unset]) rfl ?_
  refine own_aload X6 hx hby o21_41 (pc' := 43) rfl rfl rfl ?_
  refine own_fL X6 hx hby hZ e6 V1 o21_43 (pc' := 44) rfl ?_
  refine own_istore X6 hx hby o21_44 (pc' := 46) rfl (Ls' := #[.val (.int (0 : Int32)), .val (.ref a1), .val (.int (1 : Int32)), .val (.int (0 : Int32)), .val (.ref bd), .val (.ref a1), .val (.int (Int32.ofNat n)), .unset, .unset]) rfl ?_
  refine own_iconst X6 hx hby o21_46 (pc' := 47) rfl (z := 0) rfl ?_
  refine own_istore X6 hx hby o21_47 (pc' := 49) rfl (Ls' := #[.val (.int (0 : Int32)), .val (.ref a1), .val (.int (1 : Int32)), .val (.int (0 : Int32)), .val (.ref bd), .val (.ref a1), .val (.int (Int32.ofNat n)), .val (.int (0 : Int32)), .unset]) rfl ?_
  refine own_join (α := (Nat) × (State) × (Heap) × (List Loc) × (Nat) × (Nat) × (List Int32) × (Slot)) (F := fun z => z.2.1.setTop (mkF m 49 #[.val (.int (0 : Int32)), .val (.ref a1), .val (.int (1 : Int32)), .val (.int (Int32.ofNat z.2.2.2.2.2.1)), .val (.ref bd), .val (.ref a1), .val (.int (Int32.ofNat n)), .val (.int (Int32.ofNat z.2.2.2.2.1)), z.2.2.2.2.2.2.2] [])) (P := fun z => Stand p l e ({ frames := 2, cells := 2, slots := 40, locals := 54 } : Room) s m #[(.int (0 : Int32)), (.ref a1), (.int (1 : Int32))] below meth c z.2.1 z.2.2.2.1 1 16 ∧ z.2.1.heap = z.2.2.1 ∧ h0.size ≤ z.2.2.1.size ∧ Fr n0 z.2.2.2.1 ∧ Ext h0 z.2.2.1 ∧ (z.2.2.2.2.1 + z.1 = n) ∧ (own_Fa Z z.2.2.1 a1 .byte "[B" (fun _ => True) n (fun y_ => .int (g y_))) ∧ (own_Pre Z z.2.2.1 bd (2 * n) z.2.2.2.2.2.2.1) ∧ (z.2.2.2.2.2.2.1.length = z.2.2.2.2.2.1) ∧ (z.2.2.2.2.2.1 ≤ 2 * z.2.2.2.2.1) ∧ (z.2.2.2.2.2.2.1 ++ own_Ec f n z.2.2.2.2.1 = (own_Ec f n 0)) ∧ (own_s1 z.2.2.2.2.2.2.2)) ?_ ?_
  ·rintro ⟨k1, T_1, h_1, L_1, i1, dp, out, u8⟩ hP
   dsimp only at hP ⊢
   revert hP
   induction k1 generalizing T_1 h_1 L_1 i1 dp out u8 with
   | zero =>
    rintro ⟨Xl1, el1, szl1, Nl1, bel1, hik, V1, VP, hdp, hd3, hE, hu8⟩
    have hin' : i1 = n := by omega
    have hEo : out = (own_Ec f n 0) := by rw [hin', own_Ec_end (Nat.lt_irrefl n), List.append_nil] at hE; exact hE
    refine own_iload Xl1 hx hby o21_49 (pc' := 51) rfl rfl ?_
    refine own_iload Xl1 hx hby o21_51 (pc' := 53) rfl rfl ?_
    refine own_icmpY Xl1 hx hby o21_53 (by decide) (pc' := 124) (by decide) (flt (by rw [own_ilt (by omega) (by omega)]; omega)).2.1 ?_
    refine own_iloadN Xl1 hx hby o21_124 (pc' := 125) rfl rfl ?_
    refine own_aload Xl1 hx hby o21_125 (pc' := 127) rfl rfl rfl ?_
    refine own_lP Xl1 hx hby hZ el1 VP o21_127 (pc' := 128) rfl ?_
    by_cases hq_ : (Int32.ofNat dp) = (Int32.ofNat (2 * n))
    ·refine own_icmpN Xl1 hx hby o21_128 (pc' := 131) rfl (teq hq_).2 ?_
     refine own_aload Xl1 hx hby o21_131 (pc' := 133) rfl rfl rfl ?_
     have h3n : dp = 2 * n := own_inj (by omega) (by omega) hq_
     have VB : own_Bl Z h_1 bd out := own_Pre.full (by rw [hdp, h3n]; exact VP)
     exact own_retA Xl1 hx hby hlk hrt rfl rfl o21_133 (by first | exact ⟨bd, rfl, le0_bd, bel1, Nl1, hEo ▸ VB⟩ | (rw [el1]; exact ⟨bd, rfl, le0_bd, bel1, Nl1, hEo ▸ VB⟩)) (by decide) (by decide)
    ·refine own_icmpY Xl1 hx hby o21_128 (by decide) (pc' := 134) (by decide) (feq hq_).2 ?_
     refine own_aload Xl1 hx hby o21_134 (pc' := 136) rfl rfl rfl ?_
     refine own_iloadN Xl1 hx hby o21_136 (pc' := 137) rfl rfl ?_
     refine own_callM Xl1 hx hby hml hZ hown (ow_280 hw) (ow_281 hw) (ow_204 hw) (ow_282 hw) (by decide) (cc := 1) (ss := 24) (rm_cpo l Z a0 hw bd (2 * n) dp out h_1 n0 (Nat.le_trans Z0 szl1) hdp (Nat.lt_of_le_of_ne (hdp ▸ VP.len) (fun q => hq_ (by rw [q]))) (by omega) VP) 0 rfl rfl (by decide) (by decide) rfl (argsL := [(.ref bd), (.int (Int32.ofNat dp))]) (rest := []) opd_9 rfl rfl (Nat.le_refl _) o21_137 (pc' := 140) rfl rfl el1 (by decide) (by decide) ?_
     rintro v9 T9 h9 L9 X9 e9 ⟨bc, rfl, lb9, Eq9, Nq9, VB⟩
     have ne_a1_bc : a1 ≠ bc := Nat.ne_of_lt (Nat.lt_of_lt_of_le V1.lt lb9)
     have ne_bd_bc : bd ≠ bc := Nat.ne_of_lt (Nat.lt_of_lt_of_le VP.lt lb9)
     have n0_bc : n0 ≤ bc := Nat.le_trans (Nat.le_trans Z0 szl1) lb9
     have le0_bc : h0.size ≤ bc := Nat.le_trans szl1 lb9
     have N9 := Nl1.app Nq9
     have sz10 := Nat.le_trans szl1 Eq9.1
     replace V1 := V1.ext Eq9
     replace VP := VP.ext Eq9
     have be11 := own_xt bel1 Eq9
     exact own_retA X9 hx hby hlk hrt rfl rfl o21_140 (by first | exact ⟨bc, rfl, le0_bc, be11, N9, hEo ▸ VB⟩ | (rw [e9]; exact ⟨bc, rfl, le0_bc, be11, N9, hEo ▸ VB⟩)) (by decide) (by decide)
   | succ k1 ih1 =>
    rintro ⟨Xl1, el1, szl1, Nl1, bel1, hik, V1, VP, hdp, hd3, hE, hu8⟩
    have hlt : i1 < n := by omega
    have hla := own_lat (hcb i1 hlt).1 (hal i1 hlt)
    have hgi := hg i1 hlt
    refine own_iload Xl1 hx hby o21_49 (pc' := 51) rfl rfl ?_
    refine own_iload Xl1 hx hby o21_51 (pc' := 53) rfl rfl ?_
    refine own_icmpN Xl1 hx hby o21_53 (pc' := 56) rfl (tlt ((own_ilt (by omega) (by omega)).mpr hlt)).2.1 ?_
    refine own_aload Xl1 hx hby o21_56 (pc' := 58) rfl rfl rfl ?_
    refine own_iload Xl1 hx hby o21_58 (pc' := 60) rfl rfl ?_
    refine own_fB Xl1 hx hby hZ el1 V1 hlt (v := (g i1)) rfl o21_60 (pc' := 61) rfl ?_
    refine own_istore Xl1 hx hby o21_61 (pc' := 63) rfl (Ls' := #[.val (.int (0 : Int32)), .val (.ref a1), .val (.int (1 : Int32)), .val (.int (Int32.ofNat dp)), .val (.ref bd), .val (.ref a1), .val (.int (Int32.ofNat n)), .val (.int (Int32.ofNat i1)), .val (.int (g i1))]) (own_s98 hu8 rfl) ?_
    refine own_iload Xl1 hx hby o21_63 (pc' := 65) rfl rfl ?_
    by_cases hc_ : (g i1) < (0 : Int32)
    ·refine own_ifN Xl1 hx hby o21_65 (pc' := 68) rfl (tlt hc_).2.1 ?_
     have hpt : own_put (f i1) = [own_b8 ((192 : Int32) ||| (((g i1) &&& (255 : Int32)) >>> ((6 : Int32) &&& 31))), own_b8 ((128 : Int32) ||| ((g i1) &&& (63 : Int32)))] := by rw [hgi]; exact hla.2.2.1 (hla.1.mp (by rw [← hgi]; exact hc_))
     refine own_aload Xl1 hx hby o21_68 (pc' := 70) rfl rfl rfl ?_
     refine own_iloadN Xl1 hx hby o21_70 (pc' := 71) rfl rfl ?_
     refine own_iincN Xl1 hx hby o21_71 (pc' := 74) rfl rfl (Ls' := #[.val (.int (0 : Int32)), .val (.ref a1), .val (.int (1 : Int32)), .val (.int (Int32.ofNat (dp + 1))), .val (.ref bd), .val (.ref a1), .val (.int (Int32.ofNat n)), .val (.int (Int32.ofNat i1)), .val (.int (g i1))]) rfl ?_
     refine own_sipush Xl1 hx hby o21_74 (pc' := 77) rfl (z := 192) rfl ?_
     refine own_iload Xl1 hx hby o21_77 (pc' := 79) rfl rfl ?_
     refine own_sipush Xl1 hx hby o21_79 (pc' := 82) rfl (z := 255) rfl ?_
     refine own_iand Xl1 hx hby o21_82 (pc' := 83) rfl ?_
     refine own_bipush Xl1 hx hby o21_83 (pc' := 85) rfl (z := 6) rfl ?_
     refine own_ishr Xl1 hx hby o21_85 (pc' := 86) rfl ?_
     refine own_ior Xl1 hx hby o21_86 (pc' := 87) rfl ?_
     refine own_i2b Xl1 hx hby o21_87 (pc' := 88) rfl ?_
     refine own_gP Xl1 hx hby hZ el1 VP (by simp [hdp]; omega) (w := (own_b8 ((192 : Int32) ||| (((g i1) &&& (255 : Int32)) >>> ((6 : Int32) &&& 31))))) (own_nar8 _) (congrArg Int32.ofNat (by simp [hdp])) o21_88 (pc' := 89) rfl ?_
     intro T12 h12 X12 e12 W12 Q12
     have sz13 := Nat.le_trans szl1 (Keep.of_wr W12).1
     replace V1 := V1.other W12 ne_a1_bd
     have be14 := own_xw bel1 W12 le0_bd
     replace VP := Q12
     have N12 := own_fr1 (sl := (out : List Int32).length) Nl1 n0_bd
     refine own_aload X12 hx hby o21_89 (pc' := 91) rfl rfl rfl ?_
     refine own_iloadN X12 hx hby o21_91 (pc' := 92) rfl rfl ?_
     refine own_iincN X12 hx hby o21_92 (pc' := 95) rfl rfl (Ls' := #[.val (.int (0 : Int32)), .val (.ref a1), .val (.int (1 : Int32)), .val (.int (Int32.ofNat ((dp + 1) + 1))), .val (.ref bd), .val (.ref a1), .val (.int (Int32.ofNat n)), .val (.int (Int32.ofNat i1)), .val (.int (g i1))]) rfl ?_
     refine own_sipush X12 hx hby o21_95 (pc' := 98) rfl (z := 128) rfl ?_
     refine own_iload X12 hx hby o21_98 (pc' := 100) rfl rfl ?_
     refine own_bipush X12 hx hby o21_100 (pc' := 102) rfl (z := 63) rfl ?_
     refine own_iand X12 hx hby o21_102 (pc' := 103) rfl ?_
     refine own_ior X12 hx hby o21_103 (pc' := 104) rfl ?_
     refine own_i2b X12 hx hby o21_104 (pc' := 105) rfl ?_
     refine own_gP X12 hx hby hZ e12 VP (by simp [hdp]; omega) (w := (own_b8 ((128 : Int32) ||| ((g i1) &&& (63 : Int32))))) (own_nar8 _) (congrArg Int32.ofNat (by simp [hdp])) o21_105 (pc' := 106) rfl ?_
     intro T15 h15 X15 e15 W15 Q15
     have sz16 := Nat.le_trans sz13 (Keep.of_wr W15).1
     replace V1 := V1.other W15 ne_a1_bd
     have be17 := own_xw be14 W15 le0_bd
     replace VP := Q15
     have N15 := own_fr1 (sl := ((out ++ [(own_b8 ((192 : Int32) ||| (((g i1) &&& (255 : Int32)) >>> ((6 : Int32) &&& 31))))]) : List Int32).length) N12 n0_bd
     refine own_goto X15 hx hby o21_106 (by decide) (pc' := 118) (by decide) ?_
     refine own_iincN X15 hx hby o21_118 (pc' := 121) rfl rfl (Ls' := #[.val (.int (0 : Int32)), .val (.ref a1), .val (.int (1 : Int32)), .val (.int (Int32.ofNat ((dp + 1) + 1))), .val (.ref bd), .val (.ref a1), .val (.int (Int32.ofNat n)), .val (.int (Int32.ofNat (i1 + 1))), .val (.int (g i1))]) rfl ?_
     refine own_goto X15 hx hby o21_121 (by decide) (pc' := 49) (by decide) ?_
     exact ih1 T15 h15 _ (i1 + 1) (dp + 1 + 1) (((out ++ [(own_b8 ((192 : Int32) ||| (((g i1) &&& (255 : Int32)) >>> ((6 : Int32) &&& 31))))]) ++ [(own_b8 ((128 : Int32) ||| ((g i1) &&& (63 : Int32))))])) (.val (.int (g i1))) ⟨X15.mono (by decide) (by decide), e15, sz16, N15, be17, (by omega), V1, VP, (by simp [hdp]), (by omega), (own_Estep hlt hE (own_cpC hla.2.2.2.1) (own_stp1 hla.2.2.2.2) (hpt) (by simp [List.append_assoc])), (Or.inr ⟨_, rfl, rfl⟩)⟩
    ·refine own_ifY Xl1 hx hby o21_65 (by decide) (pc' := 109) (by decide) (flt hc_).2.1 ?_
     refine own_aload Xl1 hx hby o21_109 (pc' := 111) rfl rfl rfl ?_
     refine own_iloadN Xl1 hx hby o21_111 (pc' := 112) rfl rfl ?_
     refine own_iincN Xl1 hx hby o21_112 (pc' := 115) rfl rfl (Ls' := #[.val (.int (0 : Int32)), .val (.ref a1), .val (.int (1 : Int32)), .val (.int (Int32.ofNat (dp + 1))), .val (.ref bd), .val (.ref a1), .val (.int (Int32.ofNat n)), .val (.int (Int32.ofNat i1)), .val (.int (g i1))]) rfl ?_
     refine own_iload Xl1 hx hby o21_115 (pc' := 117) rfl rfl ?_
     refine own_gP Xl1 hx hby hZ el1 VP (by simp [hdp]; omega) (w := (own_b8 (f i1))) (by rw [hgi]; exact own_nar8 _) (congrArg Int32.ofNat (by simp [hdp])) o21_117 (pc' := 118) rfl ?_
     intro T18 h18 X18 e18 W18 Q18
     have sz19 := Nat.le_trans szl1 (Keep.of_wr W18).1
     replace V1 := V1.other W18 ne_a1_bd
     have be20 := own_xw bel1 W18 le0_bd
     replace VP := Q18
     have N18 := own_fr1 (sl := (out : List Int32).length) Nl1 n0_bd
     refine own_iincN X18 hx hby o21_118 (pc' := 121) rfl rfl (Ls' := #[.val (.int (0 : Int32)), .val (.ref a1), .val (.int (1 : Int32)), .val (.int (Int32.ofNat (dp + 1))), .val (.ref bd), .val (.ref a1), .val (.int (Int32.ofNat n)), .val (.int (Int32.ofNat (i1 + 1))), .val (.int (g i1))]) rfl ?_
     refine own_goto X18 hx hby o21_121 (by decide) (pc' := 49) (by decide) ?_
     exact ih1 T18 h18 _ (i1 + 1) (dp + 1) ((out ++ [(own_b8 (f i1))])) (.val (.int (g i1))) ⟨X18.mono (by decide) (by decide), e18, sz19, N18, be20, (by omega), V1, VP, (by simp [hdp]), (by omega), (own_Estep hlt hE (own_cpC hla.2.2.2.1) (own_stp1 hla.2.2.2.2) (hla.2.1 (Classical.byContradiction fun q => hc_ (by rw [hgi]; exact hla.1.mpr q))) (by simp [List.append_assoc])), (Or.inr ⟨_, rfl, rfl⟩)⟩
  ·intro J21
   exact J21 (n, T6, h6, _, 0, 0, [], .unset) ⟨X6.mono (by decide) (by decide), e6, sz7, N6, be8, (Nat.zero_add _), V1, VP, rfl, (Nat.zero_le _), rfl, (Or.inl rfl)⟩
theorem ef_rm_en1 (m : MethodId) (x0 : Addr) (x1 : Int32) (x2 : Addr) : entryFrame m #[(.ref x0), (.int x1), (.ref x2)] 3 = mkF m 0 #[.val (.ref x0), .val (.int x1), .val (.ref x2)] [] := by first | (simp [entryFrame, mkF, argsToLocals, Value.category]; done) | rfl
set_option maxRecDepth 65536 in
set_option maxHeartbeats 40000000 in
theorem rm_en1 (l : Launch) (Z : State) (a0 : Array Value) (hw : ∀ d ∈ tables_1, d.before a0 Z = true) (u8 a1 : Addr) (n : Nat) (f g : Nat → Int32) (h0 : Heap) (n0 : Nat) (Z0 : n0 ≤ h0.size) (hn : n ≤ 8) (hcb : own_Cb f n) (hU : own_U f n g) (S_u8 : Sta Z h0 "sun/nio/cs/UTF_8" "INSTANCE" "Lsun/nio/cs/UTF_8;" (.ref u8)) (S_as : Sta Z h0 "java/lang/StringUTF16" "$assertionsDisabled" "Z" (.int (1 : Int32))) (S_hi : Sta Z h0 "java/lang/StringUTF16" "HI_BYTE_SHIFT" "I" (.int (0 : Int32))) (S_lo : Sta Z h0 "java/lang/StringUTF16" "LO_BYTE_SHIFT" "I" (.int (8 : Int32))) (V1 : own_Fa Z h0 a1 .byte "[B" (fun _ => True) (2 * n) (fun y_ => .int (g y_))) :
  own_Met l Z (⟨"java/lang/String", "encode", "(Ljava/nio/charset/Charset;B[B)[B"⟩ : MethodName) jdk_42_method_18_code 3 (some (.array .byte)) ({ frames := 4, cells := 2, slots := 48, locals := 94 } : Room) #[(.ref u8), (.int (1 : Int32)), (.ref a1)] h0 (fun v h L => ∃ b : Addr, v = some (.ref b) ∧ h0.size ≤ b ∧ Ext h0 h ∧ Fr n0 L ∧ own_Bl Z h b (own_Ec f n 0)) := by
 refine own_body (plainFor_of_name (by first | (simp [plainName, overriddenIn]; done) | decide +kernel)) ?_
 intro p e s m below meth c s₁ hx hby hml hown hnm hlk hrt hZ X0 e0
 refine own_enter (ef_rm_en1 m u8 (1 : Int32) a1) ?_
 have N0 := Fr.nil n0
 refine own_aloadN X0 hx hby o22_0 (pc' := 1) rfl rfl rfl ?_
 refine own_getS X0 hx hby hZ hown (host := "") (Or.inl (ow_72 hw)) Via.refl e0 S_u8 o22_1 (pc' := 4) rfl ?_
 intro T1 X1 e1
 refine own_acmp X1 hx hby o22_4 rfl rfl (same := true) (by simp) (by decide) (pc' := 7) (by decide) ?_
 refine own_iloadN X1 hx hby o22_7 (pc' := 8) rfl rfl ?_
 refine own_aloadN X1 hx hby o22_8 (pc' := 9) rfl rfl rfl ?_
 refine own_iconst X1 hx hby o22_9 (pc' := 10) rfl (z := 1) rfl ?_
 refine own_callM X1 hx hby hml hZ hown (ow_74 hw) (ow_75 hw) (ow_9 hw) (ow_76 hw) (by decide) (cc := 2) (ss := 48) (rm_e8u l Z a0 hw a1 n f g h0 n0 Z0 hn hcb hU S_as S_hi S_lo V1) 0 rfl rfl (by decide) (by decide) rfl (argsL := [(.int (1 : Int32)), (.ref a1), (.int (1 : Int32))]) (rest := []) opd_14 rfl rfl (Nat.le_refl _) o22_10 (pc' := 13) rfl rfl e1 (by decide) (by decide) ?_
 rintro v2 T2 h2 L2 X2 e2 ⟨bc, rfl, lb2, Eq2, Nq2, VB⟩
 have ne_a1_bc : a1 ≠ bc := Nat.ne_of_lt (Nat.lt_of_lt_of_le V1.lt lb2)
 have n0_bc : n0 ≤ bc := Nat.le_trans Z0 lb2
 have le0_bc : h0.size ≤ bc := Nat.le_trans (Nat.le_refl _) lb2
 have N2 := N0.app Nq2
 have sz3 := Nat.le_trans (Nat.le_refl _) Eq2.1
 replace V1 := V1.ext Eq2
 have be4 := own_xt own_xr Eq2
 exact own_retA X2 hx hby hlk hrt rfl rfl o22_13 (by first | exact ⟨bc, rfl, le0_bc, be4, N2, VB⟩ | (rw [e2]; exact ⟨bc, rfl, le0_bc, be4, N2, VB⟩)) (by decide) (by decide)
theorem ef_rm_en0 (m : MethodId) (x0 : Addr) (x1 : Int32) (x2 : Addr) : entryFrame m #[(.ref x0), (.int x1), (.ref x2)] 3 = mkF m 0 #[.val (.ref x0), .val (.int x1), .val (.ref x2)] [] := by first | (simp [entryFrame, mkF, argsToLocals, Value.category]; done) | rfl
set_option maxRecDepth 65536 in
set_option maxHeartbeats 40000000 in
theorem rm_en0 (l : Launch) (Z : State) (a0 : Array Value) (hw : ∀ d ∈ tables_1, d.before a0 Z = true) (u8 a1 : Addr) (n : Nat) (f g : Nat → Int32) (h0 : Heap) (n0 : Nat) (Z0 : n0 ≤ h0.size) (hn : n ≤ 8) (hcb : own_Cb f n) (hal : ∀ i, i < n → ¬ (255 : Int32) < f i) (hg : ∀ i, i < n → g i = own_b8 (f i)) (S_u8 : Sta Z h0 "sun/nio/cs/UTF_8" "INSTANCE" "Lsun/nio/cs/UTF_8;" (.ref u8)) (S_as : Sta Z h0 "java/lang/StringUTF16" "$assertionsDisabled" "Z" (.int (1 : Int32))) (S_hi : Sta Z h0 "java/lang/StringUTF16" "HI_BYTE_SHIFT" "I" (.int (0 : Int32))) (S_lo : Sta Z h0 "java/lang/StringUTF16" "LO_BYTE_SHIFT" "I" (.int (8 : Int32))) (V1 : own_Fa Z h0 a1 .byte "[B" (fun _ => True) n (fun y_ => .int (g y_))) :
  own_Met l Z (⟨"java/lang/String", "encode", "(Ljava/nio/charset/Charset;B[B)[B"⟩ : MethodName) jdk_42_method_18_code 3 (some (.array .byte)) ({ frames := 3, cells := 2, slots := 40, locals := 74 } : Room) #[(.ref u8), (.int (0 : Int32)), (.ref a1)] h0 (fun v h L => ∃ b : Addr, v = some (.ref b) ∧ h0.size ≤ b ∧ Ext h0 h ∧ Fr n0 L ∧ own_Bl Z h b (own_Ec f n 0)) := by
 refine own_body (plainFor_of_name (by first | (simp [plainName, overriddenIn]; done) | decide +kernel)) ?_
 intro p e s m below meth c s₁ hx hby hml hown hnm hlk hrt hZ X0 e0
 refine own_enter (ef_rm_en0 m u8 (0 : Int32) a1) ?_
 have N0 := Fr.nil n0
 refine own_aloadN X0 hx hby o22_0 (pc' := 1) rfl rfl rfl ?_
 refine own_getS X0 hx hby hZ hown (host := "") (Or.inl (ow_72 hw)) Via.refl e0 S_u8 o22_1 (pc' := 4) rfl ?_
 intro T1 X1 e1
 refine own_acmp X1 hx hby o22_4 rfl rfl (same := true) (by simp) (by decide) (pc' := 7) (by decide) ?_
 refine own_iloadN X1 hx hby o22_7 (pc' := 8) rfl rfl ?_
 refine own_aloadN X1 hx hby o22_8 (pc' := 9) rfl rfl rfl ?_
 refine own_iconst X1 hx hby o22_9 (pc' := 10) rfl (z := 1) rfl ?_
 refine own_callM X1 hx hby hml hZ hown (ow_74 hw) (ow_75 hw) (ow_9 hw) (ow_76 hw) (by decide) (cc := 2) (ss := 40) (rm_e8l l Z a0 hw a1 n f g h0 n0 Z0 hn hcb hal hg S_as S_hi S_lo V1) 0 rfl rfl (by decide) (by decide) rfl (argsL := [(.int (0 : Int32)), (.ref a1), (.int (1 : Int32))]) (rest := []) opd_14 rfl rfl (Nat.le_refl _) o22_10 (pc' := 13) rfl rfl e1 (by decide) (by decide) ?_
 rintro v2 T2 h2 L2 X2 e2 ⟨bc, rfl, lb2, Eq2, Nq2, VB⟩
 have ne_a1_bc : a1 ≠ bc := Nat.ne_of_lt (Nat.lt_of_lt_of_le V1.lt lb2)
 have n0_bc : n0 ≤ bc := Nat.le_trans Z0 lb2
 have le0_bc : h0.size ≤ bc := Nat.le_trans (Nat.le_refl _) lb2
 have N2 := N0.app Nq2
 have sz3 := Nat.le_trans (Nat.le_refl _) Eq2.1
 replace V1 := V1.ext Eq2
 have be4 := own_xt own_xr Eq2
 exact own_retA X2 hx hby hlk hrt rfl rfl o22_13 (by first | exact ⟨bc, rfl, le0_bc, be4, N2, VB⟩ | (rw [e2]; exact ⟨bc, rfl, le0_bc, be4, N2, VB⟩)) (by decide) (by decide)
theorem ef_rm_gb8 (m : MethodId) (x0 : Addr) (x1 : Addr) : entryFrame m #[(.ref x0), (.ref x1)] 2 = mkF m 0 #[.val (.ref x0), .val (.ref x1)] [] := by first | (simp [entryFrame, mkF, argsToLocals, Value.category]; done) | rfl
set_option maxRecDepth 65536 in
set_option maxHeartbeats 40000000 in
theorem rm_gb8 (l : Launch) (Z : State) (a0 : Array Value) (hw : ∀ d ∈ tables_1, d.before a0 Z = true) (a1 u8 : Addr) (n : Nat) (f : Nat → Int32) (G1 : Int32) (h0 : Heap) (n0 : Nat) (Z0 : n0 ≤ h0.size) (hn : n ≤ 8) (hcb : own_Cb f n) (S_u8 : Sta Z h0 "sun/nio/cs/UTF_8" "INSTANCE" "Lsun/nio/cs/UTF_8;" (.ref u8)) (S_as : Sta Z h0 "java/lang/StringUTF16" "$assertionsDisabled" "Z" (.int (1 : Int32))) (S_hi : Sta Z h0 "java/lang/StringUTF16" "HI_BYTE_SHIFT" "I" (.int (0 : Int32))) (S_lo : Sta Z h0 "java/lang/StringUTF16" "LO_BYTE_SHIFT" "I" (.int (8 : Int32))) (S_cs : Sta Z h0 "java/lang/String" "COMPACT_STRINGS" "Z" (.int G1)) (P5 : ¬ (G1 = (0 : Int32))) (V1 : own_SV Z h0 a1 f n) :
  own_Met l Z (⟨"java/lang/String", "getBytes", "(Ljava/nio/charset/Charset;)[B"⟩ : MethodName) jdk_42_method_64_code 2 (some (.array .byte)) ({ frames := 5, cells := 2, slots := 48, locals := 108 } : Room) #[(.ref a1), (.ref u8)] h0 (fun v h L => ∃ b : Addr, v = some (.ref b) ∧ h0.size ≤ b ∧ Ext h0 h ∧ Fr n0 L ∧ own_Bl Z h b (own_Ec f n 0)) := by
 refine own_body (plainFor_of_name (by first | (simp [plainName, overriddenIn]; done) | decide +kernel)) ?_
 intro p e s m below meth c s₁ hx hby hml hown hnm hlk hrt hZ X0 e0
 refine own_enter (ef_rm_gb8 m a1 u8) ?_
 have N0 := Fr.nil n0
 obtain ⟨A1, bv, co, F_v, F_c, hq⟩ := V1
 rcases hq with hq | hq
 ·obtain ⟨rfl, hal, g, VF, -, hg⟩ := hq
  have hg' : ∀ i, i < n → g i = own_b8 (f i) := fun i hi => by rw [hg i (by simp; exact hi)]; simp [List.getD_eq_getElem?_getD, hi]
  refine own_aloadN X0 hx hby o23_0 (pc' := 1) rfl rfl rfl ?_
  refine own_ifnonnullY X0 hx hby o23_1 (by decide) (pc' := 12) (by decide) ?_
  refine own_aloadN X0 hx hby o23_12 (pc' := 13) rfl rfl rfl ?_
  refine own_aloadN X0 hx hby o23_13 (pc' := 14) rfl rfl rfl ?_
  refine own_virtM X0 hx hby hml hZ hown (ow_63 hw) (ow_64 hw) (notFace_of_selects (args := #[]) (mvT hZ (ow_66 hw))) (ow_66 hw) (ow_65 hw) (ow_9 hw) (ow_67 hw) (by decide) (cc := 0) (ss := 0) (rm_coder l Z a0 hw a1 (0 : Int32) G1 h0 n0 Z0 rfl S_cs P5 F_c) 1 rfl rfl (by decide) (by decide) rfl A1 (argsL := []) (rest := [(.ref u8)]) opd_15 rfl rfl (Nat.le_refl _) o23_14 (pc' := 17) rfl rfl e0 (by decide) (by decide) ?_
  rintro v1 T1 h1 L1 X1 e1 ⟨rfl, Nq1, rfl⟩
  have N1 := N0.app Nq1
  refine own_aloadN X1 hx hby o23_17 (pc' := 18) rfl rfl rfl ?_
  refine own_getF X1 hx hby hZ hown (host := "") (Or.inl (ow_25 hw)) Via.refl e1 F_v o23_18 (pc' := 21) rfl ?_
  intro T2 X2 e2
  refine own_callM X2 hx hby hml hZ hown (ow_69 hw) (ow_70 hw) (ow_9 hw) (ow_71 hw) (by decide) (cc := 2) (ss := 40) (rm_en0 l Z a0 hw u8 bv n f g h0 n0 Z0 hn hcb hal hg' S_u8 S_as S_hi S_lo VF) 0 rfl rfl (by decide) (by decide) rfl (argsL := [(.ref u8), (.int (0 : Int32)), (.ref bv)]) (rest := []) opd_16 rfl rfl (Nat.le_refl _) o23_21 (pc' := 24) rfl rfl e2 (by decide) (by decide) ?_
  rintro v3 T3 h3 L3 X3 e3 ⟨bc, rfl, lb3, Eq3, Nq3, VB⟩
  have ne_bv_bc : bv ≠ bc := Nat.ne_of_lt (Nat.lt_of_lt_of_le VF.lt lb3)
  have ne_a1_bc : a1 ≠ bc := Nat.ne_of_lt (Nat.lt_of_lt_of_le A1.lt lb3)
  have n0_bc : n0 ≤ bc := Nat.le_trans Z0 lb3
  have le0_bc : h0.size ≤ bc := Nat.le_trans (Nat.le_refl _) lb3
  have N3 := N1.app Nq3
  have sz4 := Nat.le_trans (Nat.le_refl _) Eq3.1
  replace VF := VF.ext Eq3
  replace A1 := A1.ext Eq3
  replace F_v := F_v.ext Eq3
  replace F_c := F_c.ext Eq3
  have be5 := own_xt own_xr Eq3
  exact own_retA X3 hx hby hlk hrt rfl rfl o23_24 (by first | exact ⟨bc, rfl, le0_bc, be5, N3, VB⟩ | (rw [e3]; exact ⟨bc, rfl, le0_bc, be5, N3, VB⟩)) (by decide) (by decide)
 ·obtain ⟨rfl, hany, g, hU, VF⟩ := hq
  refine own_aloadN X0 hx hby o23_0 (pc' := 1) rfl rfl rfl ?_
  refine own_ifnonnullY X0 hx hby o23_1 (by decide) (pc' := 12) (by decide) ?_
  refine own_aloadN X0 hx hby o23_12 (pc' := 13) rfl rfl rfl ?_
  refine own_aloadN X0 hx hby o23_13 (pc' := 14) rfl rfl rfl ?_
  refine own_virtM X0 hx hby hml hZ hown (ow_63 hw) (ow_64 hw) (notFace_of_selects (args := #[]) (mvT hZ (ow_66 hw))) (ow_66 hw) (ow_65 hw) (ow_9 hw) (ow_67 hw) (by decide) (cc := 0) (ss := 0) (rm_coder l Z a0 hw a1 (1 : Int32) G1 h0 n0 Z0 rfl S_cs P5 F_c) 1 rfl rfl (by decide) (by decide) rfl A1 (argsL := []) (rest := [(.ref u8)]) opd_15 rfl rfl (Nat.le_refl _) o23_14 (pc' := 17) rfl rfl e0 (by decide) (by decide) ?_
  rintro v6 T6 h6 L6 X6 e6 ⟨rfl, Nq6, rfl⟩
  have N6 := N0.app Nq6
  refine own_aloadN X6 hx hby o23_17 (pc' := 18) rfl rfl rfl ?_
  refine own_getF X6 hx hby hZ hown (host := "") (Or.inl (ow_25 hw)) Via.refl e6 F_v o23_18 (pc' := 21) rfl ?_
  intro T7 X7 e7
  refine own_callM X7 hx hby hml hZ hown (ow_69 hw) (ow_70 hw) (ow_9 hw) (ow_71 hw) (by decide) (cc := 2) (ss := 48) (rm_en1 l Z a0 hw u8 bv n f g h0 n0 Z0 hn hcb hU S_u8 S_as S_hi S_lo VF) 0 rfl rfl (by decide) (by decide) rfl (argsL := [(.ref u8), (.int (1 : Int32)), (.ref bv)]) (rest := []) opd_16 rfl rfl (Nat.le_refl _) o23_21 (pc' := 24) rfl rfl e7 (by decide) (by decide) ?_
  rintro v8 T8 h8 L8 X8 e8 ⟨bc, rfl, lb8, Eq8, Nq8, VB⟩
  have ne_bv_bc : bv ≠ bc := Nat.ne_of_lt (Nat.lt_of_lt_of_le VF.lt lb8)
  have ne_a1_bc : a1 ≠ bc := Nat.ne_of_lt (Nat.lt_of_lt_of_le A1.lt lb8)
  have n0_bc : n0 ≤ bc := Nat.le_trans Z0 lb8
  have le0_bc : h0.size ≤ bc := Nat.le_trans (Nat.le_refl _) lb8
  have N8 := N6.app Nq8
  have sz9 := Nat.le_trans (Nat.le_refl _) Eq8.1
  replace VF := VF.ext Eq8
  replace A1 := A1.ext Eq8
  replace F_v := F_v.ext Eq8
  replace F_c := F_c.ext Eq8
  have be10 := own_xt own_xr Eq8
  exact own_retA X8 hx hby hlk hrt rfl rfl o23_24 (by first | exact ⟨bc, rfl, le0_bc, be10, N8, VB⟩ | (rw [e8]; exact ⟨bc, rfl, le0_bc, be10, N8, VB⟩)) (by decide) (by decide)
theorem ef_rm_eA (m : MethodId) (x0 : Int32) (x1 : Addr) : entryFrame m #[(.int x0), (.ref x1)] 7 = mkF m 0 #[.val (.int x0), .val (.ref x1), .unset, .unset, .unset, .unset, .unset] [] := by first | (simp [entryFrame, mkF, argsToLocals, Value.category]; done) | rfl
set_option maxRecDepth 65536 in
set_option maxHeartbeats 40000000 in
theorem rm_eA (l : Launch) (Z : State) (a0 : Array Value) (hw : ∀ d ∈ tables_1, d.before a0 Z = true) (a1 : Addr) (bs : List Int32) (h0 : Heap) (n0 : Nat) (Z0 : n0 ≤ h0.size) (hb8 : bs.length ≤ 8) (hpos : ∀ i, i < bs.length → ¬ bs.getD i 0 < (0 : Int32)) (V1 : own_Bl Z h0 a1 bs) :
  own_Met l Z (⟨"java/lang/String", "encodeASCII", "(B[B)[B"⟩ : MethodName) jdk_42_method_24_code 7 (some (.array .byte)) ({ frames := 1, cells := 1, slots := 8, locals := 16 } : Room) #[(.int (0 : Int32)), (.ref a1)] h0 (fun v h L => ∃ b : Addr, v = some (.ref b) ∧ h0.size ≤ b ∧ Ext h0 h ∧ Fr n0 L ∧ own_Bl Z h b bs) := by
 refine own_body (plainFor_of_name (by first | (simp [plainName, overriddenIn]; done) | decide +kernel)) ?_
 intro p e s m below meth c s₁ hx hby hml hown hnm hlk hrt hZ X0 e0
 refine own_enter (ef_rm_eA m (0 : Int32) a1) ?_
 have N0 := Fr.nil n0
 have hnb := V1.big
 refine own_iloadN X0 hx hby o24_0 (pc' := 1) rfl rfl ?_
 refine own_ifN X0 hx hby o24_1 (pc' := 4) rfl (teq rfl).2 ?_
 refine own_aloadN X0 hx hby o24_4 (pc' := 5) rfl rfl rfl ?_
 refine own_iconst X0 hx hby o24_5 (pc' := 6) rfl (z := 0) rfl ?_
 refine own_aloadN X0 hx hby o24_6 (pc' := 7) rfl rfl rfl ?_
 refine own_fL X0 hx hby hZ e0 V1 o24_7 (pc' := 8) rfl ?_
 refine own_callM X0 hx hby hml hZ hown (ow_225 hw) (ow_82 hw) (ow_79 hw) (ow_83 hw) (by decide) (cc := 0) (ss := 0) (rm_cpos l Z a0 hw a1 bs.length (fun i => bs.getD i 0) h0 n0 Z0 V1) 0 rfl rfl (by decide) (by decide) rfl (argsL := [(.ref a1), (.int (0 : Int32)), (.int (Int32.ofNat bs.length))]) (rest := []) opd_7 rfl rfl (Nat.le_refl _) o24_8 (pc' := 11) rfl rfl e0 (by decide) (by decide) ?_
 rintro v1 T1 h1 L1 X1 e1 ⟨jj, rfl, Nq1, rfl, hj⟩
 have N1 := N0.app Nq1
 have hjn : jj = bs.length := hj.elim (fun q => q.1) (fun q => absurd q.2 (hpos jj q.1))
 subst hjn
 refine own_istoreN X1 hx hby o24_11 (pc' := 12) rfl (Ls' := #[.val (.int (0 : Int32)), .val (.ref a1), .val (.int (Int32.ofNat bs.length)), .unset, .unset, .unset, .unset]) rfl ?_
 refine own_aloadN X1 hx hby o24_12 (pc' := 13) rfl rfl rfl ?_
 refine own_cloneF X1 hx hby hZ hml hown (ow_84 hw) (ow_85 hw) (ow_89 hw) (ow_87 hw) (ow_88 hw) (ow_90 hw) e1 V1 rfl o24_13 (pc' := 16) rfl (by decide) (W := 0) (cap := 8) (Nat.le_refl _) (by decide) hb8 (by decide) (by decide) ?_
 intro T2 h2 b2 g2 X2 e2 E2 V_b2
 have ne_a1_b2 : a1 ≠ b2 := own_nl V1.lt g2
 have n0_b2 : n0 ≤ b2 := Nat.le_trans Z0 (Nat.le_of_eq g2.symm)
 have le0_b2 : h0.size ≤ b2 := Nat.le_trans (Nat.le_refl _) (Nat.le_of_eq g2.symm)
 have sz3 := Nat.le_trans (Nat.le_refl _) E2.1
 replace V1 := V1.ext E2
 have be4 := own_xt own_xr E2
 refine own_cast X2 hx hby hZ hown (ow_91 hw) e2 (Ins.self V_b2.exa) o24_16 (pc' := 19) rfl ?_
 intro T5 X5 e5
 refine own_astoreN X5 hx hby o24_19 (pc' := 20) rfl rfl (Ls' := #[.val (.int (0 : Int32)), .val (.ref a1), .val (.int (Int32.ofNat bs.length)), .val (.ref b2), .unset, .unset, .unset]) rfl ?_
 refine own_iloadN X5 hx hby o24_20 (pc' := 21) rfl rfl ?_
 refine own_aloadN X5 hx hby o24_21 (pc' := 22) rfl rfl rfl ?_
 refine own_fL X5 hx hby hZ e5 V_b2 o24_22 (pc' := 23) rfl ?_
 refine own_icmpY X5 hx hby o24_23 (by decide) (pc' := 31) (by decide) (flt (by rw [own_ilt (by omega) (by omega)]; omega)).2.1 ?_
 refine own_aloadN X5 hx hby o24_31 (pc' := 32) rfl rfl rfl ?_
 exact own_retA X5 hx hby hlk hrt rfl rfl o24_32 (by first | exact ⟨b2, rfl, le0_b2, be4, N1, V_b2⟩ | (rw [e5]; exact ⟨b2, rfl, le0_b2, be4, N1, V_b2⟩)) (by decide) (by decide)
theorem ef_rm_enA (m : MethodId) (x0 : Addr) (x1 : Int32) (x2 : Addr) : entryFrame m #[(.ref x0), (.int x1), (.ref x2)] 3 = mkF m 0 #[.val (.ref x0), .val (.int x1), .val (.ref x2)] [] := by first | (simp [entryFrame, mkF, argsToLocals, Value.category]; done) | rfl
set_option maxRecDepth 65536 in
set_option maxHeartbeats 40000000 in
theorem rm_enA (l : Launch) (Z : State) (a0 : Array Value) (hw : ∀ d ∈ tables_1, d.before a0 Z = true) (u8 ua ui a1 : Addr) (bs : List Int32) (h0 : Heap) (n0 : Nat) (Z0 : n0 ≤ h0.size) (hb8 : bs.length ≤ 8) (hpos : ∀ i, i < bs.length → ¬ bs.getD i 0 < (0 : Int32)) (S_u8 : Sta Z h0 "sun/nio/cs/UTF_8" "INSTANCE" "Lsun/nio/cs/UTF_8;" (.ref u8)) (S_ua : Sta Z h0 "sun/nio/cs/US_ASCII" "INSTANCE" "Lsun/nio/cs/US_ASCII;" (.ref ua)) (S_ui : Sta Z h0 "sun/nio/cs/ISO_8859_1" "INSTANCE" "Lsun/nio/cs/ISO_8859_1;" (.ref ui)) (ne8 : ua ≠ u8) (neI : ua ≠ ui) (V1 : own_Bl Z h0 a1 bs) :
  own_Met l Z (⟨"java/lang/String", "encode", "(Ljava/nio/charset/Charset;B[B)[B"⟩ : MethodName) jdk_42_method_18_code 3 (some (.array .byte)) ({ frames := 2, cells := 1, slots := 8, locals := 34 } : Room) #[(.ref ua), (.int (0 : Int32)), (.ref a1)] h0 (fun v h L => ∃ b : Addr, v = some (.ref b) ∧ h0.size ≤ b ∧ Ext h0 h ∧ Fr n0 L ∧ own_Bl Z h b bs) := by
 refine own_body (plainFor_of_name (by first | (simp [plainName, overriddenIn]; done) | decide +kernel)) ?_
 intro p e s m below meth c s₁ hx hby hml hown hnm hlk hrt hZ X0 e0
 refine own_enter (ef_rm_enA m ua (0 : Int32) a1) ?_
 have N0 := Fr.nil n0
 refine own_aloadN X0 hx hby o22_0 (pc' := 1) rfl rfl rfl ?_
 refine own_getS X0 hx hby hZ hown (host := "") (Or.inl (ow_72 hw)) Via.refl e0 S_u8 o22_1 (pc' := 4) rfl ?_
 intro T1 X1 e1
 refine own_acmp X1 hx hby o22_4 rfl rfl (same := false) (by simpa using ne8) (by decide) (pc' := 14) (by decide) ?_
 refine own_aloadN X1 hx hby o22_14 (pc' := 15) rfl rfl rfl ?_
 refine own_getS X1 hx hby hZ hown (host := "") (Or.inl (ow_218 hw)) Via.refl e1 S_ui o22_15 (pc' := 18) rfl ?_
 intro T2 X2 e2
 refine own_acmp X2 hx hby o22_18 rfl rfl (same := false) (by simpa using neI) (by decide) (pc' := 27) (by decide) ?_
 refine own_aloadN X2 hx hby o22_27 (pc' := 28) rfl rfl rfl ?_
 refine own_getS X2 hx hby hZ hown (host := "") (Or.inl (ow_220 hw)) Via.refl e2 S_ua o22_28 (pc' := 31) rfl ?_
 intro T3 X3 e3
 refine own_acmp X3 hx hby o22_31 rfl rfl (same := true) (by simp) (by decide) (pc' := 34) (by decide) ?_
 refine own_iloadN X3 hx hby o22_34 (pc' := 35) rfl rfl ?_
 refine own_aloadN X3 hx hby o22_35 (pc' := 36) rfl rfl rfl ?_
 refine own_callM X3 hx hby hml hZ hown (ow_222 hw) (ow_223 hw) (ow_9 hw) (ow_224 hw) (by decide) (cc := 1) (ss := 8) (rm_eA l Z a0 hw a1 bs h0 n0 Z0 hb8 hpos V1) 0 rfl rfl (by decide) (by decide) rfl (argsL := [(.int (0 : Int32)), (.ref a1)]) (rest := []) opd_17 rfl rfl (Nat.le_refl _) o22_36 (pc' := 39) rfl rfl e3 (by decide) (by decide) ?_
 rintro v4 T4 h4 L4 X4 e4 ⟨bc, rfl, lb4, Eq4, Nq4, VB⟩
 have ne_a1_bc : a1 ≠ bc := Nat.ne_of_lt (Nat.lt_of_lt_of_le V1.lt lb4)
 have n0_bc : n0 ≤ bc := Nat.le_trans Z0 lb4
 have le0_bc : h0.size ≤ bc := Nat.le_trans (Nat.le_refl _) lb4
 have N4 := N0.app Nq4
 have sz5 := Nat.le_trans (Nat.le_refl _) Eq4.1
 replace V1 := V1.ext Eq4
 have be6 := own_xt own_xr Eq4
 exact own_retA X4 hx hby hlk hrt rfl rfl o22_39 (by first | exact ⟨bc, rfl, le0_bc, be6, N4, VB⟩ | (rw [e4]; exact ⟨bc, rfl, le0_bc, be6, N4, VB⟩)) (by decide) (by decide)
theorem ef_rm_gbA (m : MethodId) (x0 : Addr) (x1 : Addr) : entryFrame m #[(.ref x0), (.ref x1)] 2 = mkF m 0 #[.val (.ref x0), .val (.ref x1)] [] := by first | (simp [entryFrame, mkF, argsToLocals, Value.category]; done) | rfl
set_option maxRecDepth 65536 in
set_option maxHeartbeats 40000000 in
theorem rm_gbA (l : Launch) (Z : State) (a0 : Array Value) (hw : ∀ d ∈ tables_1, d.before a0 Z = true) (a1 u8 ua ui : Addr) (bs : List Int32) (G1 : Int32) (h0 : Heap) (n0 : Nat) (Z0 : n0 ≤ h0.size) (hb8 : bs.length ≤ 8) (hpos : ∀ i, i < bs.length → ¬ bs.getD i 0 < (0 : Int32)) (S_u8 : Sta Z h0 "sun/nio/cs/UTF_8" "INSTANCE" "Lsun/nio/cs/UTF_8;" (.ref u8)) (S_ua : Sta Z h0 "sun/nio/cs/US_ASCII" "INSTANCE" "Lsun/nio/cs/US_ASCII;" (.ref ua)) (S_ui : Sta Z h0 "sun/nio/cs/ISO_8859_1" "INSTANCE" "Lsun/nio/cs/ISO_8859_1;" (.ref ui)) (ne8 : ua ≠ u8) (neI : ua ≠ ui) (S_cs : Sta Z h0 "java/lang/String" "COMPACT_STRINGS" "Z" (.int G1)) (P5 : ¬ (G1 = (0 : Int32))) (V1 : own_SL Z h0 a1 bs) :
  own_Met l Z (⟨"java/lang/String", "getBytes", "(Ljava/nio/charset/Charset;)[B"⟩ : MethodName) jdk_42_method_64_code 2 (some (.array .byte)) ({ frames := 3, cells := 1, slots := 8, locals := 48 } : Room) #[(.ref a1), (.ref ua)] h0 (fun v h L => ∃ b : Addr, v = some (.ref b) ∧ h0.size ≤ b ∧ Ext h0 h ∧ Fr n0 L ∧ own_Bl Z h b bs) := by
 refine own_body (plainFor_of_name (by first | (simp [plainName, overriddenIn]; done) | decide +kernel)) ?_
 intro p e s m below meth c s₁ hx hby hml hown hnm hlk hrt hZ X0 e0
 refine own_enter (ef_rm_gbA m a1 ua) ?_
 have N0 := Fr.nil n0
 obtain ⟨A1, F_c, bv, F_v, VF⟩ := V1
 refine own_aloadN X0 hx hby o23_0 (pc' := 1) rfl rfl rfl ?_
 refine own_ifnonnullY X0 hx hby o23_1 (by decide) (pc' := 12) (by decide) ?_
 refine own_aloadN X0 hx hby o23_12 (pc' := 13) rfl rfl rfl ?_
 refine own_aloadN X0 hx hby o23_13 (pc' := 14) rfl rfl rfl ?_
 refine own_virtM X0 hx hby hml hZ hown (ow_63 hw) (ow_64 hw) (notFace_of_selects (args := #[]) (mvT hZ (ow_66 hw))) (ow_66 hw) (ow_65 hw) (ow_9 hw) (ow_67 hw) (by decide) (cc := 0) (ss := 0) (rm_coder l Z a0 hw a1 (0 : Int32) G1 h0 n0 Z0 rfl S_cs P5 F_c) 1 rfl rfl (by decide) (by decide) rfl A1 (argsL := []) (rest := [(.ref ua)]) opd_15 rfl rfl (Nat.le_refl _) o23_14 (pc' := 17) rfl rfl e0 (by decide) (by decide) ?_
 rintro v1 T1 h1 L1 X1 e1 ⟨rfl, Nq1, rfl⟩
 have N1 := N0.app Nq1
 refine own_aloadN X1 hx hby o23_17 (pc' := 18) rfl rfl rfl ?_
 refine own_getF X1 hx hby hZ hown (host := "") (Or.inl (ow_25 hw)) Via.refl e1 F_v o23_18 (pc' := 21) rfl ?_
 intro T2 X2 e2
 refine own_callM X2 hx hby hml hZ hown (ow_69 hw) (ow_70 hw) (ow_9 hw) (ow_71 hw) (by decide) (cc := 1) (ss := 8) (rm_enA l Z a0 hw u8 ua ui bv bs h0 n0 Z0 hb8 hpos S_u8 S_ua S_ui ne8 neI VF) 0 rfl rfl (by decide) (by decide) rfl (argsL := [(.ref ua), (.int (0 : Int32)), (.ref bv)]) (rest := []) opd_16 rfl rfl (Nat.le_refl _) o23_21 (pc' := 24) rfl rfl e2 (by decide) (by decide) ?_
 rintro v3 T3 h3 L3 X3 e3 ⟨bc, rfl, lb3, Eq3, Nq3, VB⟩
 have ne_bv_bc : bv ≠ bc := Nat.ne_of_lt (Nat.lt_of_lt_of_le VF.lt lb3)
 have ne_a1_bc : a1 ≠ bc := Nat.ne_of_lt (Nat.lt_of_lt_of_le A1.lt lb3)
 have n0_bc : n0 ≤ bc := Nat.le_trans Z0 lb3
 have le0_bc : h0.size ≤ bc := Nat.le_trans (Nat.le_refl _) lb3
 have N3 := N1.app Nq3
 have sz4 := Nat.le_trans (Nat.le_refl _) Eq3.1
 replace VF := VF.ext Eq3
 replace A1 := A1.ext Eq3
 replace F_v := F_v.ext Eq3
 replace F_c := F_c.ext Eq3
 have be5 := own_xt own_xr Eq3
 exact own_retA X3 hx hby hlk hrt rfl rfl o23_24 (by first | exact ⟨bc, rfl, le0_bc, be5, N3, VB⟩ | (rw [e3]; exact ⟨bc, rfl, le0_bc, be5, N3, VB⟩)) (by decide) (by decide)
theorem ef_rm_asb (m : MethodId) (x0 : Addr) (x1 : Int32) : entryFrame m #[(.ref x0), (.int x1)] 2 = mkF m 0 #[.val (.ref x0), .val (.int x1)] [] := by first | (simp [entryFrame, mkF, argsToLocals, Value.category]; done) | rfl
set_option maxRecDepth 65536 in
set_option maxHeartbeats 40000000 in
theorem rm_asb (l : Launch) (Z : State) (a0 : Array Value) (hw : ∀ d ∈ tables_1, d.before a0 Z = true) (a1 : Addr) (G1 : Int32) (h0 : Heap) (n0 : Nat) (Z0 : n0 ≤ h0.size) (S_cs : Sta Z h0 "java/lang/String" "COMPACT_STRINGS" "Z" (.int G1)) (P5 : ¬ (G1 = (0 : Int32))) (n0_a1 : n0 ≤ a1) (A1 : Exa Z h0 a1 "java/lang/StringBuilder") (F_v : Fld Z h0 a1 "java/lang/AbstractStringBuilder" "value" "[B" .null) (F_c : Fld Z h0 a1 "java/lang/AbstractStringBuilder" "coder" "B" (.int (0 : Int32))) (F_n : Fld Z h0 a1 "java/lang/AbstractStringBuilder" "count" "I" (.int (0 : Int32))) :
  own_Met l Z (⟨"java/lang/AbstractStringBuilder", "<init>", "(I)V"⟩ : MethodName) jdk_68_method_2_code 2 none ({ frames := 1, cells := 1, slots := 16, locals := 12 } : Room) #[(.ref a1), (.int (Int32.ofNat 16))] h0 (fun v h L => v = none ∧ Fr n0 L ∧ Keep h0 h [a1] ∧ ∃ vb : Addr, h0.size ≤ vb ∧ own_SB2 Z h a1 vb []) := by
 refine own_body (plainFor_of_name (by first | (simp [plainName, overriddenIn]; done) | decide +kernel)) ?_
 intro p e s m below meth c s₁ hx hby hml hown hnm hlk hrt hZ X0 e0
 refine own_enter (ef_rm_asb m a1 (Int32.ofNat 16)) ?_
 have N0 := Fr.nil n0
 have lta1 := A1.lt
 have kx0 := Keep.refl h0 [a1]
 refine own_aloadN X0 hx hby o25_0 (pc' := 1) rfl rfl rfl ?_
 refine own_initO X0 hx hby hZ hml hown (ow_105 hw) (ow_18 hw) (ow_19 hw) e0 rfl o25_1 (pc' := 4) rfl (by decide) (W := 0) (Nat.le_refl _) (by decide) ?_
 intro T1 X1 e1
 refine own_getS X1 hx hby hZ hown (host := "") (Or.inl (ow_106 hw)) Via.refl e1 S_cs o25_4 (pc' := 7) rfl ?_
 intro T2 X2 e2
 refine own_ifN X2 hx hby o25_7 (pc' := 10) rfl (feq P5).1 ?_
 refine own_aloadN X2 hx hby o25_10 (pc' := 11) rfl rfl rfl ?_
 refine own_iloadN X2 hx hby o25_11 (pc' := 12) rfl rfl ?_
 refine own_nB (N := 16) X2 hx hby hZ (ow_0 hw) e2 o25_12 (pc' := 14) rfl (cap := 16) (Nat.le_refl _) (by decide) (by decide) (by decide) ?_
 intro T3 h3 b3 g3 X3 e3 E3 V_b3
 have ne_a1_b3 : a1 ≠ b3 := own_nl A1.lt g3
 have n0_b3 : n0 ≤ b3 := Nat.le_trans Z0 (Nat.le_of_eq g3.symm)
 have le0_b3 : h0.size ≤ b3 := Nat.le_trans (Nat.le_refl _) (Nat.le_of_eq g3.symm)
 have sz4 := Nat.le_trans (Nat.le_refl _) E3.1
 replace A1 := A1.ext E3
 replace F_v := F_v.ext E3
 replace F_c := F_c.ext E3
 replace F_n := F_n.ext E3
 have be5 := own_xt own_xr E3
 have kx6 := kx0.ext E3
 have VP := own_Pre.new V_b3
 refine own_putF X3 hx hby hZ hown (host := "") (Or.inl (ow_107 hw)) Via.refl e3 F_v A1 (Or.inl (ow_108 hw)) (ow_94 hw) (ty := (.array .byte)) (by decide) rfl rfl o25_14 (pc' := 17) rfl ?_
 intro T7 h7 X7 e7 W7 F7_value_a1 A7_a1
 replace F_c := F_c.other W7 (Or.inr (slot_ne (Or.inl (ow_110 hw)) (Or.inl (ow_108 hw)) (by decide) (t := .byte) (t' := (.array .byte)) (by decide) (by decide)))
 replace F_n := F_n.other W7 (Or.inr (slot_ne (Or.inl (ow_122 hw)) (Or.inl (ow_108 hw)) (by decide) (t := .int) (t' := (.array .byte)) (by decide) (by decide)))
 have sz8 := Nat.le_trans sz4 (Keep.of_wr W7).1
 replace VP := VP.other W7 (Ne.symm ne_a1_b3)
 have kx9 := kx6.wr W7 (Or.inl (List.mem_of_getElem? (i := 0) rfl))
 have N7 := own_fr1 (sl := Jvm.RoadKit.slotOf Z "java/lang/AbstractStringBuilder" "value" "[B") N0 n0_a1
 refine own_aloadN X7 hx hby o25_17 (pc' := 18) rfl rfl rfl ?_
 refine own_iconst X7 hx hby o25_18 (pc' := 19) rfl (z := 0) rfl ?_
 refine own_putFN X7 hx hby hZ hown (ow_109 hw) Via.refl e7 F_c A7_a1 (Or.inl (ow_110 hw)) (ow_94 hw) (ty := .byte) (v' := (.int (0 : Int32))) (by decide) rfl rfl o25_19 (pc' := 22) rfl ?_
 intro T10 h10 X10 e10 W10 F10_coder_a1 A10_a1
 replace F7_value_a1 := F7_value_a1.other W10 (Or.inr (slot_ne (Or.inl (ow_108 hw)) (Or.inl (ow_110 hw)) (by decide) (t := (.array .byte)) (t' := .byte) (by decide) (by decide)))
 replace F_n := F_n.other W10 (Or.inr (slot_ne (Or.inl (ow_122 hw)) (Or.inl (ow_110 hw)) (by decide) (t := .int) (t' := .byte) (by decide) (by decide)))
 have sz11 := Nat.le_trans sz8 (Keep.of_wr W10).1
 replace VP := VP.other W10 (Ne.symm ne_a1_b3)
 have kx12 := kx9.wr W10 (Or.inl (List.mem_of_getElem? (i := 0) rfl))
 have N10 := own_fr1 (sl := Jvm.RoadKit.slotOf Z "java/lang/AbstractStringBuilder" "coder" "B") N7 n0_a1
 refine own_goto X10 hx hby o25_22 (by decide) (pc' := 38) (by decide) ?_
 exact own_ret0 X10 hx hby hlk hrt o25_38 (by first | exact ⟨rfl, N10, kx12, b3, le0_b3, A10_a1, F7_value_a1, F10_coder_a1, F_n, VP, Ne.symm (Nat.ne_of_gt (Nat.lt_of_lt_of_le lta1 le0_b3))⟩ | (rw [e10]; exact ⟨rfl, N10, kx12, b3, le0_b3, A10_a1, F7_value_a1, F10_coder_a1, F_n, VP, Ne.symm (Nat.ne_of_gt (Nat.lt_of_lt_of_le lta1 le0_b3))⟩)) (by decide) (by decide)
theorem ef_rm_sbi (m : MethodId) (x0 : Addr) : entryFrame m #[(.ref x0)] 1 = mkF m 0 #[.val (.ref x0)] [] := by first | (simp [entryFrame, mkF, argsToLocals, Value.category]; done) | rfl
set_option maxRecDepth 65536 in
set_option maxHeartbeats 40000000 in
theorem rm_sbi (l : Launch) (Z : State) (a0 : Array Value) (hw : ∀ d ∈ tables_1, d.before a0 Z = true) (a1 : Addr) (G1 : Int32) (h0 : Heap) (n0 : Nat) (Z0 : n0 ≤ h0.size) (S_cs : Sta Z h0 "java/lang/String" "COMPACT_STRINGS" "Z" (.int G1)) (P5 : ¬ (G1 = (0 : Int32))) (n0_a1 : n0 ≤ a1) (A1 : Exa Z h0 a1 "java/lang/StringBuilder") (F_v : Fld Z h0 a1 "java/lang/AbstractStringBuilder" "value" "[B" .null) (F_c : Fld Z h0 a1 "java/lang/AbstractStringBuilder" "coder" "B" (.int (0 : Int32))) (F_n : Fld Z h0 a1 "java/lang/AbstractStringBuilder" "count" "I" (.int (0 : Int32))) :
  own_Met l Z (⟨"java/lang/StringBuilder", "<init>", "()V"⟩ : MethodName) jdk_67_method_1_code 1 none ({ frames := 2, cells := 1, slots := 16, locals := 25 } : Room) #[(.ref a1)] h0 (fun v h L => v = none ∧ Fr n0 L ∧ Keep h0 h [a1] ∧ ∃ vb : Addr, h0.size ≤ vb ∧ own_SB2 Z h a1 vb []) := by
 refine own_body (plainFor_of_name (by first | (simp [plainName, overriddenIn]; done) | decide +kernel)) ?_
 intro p e s m below meth c s₁ hx hby hml hown hnm hlk hrt hZ X0 e0
 refine own_enter (ef_rm_sbi m a1) ?_
 have N0 := Fr.nil n0
 have kx0 := Keep.refl h0 [a1]
 refine own_aloadN X0 hx hby o26_0 (pc' := 1) rfl rfl rfl ?_
 refine own_bipush X0 hx hby o26_1 (pc' := 3) rfl (z := 16) rfl ?_
 refine own_specM X0 hx hby hml hZ hown rfl (ow_99 hw) (ow_100 hw) (ow_103 hw) (ow_104 hw) (by decide) (cc := 1) (ss := 16) (rm_asb l Z a0 hw a1 G1 h0 n0 Z0 S_cs P5 n0_a1 A1 F_v F_c F_n) 0 rfl rfl (by decide) (by decide) rfl (argsL := [(.int (16 : Int32))]) (rest := []) opd_18 rfl rfl (Nat.le_refl _) o26_3 (pc' := 6) rfl rfl e0 (by decide) (by decide) ?_
 rintro v1 T1 h1 L1 X1 e1 ⟨rfl, Nq1, Kq1, vb, hvb, O⟩
 have N1 := N0.app Nq1
 have sz2 := Nat.le_trans (Nat.le_refl _) Kq1.1
 replace A1 := A1.keep Kq1
 have kx3 := kx0.trans Kq1 (allS (Or.inl (List.mem_of_getElem? (i := 0) rfl)) all0)
 exact own_ret0 X1 hx hby hlk hrt o26_6 (by first | exact ⟨rfl, N1, kx3, vb, hvb, O⟩ | (rw [e1]; exact ⟨rfl, N1, kx3, vb, hvb, O⟩)) (by decide) (by decide)
theorem ef_rm_ss1 (m : MethodId) (x0 : Int32) : entryFrame m #[(.int x0)] 4 = mkF m 0 #[.val (.int x0), .unset, .unset, .unset] [] := by first | (simp [entryFrame, mkF, argsToLocals, Value.category]; done) | rfl
set_option maxRecDepth 65536 in
set_option maxHeartbeats 40000000 in
theorem rm_ss1 (l : Launch) (Z : State) (a0 : Array Value) (hw : ∀ d ∈ tables_1, d.before a0 Z = true) (pp : Nat) (h0 : Heap) (n0 : Nat) (Z0 : n0 ≤ h0.size) (hp : pp < 10) :
  own_Met l Z (⟨"java/lang/Integer", "stringSize", "(I)I"⟩ : MethodName) jdk_33_method_13_code 4 (some .int) ({ frames := 0, cells := 0, slots := 0, locals := 0 } : Room) #[(.int (Int32.ofNat pp))] h0 (fun v h L => v = some (.int (Int32.ofNat 1)) ∧ Fr n0 L ∧ h0 = h) := by
 refine own_body (plainFor_of_name (by first | (simp [plainName, overriddenIn]; done) | decide +kernel)) ?_
 intro p e s m below meth c s₁ hx hby hml hown hnm hlk hrt hZ X0 e0
 refine own_enter (ef_rm_ss1 m (Int32.ofNat pp)) ?_
 have N0 := Fr.nil n0
 refine own_iconst X0 hx hby o27_0 (pc' := 1) rfl (z := 1) rfl ?_
 refine own_istoreN X0 hx hby o27_1 (pc' := 2) rfl (Ls' := #[.val (.int (Int32.ofNat pp)), .val (.int (1 : Int32)), .unset, .unset]) rfl ?_
 refine own_iloadN X0 hx hby o27_2 (pc' := 3) rfl rfl ?_
 refine own_ifN X0 hx hby o27_3 (pc' := 6) rfl (flt (own_ipos (by omega))).1 ?_
 refine own_iconst X0 hx hby o27_6 (pc' := 7) rfl (z := 0) rfl ?_
 refine own_istoreN X0 hx hby o27_7 (pc' := 8) rfl (Ls' := #[.val (.int (Int32.ofNat pp)), .val (.int (0 : Int32)), .unset, .unset]) rfl ?_
 refine own_iloadN X0 hx hby o27_8 (pc' := 9) rfl rfl ?_
 refine own_ineg X0 hx hby o27_9 (pc' := 10) rfl ?_
 refine own_istoreN X0 hx hby o27_10 (pc' := 11) rfl (Ls' := #[.val (.int (-(Int32.ofNat pp))), .val (.int (0 : Int32)), .unset, .unset]) rfl ?_
 refine own_bipush X0 hx hby o27_11 (pc' := 13) rfl (z := (-10)) rfl ?_
 refine own_istoreN X0 hx hby o27_13 (pc' := 14) rfl (Ls' := #[.val (.int (-(Int32.ofNat pp))), .val (.int (0 : Int32)), .val (.int (-10 : Int32)), .unset]) rfl ?_
 refine own_iconst X0 hx hby o27_14 (pc' := 15) rfl (z := 1) rfl ?_
 refine own_istoreN X0 hx hby o27_15 (pc' := 16) rfl (Ls' := #[.val (.int (-(Int32.ofNat pp))), .val (.int (0 : Int32)), .val (.int (-10 : Int32)), .val (.int (1 : Int32))]) rfl ?_
 refine own_iloadN X0 hx hby o27_16 (pc' := 17) rfl rfl ?_
 refine own_bipush X0 hx hby o27_17 (pc' := 19) rfl (z := 10) rfl ?_
 refine own_icmpN X0 hx hby o27_19 (pc' := 22) rfl (tlt (by decide)).2.1 ?_
 refine own_iloadN X0 hx hby o27_22 (pc' := 23) rfl rfl ?_
 refine own_iloadN X0 hx hby o27_23 (pc' := 24) rfl rfl ?_
 refine own_icmpN X0 hx hby o27_24 (pc' := 27) rfl (tlt (own_ss1 hp)).2.2.2 ?_
 refine own_iloadN X0 hx hby o27_27 (pc' := 28) rfl rfl ?_
 refine own_iloadN X0 hx hby o27_28 (pc' := 29) rfl rfl ?_
 refine own_iadd X0 hx hby o27_29 (pc' := 30) rfl ?_
 exact own_retI X0 hx hby hlk hrt o27_30 (by first | exact ⟨congrArg (fun z => some (Value.int z)) (by decide), N0, rfl⟩ | (rw [e0]; exact ⟨congrArg (fun z => some (Value.int z)) (by decide), N0, rfl⟩)) (by decide) (by decide)
theorem ef_rm_ss2 (m : MethodId) (x0 : Int32) : entryFrame m #[(.int x0)] 4 = mkF m 0 #[.val (.int x0), .unset, .unset, .unset] [] := by first | (simp [entryFrame, mkF, argsToLocals, Value.category]; done) | rfl
set_option maxRecDepth 65536 in
set_option maxHeartbeats 40000000 in
theorem rm_ss2 (l : Launch) (Z : State) (a0 : Array Value) (hw : ∀ d ∈ tables_1, d.before a0 Z = true) (pp : Nat) (h0 : Heap) (n0 : Nat) (Z0 : n0 ≤ h0.size) (hp1 : 10 ≤ pp) (hp2 : pp < 13) :
  own_Met l Z (⟨"java/lang/Integer", "stringSize", "(I)I"⟩ : MethodName) jdk_33_method_13_code 4 (some .int) ({ frames := 0, cells := 0, slots := 0, locals := 0 } : Room) #[(.int (Int32.ofNat pp))] h0 (fun v h L => v = some (.int (Int32.ofNat 2)) ∧ Fr n0 L ∧ h0 = h) := by
 refine own_body (plainFor_of_name (by first | (simp [plainName, overriddenIn]; done) | decide +kernel)) ?_
 intro p e s m below meth c s₁ hx hby hml hown hnm hlk hrt hZ X0 e0
 refine own_enter (ef_rm_ss2 m (Int32.ofNat pp)) ?_
 have N0 := Fr.nil n0
 refine own_iconst X0 hx hby o27_0 (pc' := 1) rfl (z := 1) rfl ?_
 refine own_istoreN X0 hx hby o27_1 (pc' := 2) rfl (Ls' := #[.val (.int (Int32.ofNat pp)), .val (.int (1 : Int32)), .unset, .unset]) rfl ?_
 refine own_iloadN X0 hx hby o27_2 (pc' := 3) rfl rfl ?_
 refine own_ifN X0 hx hby o27_3 (pc' := 6) rfl (flt (own_ipos (by omega))).1 ?_
 refine own_iconst X0 hx hby o27_6 (pc' := 7) rfl (z := 0) rfl ?_
 refine own_istoreN X0 hx hby o27_7 (pc' := 8) rfl (Ls' := #[.val (.int (Int32.ofNat pp)), .val (.int (0 : Int32)), .unset, .unset]) rfl ?_
 refine own_iloadN X0 hx hby o27_8 (pc' := 9) rfl rfl ?_
 refine own_ineg X0 hx hby o27_9 (pc' := 10) rfl ?_
 refine own_istoreN X0 hx hby o27_10 (pc' := 11) rfl (Ls' := #[.val (.int (-(Int32.ofNat pp))), .val (.int (0 : Int32)), .unset, .unset]) rfl ?_
 refine own_bipush X0 hx hby o27_11 (pc' := 13) rfl (z := (-10)) rfl ?_
 refine own_istoreN X0 hx hby o27_13 (pc' := 14) rfl (Ls' := #[.val (.int (-(Int32.ofNat pp))), .val (.int (0 : Int32)), .val (.int (-10 : Int32)), .unset]) rfl ?_
 refine own_iconst X0 hx hby o27_14 (pc' := 15) rfl (z := 1) rfl ?_
 refine own_istoreN X0 hx hby o27_15 (pc' := 16) rfl (Ls' := #[.val (.int (-(Int32.ofNat pp))), .val (.int (0 : Int32)), .val (.int (-10 : Int32)), .val (.int (1 : Int32))]) rfl ?_
 refine own_iloadN X0 hx hby o27_16 (pc' := 17) rfl rfl ?_
 refine own_bipush X0 hx hby o27_17 (pc' := 19) rfl (z := 10) rfl ?_
 refine own_icmpN X0 hx hby o27_19 (pc' := 22) rfl (tlt (by decide)).2.1 ?_
 refine own_iloadN X0 hx hby o27_22 (pc' := 23) rfl rfl ?_
 refine own_iloadN X0 hx hby o27_23 (pc' := 24) rfl rfl ?_
 refine own_icmpY X0 hx hby o27_24 (by decide) (pc' := 31) (by decide) (flt (own_ss2 hp1 hp2).1).2.2.2 ?_
 refine own_bipush X0 hx hby o27_31 (pc' := 33) rfl (z := 10) rfl ?_
 refine own_iloadN X0 hx hby o27_33 (pc' := 34) rfl rfl ?_
 refine own_imul X0 hx hby o27_34 (pc' := 35) rfl ?_
 refine own_istoreN X0 hx hby o27_35 (pc' := 36) rfl (Ls' := #[.val (.int (-(Int32.ofNat pp))), .val (.int (0 : Int32)), .val (.int ((10 : Int32) * (-10 : Int32))), .val (.int (1 : Int32))]) rfl ?_
 refine own_iinc X0 hx hby o27_36 (pc' := 39) rfl rfl (z := 1) rfl (Ls' := #[.val (.int (-(Int32.ofNat pp))), .val (.int (0 : Int32)), .val (.int ((10 : Int32) * (-10 : Int32))), .val (.int ((1 : Int32) + (1 : Int32)))]) rfl ?_
 refine own_goto X0 hx hby o27_39 (by decide) (pc' := 16) (by decide) ?_
 refine own_iloadN X0 hx hby o27_16 (pc' := 17) rfl rfl ?_
 refine own_bipush X0 hx hby o27_17 (pc' := 19) rfl (z := 10) rfl ?_
 refine own_icmpN X0 hx hby o27_19 (pc' := 22) rfl (tlt (by decide)).2.1 ?_
 refine own_iloadN X0 hx hby o27_22 (pc' := 23) rfl rfl ?_
 refine own_iloadN X0 hx hby o27_23 (pc' := 24) rfl rfl ?_
 refine own_icmpN X0 hx hby o27_24 (pc' := 27) rfl (tlt (own_ss2 hp1 hp2).2).2.2.2 ?_
 refine own_iloadN X0 hx hby o27_27 (pc' := 28) rfl rfl ?_
 refine own_iloadN X0 hx hby o27_28 (pc' := 29) rfl rfl ?_
 refine own_iadd X0 hx hby o27_29 (pc' := 30) rfl ?_
 exact own_retI X0 hx hby hlk hrt o27_30 (by first | exact ⟨congrArg (fun z => some (Value.int z)) (by decide), N0, rfl⟩ | (rw [e0]; exact ⟨congrArg (fun z => some (Value.int z)) (by decide), N0, rfl⟩)) (by decide) (by decide)
theorem ef_rm_eci (m : MethodId) (x0 : Addr) (x1 : Int32) : entryFrame m #[(.ref x0), (.int x1)] 3 = mkF m 0 #[.val (.ref x0), .val (.int x1), .unset] [] := by first | (simp [entryFrame, mkF, argsToLocals, Value.category]; done) | rfl
set_option maxRecDepth 65536 in
set_option maxHeartbeats 40000000 in
theorem rm_eci (l : Launch) (Z : State) (a0 : Array Value) (hw : ∀ d ∈ tables_1, d.before a0 Z = true) (a1 vb : Addr) (k : Nat) (cn : Int32) (out : List Int32) (h0 : Heap) (n0 : Nat) (Z0 : n0 ≤ h0.size) (hk : k ≤ 16) (n0_a1 : n0 ≤ a1) (n0_vb : n0 ≤ vb) (nesv : a1 ≠ vb) (A1 : Exa Z h0 a1 "java/lang/StringBuilder") (F_v : Fld Z h0 a1 "java/lang/AbstractStringBuilder" "value" "[B" (.ref vb)) (F_c : Fld Z h0 a1 "java/lang/AbstractStringBuilder" "coder" "B" (.int (0 : Int32))) (F_n : Fld Z h0 a1 "java/lang/AbstractStringBuilder" "count" "I" (.int cn)) (VP : own_Pre Z h0 vb 16 out) :
  own_Met l Z (⟨"java/lang/AbstractStringBuilder", "ensureCapacityInternal", "(I)V"⟩ : MethodName) jdk_68_method_9_code 3 none ({ frames := 0, cells := 0, slots := 0, locals := 0 } : Room) #[(.ref a1), (.int (Int32.ofNat k))] h0 (fun v h L => v = none ∧ Fr n0 L ∧ h0 = h) := by
 refine own_body (plainFor_of_name (by first | (simp [plainName, overriddenIn]; done) | decide +kernel)) ?_
 intro p e s m below meth c s₁ hx hby hml hown hnm hlk hrt hZ X0 e0
 refine own_enter (ef_rm_eci m a1 (Int32.ofNat k)) ?_
 have N0 := Fr.nil n0
 refine own_aloadN X0 hx hby o28_0 (pc' := 1) rfl rfl rfl ?_
 refine own_getF X0 hx hby hZ hown (host := "") (Or.inl (ow_107 hw)) Via.refl e0 F_v o28_1 (pc' := 4) rfl ?_
 intro T1 X1 e1
 refine own_lP X1 hx hby hZ e1 VP o28_4 (pc' := 5) rfl ?_
 refine own_aloadN X1 hx hby o28_5 (pc' := 6) rfl rfl rfl ?_
 refine own_getF X1 hx hby hZ hown (host := "") (Or.inl (ow_109 hw)) Via.refl e1 F_c o28_6 (pc' := 9) rfl ?_
 intro T2 X2 e2
 refine own_ishr X2 hx hby o28_9 (pc' := 10) rfl ?_
 refine own_istoreN X2 hx hby o28_10 (pc' := 11) rfl (Ls' := #[.val (.ref a1), .val (.int (Int32.ofNat k)), .val (.int ((Int32.ofNat 16) >>> ((0 : Int32) &&& 31)))]) rfl ?_
 refine own_iloadN X2 hx hby o28_11 (pc' := 12) rfl rfl ?_
 refine own_iloadN X2 hx hby o28_12 (pc' := 13) rfl rfl ?_
 refine own_isub X2 hx hby o28_13 (pc' := 14) rfl ?_
 refine own_ifY X2 hx hby o28_14 (by decide) (pc' := 38) (by decide) (flt (own_cap16 hk)).2.2.2 ?_
 exact own_ret0 X2 hx hby hlk hrt o28_38 (by first | exact ⟨rfl, N0, rfl⟩ | (rw [e2]; exact ⟨rfl, N0, rfl⟩)) (by decide) (by decide)
theorem ef_rm_isL (m : MethodId) (x0 : Addr) : entryFrame m #[(.ref x0)] 1 = mkF m 0 #[.val (.ref x0)] [] := by first | (simp [entryFrame, mkF, argsToLocals, Value.category]; done) | rfl
set_option maxRecDepth 65536 in
set_option maxHeartbeats 40000000 in
theorem rm_isL (l : Launch) (Z : State) (a0 : Array Value) (hw : ∀ d ∈ tables_1, d.before a0 Z = true) (a1 : Addr) (G1 : Int32) (h0 : Heap) (n0 : Nat) (Z0 : n0 ≤ h0.size) (S_cs : Sta Z h0 "java/lang/String" "COMPACT_STRINGS" "Z" (.int G1)) (P5 : ¬ (G1 = (0 : Int32))) (F_c : Fld Z h0 a1 "java/lang/AbstractStringBuilder" "coder" "B" (.int (0 : Int32))) :
  own_Met l Z (⟨"java/lang/AbstractStringBuilder", "isLatin1", "()Z"⟩ : MethodName) jdk_68_method_68_code 1 (some .boolean) ({ frames := 0, cells := 0, slots := 0, locals := 0 } : Room) #[(.ref a1)] h0 (fun v h L => v = some (.int (1 : Int32)) ∧ Fr n0 L ∧ h0 = h) := by
 refine own_body (plainFor_of_name (by first | (simp [plainName, overriddenIn]; done) | decide +kernel)) ?_
 intro p e s m below meth c s₁ hx hby hml hown hnm hlk hrt hZ X0 e0
 refine own_enter (ef_rm_isL m a1) ?_
 have N0 := Fr.nil n0
 refine own_getS X0 hx hby hZ hown (host := "") (Or.inl (ow_106 hw)) Via.refl e0 S_cs o29_0 (pc' := 3) rfl ?_
 intro T1 X1 e1
 refine own_ifN X1 hx hby o29_3 (pc' := 6) rfl (feq P5).1 ?_
 refine own_aloadN X1 hx hby o29_6 (pc' := 7) rfl rfl rfl ?_
 refine own_getF X1 hx hby hZ hown (host := "") (Or.inl (ow_109 hw)) Via.refl e1 F_c o29_7 (pc' := 10) rfl ?_
 intro T2 X2 e2
 refine own_ifN X2 hx hby o29_10 (pc' := 13) rfl (teq rfl).2 ?_
 refine own_iconst X2 hx hby o29_13 (pc' := 14) rfl (z := 1) rfl ?_
 refine own_goto X2 hx hby o29_14 (by decide) (pc' := 18) (by decide) ?_
 exact own_retN X2 hx hby hlk hrt (by simp) o29_18 (z' := (1 : Int32)) rfl (by first | exact ⟨rfl, N0, rfl⟩ | (rw [e2]; exact ⟨rfl, N0, rfl⟩)) (by decide) (by decide)
theorem ef_rm_gc1 (m : MethodId) (x0 : Int32) (x1 : Int32) (x2 : Addr) : entryFrame m #[(.int x0), (.int x1), (.ref x2)] 7 = mkF m 0 #[.val (.int x0), .val (.int x1), .val (.ref x2), .unset, .unset, .unset, .unset] [] := by first | (simp [entryFrame, mkF, argsToLocals, Value.category]; done) | rfl
set_option maxRecDepth 65536 in
set_option maxHeartbeats 40000000 in
theorem rm_gc1 (l : Launch) (Z : State) (a0 : Array Value) (hw : ∀ d ∈ tables_1, d.before a0 Z = true) (vb d1 d2 : Addr) (pp : Nat) (g : Nat → Int32) (h0 : Heap) (n0 : Nat) (Z0 : n0 ≤ h0.size) (hp : pp < 10) (n0_vb : n0 ≤ vb) (ned1 : d1 ≠ vb) (ned2 : d2 ≠ vb) (S_d1 : Sta Z h0 "java/lang/Integer" "DigitOnes" "[B" (.ref d1)) (S_d2 : Sta Z h0 "java/lang/Integer" "DigitTens" "[B" (.ref d2)) (V_d1 : own_Fa Z h0 d1 .byte "[B" (fun _ => True) 100 (fun y_ => .int (own_on y_))) (V_d2 : own_Fa Z h0 d2 .byte "[B" (fun _ => True) 100 (fun y_ => .int (own_te y_))) (V1 : own_Fa Z h0 vb .byte "[B" (fun _ => True) 16 (fun y_ => .int (g y_))) :
  own_Met l Z (⟨"java/lang/Integer", "getChars", "(II[B)I"⟩ : MethodName) jdk_33_method_12_code 7 (some .int) ({ frames := 0, cells := 0, slots := 0, locals := 0 } : Room) #[(.int (Int32.ofNat pp)), (.int (Int32.ofNat 1)), (.ref vb)] h0 (fun v h L => v = some (.int (Int32.ofNat 0)) ∧ Fr n0 L ∧ Keep h0 h [vb] ∧ own_Pre Z h vb 16 (own_dg pp)) := by
 refine own_body (plainFor_of_name (by first | (simp [plainName, overriddenIn]; done) | decide +kernel)) ?_
 intro p e s m below meth c s₁ hx hby hml hown hnm hlk hrt hZ X0 e0
 refine own_enter (ef_rm_gc1 m (Int32.ofNat pp) (Int32.ofNat 1) vb) ?_
 have N0 := Fr.nil n0
 have kx0 := Keep.refl h0 [vb]
 have hp13 : pp < 13 := by omega
 refine own_iloadN X0 hx hby o30_0 (pc' := 1) rfl rfl ?_
 refine own_istore X0 hx hby o30_1 (pc' := 3) rfl (Ls' := #[.val (.int (Int32.ofNat pp)), .val (.int (Int32.ofNat 1)), .val (.ref vb), .unset, .unset, .val (.int (Int32.ofNat 1)), .unset]) rfl ?_
 refine own_iloadN X0 hx hby o30_3 (pc' := 4) rfl rfl ?_
 refine own_ifY X0 hx hby o30_4 (by decide) (pc' := 11) (by decide) (flt (own_ipos (by omega))).2.1 ?_
 refine own_iconst X0 hx hby o30_11 (pc' := 12) rfl (z := 0) rfl ?_
 refine own_istore X0 hx hby o30_12 (pc' := 14) rfl (Ls' := #[.val (.int (Int32.ofNat pp)), .val (.int (Int32.ofNat 1)), .val (.ref vb), .unset, .unset, .val (.int (Int32.ofNat 1)), .val (.int (0 : Int32))]) rfl ?_
 refine own_iload X0 hx hby o30_14 (pc' := 16) rfl rfl ?_
 refine own_ifN X0 hx hby o30_16 (pc' := 19) rfl (teq rfl).2 ?_
 refine own_iloadN X0 hx hby o30_19 (pc' := 20) rfl rfl ?_
 refine own_ineg X0 hx hby o30_20 (pc' := 21) rfl ?_
 refine own_istoreN X0 hx hby o30_21 (pc' := 22) rfl (Ls' := #[.val (.int (-(Int32.ofNat pp))), .val (.int (Int32.ofNat 1)), .val (.ref vb), .unset, .unset, .val (.int (Int32.ofNat 1)), .val (.int (0 : Int32))]) rfl ?_
 refine own_iloadN X0 hx hby o30_22 (pc' := 23) rfl rfl ?_
 refine own_bipush X0 hx hby o30_23 (pc' := 25) rfl (z := (-100)) rfl ?_
 refine own_icmpY X0 hx hby o30_25 (by decide) (pc' := 72) (by decide) (tlt (own_gc100 hp13)).2.2.1 ?_
 refine own_aloadN X0 hx hby o30_72 (pc' := 73) rfl rfl rfl ?_
 refine own_iinc X0 hx hby o30_73 (pc' := 76) rfl rfl (z := (-1)) rfl (Ls' := #[.val (.int (-(Int32.ofNat pp))), .val (.int (Int32.ofNat 1)), .val (.ref vb), .unset, .unset, .val (.int ((Int32.ofNat 1) + (-1 : Int32))), .val (.int (0 : Int32))]) rfl ?_
 rw [show (Int32.ofNat 1 + (-1 : Int32)) = Int32.ofNat 0 from rfl]
 refine own_iload X0 hx hby o30_76 (pc' := 78) rfl rfl ?_
 refine own_getS X0 hx hby hZ hown (host := "") (Or.inl (ow_140 hw)) Via.refl e0 S_d1 o30_78 (pc' := 81) rfl ?_
 intro T1 X1 e1
 refine own_iloadN X1 hx hby o30_81 (pc' := 82) rfl rfl ?_
 refine own_ineg X1 hx hby o30_82 (pc' := 83) rfl ?_
 rw [show -(-(Int32.ofNat pp)) = Int32.ofNat pp from Int32.neg_neg]
 refine own_fB X1 hx hby hZ e1 V_d1 (by omega) (v := (own_on pp)) rfl o30_83 (pc' := 84) rfl ?_
 refine own_gB X1 hx hby hZ e1 V1 (by decide) (w := (own_on pp)) (own_onn hp13) o30_84 (pc' := 85) rfl ?_
 intro T2 h2 X2 e2 W2 V2
 have sz3 := Nat.le_trans (Nat.le_refl _) (Keep.of_wr W2).1
 replace V_d2 := V_d2.other W2 ned2
 replace S_d1 := S_d1.wr W2
 replace S_d2 := S_d2.wr W2
 have kx4 := kx0.wr W2 (Or.inl (List.mem_of_getElem? (i := 0) rfl))
 have N2 := own_fr1 (sl := 0) N0 n0_vb
 refine own_iloadN X2 hx hby o30_85 (pc' := 86) rfl rfl ?_
 refine own_bipush X2 hx hby o30_86 (pc' := 88) rfl (z := (-9)) rfl ?_
 refine own_icmpY X2 hx hby o30_88 (by decide) (pc' := 104) (by decide) (flt (own_gc9 (by omega))).2.1 ?_
 refine own_iload X2 hx hby o30_104 (pc' := 106) rfl rfl ?_
 refine own_ifY X2 hx hby o30_106 (by decide) (pc' := 118) (by decide) (teq rfl).1 ?_
 refine own_iload X2 hx hby o30_118 (pc' := 120) rfl rfl ?_
 exact own_retI X2 hx hby hlk hrt o30_120 (by first | exact ⟨rfl, N2, kx4, own_dgP1 hp V2⟩ | (rw [e2]; exact ⟨rfl, N2, kx4, own_dgP1 hp V2⟩)) (by decide) (by decide)
theorem ef_rm_gc2 (m : MethodId) (x0 : Int32) (x1 : Int32) (x2 : Addr) : entryFrame m #[(.int x0), (.int x1), (.ref x2)] 7 = mkF m 0 #[.val (.int x0), .val (.int x1), .val (.ref x2), .unset, .unset, .unset, .unset] [] := by first | (simp [entryFrame, mkF, argsToLocals, Value.category]; done) | rfl
set_option maxRecDepth 65536 in
set_option maxHeartbeats 40000000 in
theorem rm_gc2 (l : Launch) (Z : State) (a0 : Array Value) (hw : ∀ d ∈ tables_1, d.before a0 Z = true) (vb d1 d2 : Addr) (pp : Nat) (g : Nat → Int32) (h0 : Heap) (n0 : Nat) (Z0 : n0 ≤ h0.size) (hp1 : 10 ≤ pp) (hp2 : pp < 13) (n0_vb : n0 ≤ vb) (ned1 : d1 ≠ vb) (ned2 : d2 ≠ vb) (S_d1 : Sta Z h0 "java/lang/Integer" "DigitOnes" "[B" (.ref d1)) (S_d2 : Sta Z h0 "java/lang/Integer" "DigitTens" "[B" (.ref d2)) (V_d1 : own_Fa Z h0 d1 .byte "[B" (fun _ => True) 100 (fun y_ => .int (own_on y_))) (V_d2 : own_Fa Z h0 d2 .byte "[B" (fun _ => True) 100 (fun y_ => .int (own_te y_))) (V1 : own_Fa Z h0 vb .byte "[B" (fun _ => True) 16 (fun y_ => .int (g y_))) :
  own_Met l Z (⟨"java/lang/Integer", "getChars", "(II[B)I"⟩ : MethodName) jdk_33_method_12_code 7 (some .int) ({ frames := 0, cells := 0, slots := 0, locals := 0 } : Room) #[(.int (Int32.ofNat pp)), (.int (Int32.ofNat 2)), (.ref vb)] h0 (fun v h L => v = some (.int (Int32.ofNat 0)) ∧ Fr n0 L ∧ Keep h0 h [vb] ∧ own_Pre Z h vb 16 (own_dg pp)) := by
 refine own_body (plainFor_of_name (by first | (simp [plainName, overriddenIn]; done) | decide +kernel)) ?_
 intro p e s m below meth c s₁ hx hby hml hown hnm hlk hrt hZ X0 e0
 refine own_enter (ef_rm_gc2 m (Int32.ofNat pp) (Int32.ofNat 2) vb) ?_
 have N0 := Fr.nil n0
 have kx0 := Keep.refl h0 [vb]
 have hp13 : pp < 13 := by omega
 refine own_iloadN X0 hx hby o30_0 (pc' := 1) rfl rfl ?_
 refine own_istore X0 hx hby o30_1 (pc' := 3) rfl (Ls' := #[.val (.int (Int32.ofNat pp)), .val (.int (Int32.ofNat 2)), .val (.ref vb), .unset, .unset, .val (.int (Int32.ofNat 2)), .unset]) rfl ?_
 refine own_iloadN X0 hx hby o30_3 (pc' := 4) rfl rfl ?_
 refine own_ifY X0 hx hby o30_4 (by decide) (pc' := 11) (by decide) (flt (own_ipos (by omega))).2.1 ?_
 refine own_iconst X0 hx hby o30_11 (pc' := 12) rfl (z := 0) rfl ?_
 refine own_istore X0 hx hby o30_12 (pc' := 14) rfl (Ls' := #[.val (.int (Int32.ofNat pp)), .val (.int (Int32.ofNat 2)), .val (.ref vb), .unset, .unset, .val (.int (Int32.ofNat 2)), .val (.int (0 : Int32))]) rfl ?_
 refine own_iload X0 hx hby o30_14 (pc' := 16) rfl rfl ?_
 refine own_ifN X0 hx hby o30_16 (pc' := 19) rfl (teq rfl).2 ?_
 refine own_iloadN X0 hx hby o30_19 (pc' := 20) rfl rfl ?_
 refine own_ineg X0 hx hby o30_20 (pc' := 21) rfl ?_
 refine own_istoreN X0 hx hby o30_21 (pc' := 22) rfl (Ls' := #[.val (.int (-(Int32.ofNat pp))), .val (.int (Int32.ofNat 2)), .val (.ref vb), .unset, .unset, .val (.int (Int32.ofNat 2)), .val (.int (0 : Int32))]) rfl ?_
 refine own_iloadN X0 hx hby o30_22 (pc' := 23) rfl rfl ?_
 refine own_bipush X0 hx hby o30_23 (pc' := 25) rfl (z := (-100)) rfl ?_
 refine own_icmpY X0 hx hby o30_25 (by decide) (pc' := 72) (by decide) (tlt (own_gc100 hp13)).2.2.1 ?_
 refine own_aloadN X0 hx hby o30_72 (pc' := 73) rfl rfl rfl ?_
 refine own_iinc X0 hx hby o30_73 (pc' := 76) rfl rfl (z := (-1)) rfl (Ls' := #[.val (.int (-(Int32.ofNat pp))), .val (.int (Int32.ofNat 2)), .val (.ref vb), .unset, .unset, .val (.int ((Int32.ofNat 2) + (-1 : Int32))), .val (.int (0 : Int32))]) rfl ?_
 rw [show (Int32.ofNat 2 + (-1 : Int32)) = Int32.ofNat 1 from rfl]
 refine own_iload X0 hx hby o30_76 (pc' := 78) rfl rfl ?_
 refine own_getS X0 hx hby hZ hown (host := "") (Or.inl (ow_140 hw)) Via.refl e0 S_d1 o30_78 (pc' := 81) rfl ?_
 intro T1 X1 e1
 refine own_iloadN X1 hx hby o30_81 (pc' := 82) rfl rfl ?_
 refine own_ineg X1 hx hby o30_82 (pc' := 83) rfl ?_
 rw [show -(-(Int32.ofNat pp)) = Int32.ofNat pp from Int32.neg_neg]
 refine own_fB X1 hx hby hZ e1 V_d1 (by omega) (v := (own_on pp)) rfl o30_83 (pc' := 84) rfl ?_
 refine own_gB X1 hx hby hZ e1 V1 (by decide) (w := (own_on pp)) (own_onn hp13) o30_84 (pc' := 85) rfl ?_
 intro T2 h2 X2 e2 W2 V2
 have sz3 := Nat.le_trans (Nat.le_refl _) (Keep.of_wr W2).1
 replace V_d2 := V_d2.other W2 ned2
 replace S_d1 := S_d1.wr W2
 replace S_d2 := S_d2.wr W2
 have kx4 := kx0.wr W2 (Or.inl (List.mem_of_getElem? (i := 0) rfl))
 have N2 := own_fr1 (sl := 1) N0 n0_vb
 refine own_iloadN X2 hx hby o30_85 (pc' := 86) rfl rfl ?_
 refine own_bipush X2 hx hby o30_86 (pc' := 88) rfl (z := (-9)) rfl ?_
 refine own_icmpN X2 hx hby o30_88 (pc' := 91) rfl (tlt (own_gc9' (by omega) hp13)).2.1 ?_
 refine own_aloadN X2 hx hby o30_91 (pc' := 92) rfl rfl rfl ?_
 refine own_iinc X2 hx hby o30_92 (pc' := 95) rfl rfl (z := (-1)) rfl (Ls' := #[.val (.int (-(Int32.ofNat pp))), .val (.int (Int32.ofNat 2)), .val (.ref vb), .unset, .unset, .val (.int ((Int32.ofNat 1) + (-1 : Int32))), .val (.int (0 : Int32))]) rfl ?_
 rw [show (Int32.ofNat 1 + (-1 : Int32)) = Int32.ofNat 0 from rfl]
 refine own_iload X2 hx hby o30_95 (pc' := 97) rfl rfl ?_
 refine own_getS X2 hx hby hZ hown (host := "") (Or.inl (ow_298 hw)) Via.refl e2 S_d2 o30_97 (pc' := 100) rfl ?_
 intro T5 X5 e5
 refine own_iloadN X5 hx hby o30_100 (pc' := 101) rfl rfl ?_
 refine own_ineg X5 hx hby o30_101 (pc' := 102) rfl ?_
 rw [show -(-(Int32.ofNat pp)) = Int32.ofNat pp from Int32.neg_neg]
 refine own_fB X5 hx hby hZ e5 V_d2 (by omega) (v := (own_te pp)) rfl o30_102 (pc' := 103) rfl ?_
 refine own_gB X5 hx hby hZ e5 V2 (by decide) (w := (own_te pp)) (own_ten hp13) o30_103 (pc' := 104) rfl ?_
 intro T6 h6 X6 e6 W6 V3
 have sz7 := Nat.le_trans sz3 (Keep.of_wr W6).1
 replace V_d2 := V_d2.other W6 ned2
 replace S_d1 := S_d1.wr W6
 replace S_d2 := S_d2.wr W6
 have kx8 := kx4.wr W6 (Or.inl (List.mem_of_getElem? (i := 0) rfl))
 have N6 := own_fr1 (sl := 0) N2 n0_vb
 refine own_iload X6 hx hby o30_104 (pc' := 106) rfl rfl ?_
 refine own_ifY X6 hx hby o30_106 (by decide) (pc' := 118) (by decide) (teq rfl).1 ?_
 refine own_iload X6 hx hby o30_118 (pc' := 120) rfl rfl ?_
 exact own_retI X6 hx hby hlk hrt o30_120 (by first | exact ⟨rfl, N6, kx8, own_dgP2 hp1 hp2 V3⟩ | (rw [e6]; exact ⟨rfl, N6, kx8, own_dgP2 hp1 hp2 V3⟩)) (by decide) (by decide)
theorem ef_rm_api1 (m : MethodId) (x0 : Addr) (x1 : Int32) : entryFrame m #[(.ref x0), (.int x1)] 4 = mkF m 0 #[.val (.ref x0), .val (.int x1), .unset, .unset] [] := by first | (simp [entryFrame, mkF, argsToLocals, Value.category]; done) | rfl
set_option maxRecDepth 65536 in
set_option maxHeartbeats 40000000 in
theorem rm_api1 (l : Launch) (Z : State) (a0 : Array Value) (hw : ∀ d ∈ tables_1, d.before a0 Z = true) (a1 vb d1 d2 : Addr) (pp : Nat) (G1 : Int32) (h0 : Heap) (n0 : Nat) (Z0 : n0 ≤ h0.size) (hp : pp < 10) (n0_a1 : n0 ≤ a1) (n0_vb : n0 ≤ vb) (ned1 : d1 ≠ vb) (ned2 : d2 ≠ vb) (S_d1 : Sta Z h0 "java/lang/Integer" "DigitOnes" "[B" (.ref d1)) (S_d2 : Sta Z h0 "java/lang/Integer" "DigitTens" "[B" (.ref d2)) (V_d1 : own_Fa Z h0 d1 .byte "[B" (fun _ => True) 100 (fun y_ => .int (own_on y_))) (V_d2 : own_Fa Z h0 d2 .byte "[B" (fun _ => True) 100 (fun y_ => .int (own_te y_))) (S_cs : Sta Z h0 "java/lang/String" "COMPACT_STRINGS" "Z" (.int G1)) (P5 : ¬ (G1 = (0 : Int32))) (O : own_SB2 Z h0 a1 vb []) :
  own_Met l Z (⟨"java/lang/AbstractStringBuilder", "append", "(I)Ljava/lang/AbstractStringBuilder;"⟩ : MethodName) jdk_68_method_32_code 4 (some (.object "java/lang/AbstractStringBuilder")) ({ frames := 1, cells := 0, slots := 0, locals := 18 } : Room) #[(.ref a1), (.int (Int32.ofNat pp))] h0 (fun v h L => v = some (.ref a1) ∧ Fr n0 L ∧ Keep h0 h [a1, vb] ∧ own_SB2 Z h a1 vb (own_dg pp)) := by
 refine own_body (plainFor_of_name (by first | (simp [plainName, overriddenIn]; done) | decide +kernel)) ?_
 intro p e s m below meth c s₁ hx hby hml hown hnm hlk hrt hZ X0 e0
 refine own_enter (ef_rm_api1 m a1 (Int32.ofNat pp)) ?_
 have N0 := Fr.nil n0
 have kx0 := Keep.refl h0 [a1, vb]
 obtain ⟨A1, F_v, F_c, F_n, VP, nesv⟩ := O
 replace F_n : Fld Z h0 a1 "java/lang/AbstractStringBuilder" "count" "I" (.int (Int32.ofNat 0)) := F_n
 refine own_aloadN X0 hx hby o31_0 (pc' := 1) rfl rfl rfl ?_
 refine own_getF X0 hx hby hZ hown (host := "") (Or.inl (ow_121 hw)) Via.refl e0 F_n o31_1 (pc' := 4) rfl ?_
 intro T1 X1 e1
 refine own_istoreN X1 hx hby o31_4 (pc' := 5) rfl (Ls' := #[.val (.ref a1), .val (.int (Int32.ofNat pp)), .val (.int (Int32.ofNat 0)), .unset]) rfl ?_
 refine own_iloadN X1 hx hby o31_5 (pc' := 6) rfl rfl ?_
 refine own_iloadN X1 hx hby o31_6 (pc' := 7) rfl rfl ?_
 refine own_callM X1 hx hby hml hZ hown (ow_123 hw) (ow_124 hw) (ow_125 hw) (ow_126 hw) (by decide) (cc := 0) (ss := 0) (rm_ss1 l Z a0 hw pp h0 n0 Z0 hp) 1 rfl rfl (by decide) (by decide) rfl (argsL := [(.int (Int32.ofNat pp))]) (rest := [(.int (Int32.ofNat 0))]) opd_0 rfl rfl (Nat.le_refl _) o31_7 (pc' := 10) rfl rfl e1 (by decide) (by decide) ?_
 rintro v2 T2 h2 L2 X2 e2 ⟨rfl, Nq2, rfl⟩
 have N2 := N0.app Nq2
 refine own_iadd X2 hx hby o31_10 (pc' := 11) rfl ?_
 rw [show (Int32.ofNat 0 + Int32.ofNat 1) = Int32.ofNat 1 from rfl]
 refine own_istoreN X2 hx hby o31_11 (pc' := 12) rfl (Ls' := #[.val (.ref a1), .val (.int (Int32.ofNat pp)), .val (.int (Int32.ofNat 0)), .val (.int (Int32.ofNat 1))]) rfl ?_
 refine own_aloadN X2 hx hby o31_12 (pc' := 13) rfl rfl rfl ?_
 refine own_iloadN X2 hx hby o31_13 (pc' := 14) rfl rfl ?_
 refine own_privM X2 hx hby hml hZ hown (ow_127 hw) (ow_128 hw) (own_selP (ow_128 hw) (ow_129 hw) (ow_130 hw) rfl (by decide)) (ow_129 hw) (ow_103 hw) (ow_131 hw) (by decide) (cc := 0) (ss := 0) (rm_eci l Z a0 hw a1 vb 1 (Int32.ofNat 0) [] h0 n0 Z0 (by decide) n0_a1 n0_vb nesv A1 F_v F_c F_n VP) 0 rfl rfl (by decide) (by decide) rfl A1 (argsL := [(.int (Int32.ofNat 1))]) (rest := []) opd_18 rfl rfl (Nat.le_refl _) o31_14 (pc' := 17) rfl rfl e2 (by decide) (by decide) ?_
 rintro v3 T3 h3 L3 X3 e3 ⟨rfl, Nq3, rfl⟩
 have N3 := N2.app Nq3
 refine own_aloadN X3 hx hby o31_17 (pc' := 18) rfl rfl rfl ?_
 refine own_virtM X3 hx hby hml hZ hown (ow_132 hw) (ow_133 hw) (notFace_of_selects (args := #[]) (mvT hZ (ow_135 hw))) (ow_135 hw) (ow_134 hw) (ow_103 hw) (ow_136 hw) (by decide) (cc := 0) (ss := 0) (rm_isL l Z a0 hw a1 G1 h0 n0 Z0 S_cs P5 F_c) 0 rfl rfl (by decide) (by decide) rfl A1 (argsL := []) (rest := []) opd_19 rfl rfl (Nat.le_refl _) o31_18 (pc' := 21) rfl rfl e3 (by decide) (by decide) ?_
 rintro v4 T4 h4 L4 X4 e4 ⟨rfl, Nq4, rfl⟩
 have N4 := N3.app Nq4
 refine own_ifN X4 hx hby o31_21 (pc' := 24) rfl (feq (by decide)).1 ?_
 refine own_iloadN X4 hx hby o31_24 (pc' := 25) rfl rfl ?_
 refine own_iloadN X4 hx hby o31_25 (pc' := 26) rfl rfl ?_
 refine own_aloadN X4 hx hby o31_26 (pc' := 27) rfl rfl rfl ?_
 refine own_getF X4 hx hby hZ hown (host := "") (Or.inl (ow_107 hw)) Via.refl e4 F_v o31_27 (pc' := 30) rfl ?_
 intro T5 X5 e5
 obtain ⟨g, VG, -, -⟩ := VP
 refine own_callM X5 hx hby hml hZ hown (ow_137 hw) (ow_138 hw) (ow_125 hw) (ow_139 hw) (by decide) (cc := 0) (ss := 0) (rm_gc1 l Z a0 hw vb d1 d2 pp g h0 n0 Z0 hp n0_vb ned1 ned2 S_d1 S_d2 V_d1 V_d2 VG) 0 rfl rfl (by decide) (by decide) rfl (argsL := [(.int (Int32.ofNat pp)), (.int (Int32.ofNat 1)), (.ref vb)]) (rest := []) opd_20 rfl rfl (Nat.le_refl _) o31_30 (pc' := 33) rfl rfl e5 (by decide) (by decide) ?_
 rintro v6 T6 h6 L6 X6 e6 ⟨rfl, Nq6, Kq6, VP⟩
 have N6 := N4.app Nq6
 have sz7 := Nat.le_trans (Nat.le_refl _) Kq6.1
 replace A1 := A1.keep Kq6
 replace F_v := F_v.keep Kq6 (own_niS nesv own_ni0)
 replace F_c := F_c.keep Kq6 (own_niS nesv own_ni0)
 replace F_n := F_n.keep Kq6 (own_niS nesv own_ni0)
 have kx8 := kx0.trans Kq6 (allS (Or.inl (List.mem_of_getElem? (i := 1) rfl)) all0)
 refine own_pop X6 hx hby o31_33 (pc' := 34) rfl rfl ?_
 refine own_goto X6 hx hby o31_34 (by decide) (pc' := 48) (by decide) ?_
 refine own_aloadN X6 hx hby o31_48 (pc' := 49) rfl rfl rfl ?_
 refine own_iloadN X6 hx hby o31_49 (pc' := 50) rfl rfl ?_
 refine own_putF X6 hx hby hZ hown (host := "") (Or.inl (ow_121 hw)) Via.refl e6 F_n A1 (Or.inl (ow_122 hw)) (ow_94 hw) (ty := .int) (by decide) rfl rfl o31_50 (pc' := 53) rfl ?_
 intro T9 h9 X9 e9 W9 F9_count_a1 A9_a1
 replace F_v := F_v.other W9 (Or.inr (slot_ne (Or.inl (ow_108 hw)) (Or.inl (ow_122 hw)) (by decide) (t := (.array .byte)) (t' := .int) (by decide) (by decide)))
 replace F_c := F_c.other W9 (Or.inr (slot_ne (Or.inl (ow_110 hw)) (Or.inl (ow_122 hw)) (by decide) (t := .byte) (t' := .int) (by decide) (by decide)))
 have sz10 := Nat.le_trans sz7 (Keep.of_wr W9).1
 replace VP := VP.other W9 nesv.symm
 have kx11 := kx8.wr W9 (Or.inl (List.mem_of_getElem? (i := 0) rfl))
 have N9 := own_fr1 (sl := Jvm.RoadKit.slotOf Z "java/lang/AbstractStringBuilder" "count" "I") N6 n0_a1
 refine own_aloadN X9 hx hby o31_53 (pc' := 54) rfl rfl rfl ?_
 have hln : (own_dg pp).length = 1 := by rw [own_dg1 hp]; rfl
 exact own_retA X9 hx hby hlk hrt rfl rfl o31_54 (by first | exact ⟨rfl, N9, kx11, A9_a1, F_v, F_c, by rw [hln]; exact F9_count_a1, VP, nesv⟩ | (rw [e9]; exact ⟨rfl, N9, kx11, A9_a1, F_v, F_c, by rw [hln]; exact F9_count_a1, VP, nesv⟩)) (by decide) (by decide)
theorem ef_rm_api2 (m : MethodId) (x0 : Addr) (x1 : Int32) : entryFrame m #[(.ref x0), (.int x1)] 4 = mkF m 0 #[.val (.ref x0), .val (.int x1), .unset, .unset] [] := by first | (simp [entryFrame, mkF, argsToLocals, Value.category]; done) | rfl
set_option maxRecDepth 65536 in
set_option maxHeartbeats 40000000 in
theorem rm_api2 (l : Launch) (Z : State) (a0 : Array Value) (hw : ∀ d ∈ tables_1, d.before a0 Z = true) (a1 vb d1 d2 : Addr) (pp : Nat) (G1 : Int32) (h0 : Heap) (n0 : Nat) (Z0 : n0 ≤ h0.size) (hp1 : 10 ≤ pp) (hp2 : pp < 13) (n0_a1 : n0 ≤ a1) (n0_vb : n0 ≤ vb) (ned1 : d1 ≠ vb) (ned2 : d2 ≠ vb) (S_d1 : Sta Z h0 "java/lang/Integer" "DigitOnes" "[B" (.ref d1)) (S_d2 : Sta Z h0 "java/lang/Integer" "DigitTens" "[B" (.ref d2)) (V_d1 : own_Fa Z h0 d1 .byte "[B" (fun _ => True) 100 (fun y_ => .int (own_on y_))) (V_d2 : own_Fa Z h0 d2 .byte "[B" (fun _ => True) 100 (fun y_ => .int (own_te y_))) (S_cs : Sta Z h0 "java/lang/String" "COMPACT_STRINGS" "Z" (.int G1)) (P5 : ¬ (G1 = (0 : Int32))) (O : own_SB2 Z h0 a1 vb []) :
  own_Met l Z (⟨"java/lang/AbstractStringBuilder", "append", "(I)Ljava/lang/AbstractStringBuilder;"⟩ : MethodName) jdk_68_method_32_code 4 (some (.object "java/lang/AbstractStringBuilder")) ({ frames := 1, cells := 0, slots := 0, locals := 18 } : Room) #[(.ref a1), (.int (Int32.ofNat pp))] h0 (fun v h L => v = some (.ref a1) ∧ Fr n0 L ∧ Keep h0 h [a1, vb] ∧ own_SB2 Z h a1 vb (own_dg pp)) := by
 refine own_body (plainFor_of_name (by first | (simp [plainName, overriddenIn]; done) | decide +kernel)) ?_
 intro p e s m below meth c s₁ hx hby hml hown hnm hlk hrt hZ X0 e0
 refine own_enter (ef_rm_api2 m a1 (Int32.ofNat pp)) ?_
 have N0 := Fr.nil n0
 have kx0 := Keep.refl h0 [a1, vb]
 obtain ⟨A1, F_v, F_c, F_n, VP, nesv⟩ := O
 replace F_n : Fld Z h0 a1 "java/lang/AbstractStringBuilder" "count" "I" (.int (Int32.ofNat 0)) := F_n
 refine own_aloadN X0 hx hby o31_0 (pc' := 1) rfl rfl rfl ?_
 refine own_getF X0 hx hby hZ hown (host := "") (Or.inl (ow_121 hw)) Via.refl e0 F_n o31_1 (pc' := 4) rfl ?_
 intro T1 X1 e1
 refine own_istoreN X1 hx hby o31_4 (pc' := 5) rfl (Ls' := #[.val (.ref a1), .val (.int (Int32.ofNat pp)), .val (.int (Int32.ofNat 0)), .unset]) rfl ?_
 refine own_iloadN X1 hx hby o31_5 (pc' := 6) rfl rfl ?_
 refine own_iloadN X1 hx hby o31_6 (pc' := 7) rfl rfl ?_
 refine own_callM X1 hx hby hml hZ hown (ow_123 hw) (ow_124 hw) (ow_125 hw) (ow_126 hw) (by decide) (cc := 0) (ss := 0) (rm_ss2 l Z a0 hw pp h0 n0 Z0 hp1 hp2) 1 rfl rfl (by decide) (by decide) rfl (argsL := [(.int (Int32.ofNat pp))]) (rest := [(.int (Int32.ofNat 0))]) opd_0 rfl rfl (Nat.le_refl _) o31_7 (pc' := 10) rfl rfl e1 (by decide) (by decide) ?_
 rintro v2 T2 h2 L2 X2 e2 ⟨rfl, Nq2, rfl⟩
 have N2 := N0.app Nq2
 refine own_iadd X2 hx hby o31_10 (pc' := 11) rfl ?_
 rw [show (Int32.ofNat 0 + Int32.ofNat 2) = Int32.ofNat 2 from rfl]
 refine own_istoreN X2 hx hby o31_11 (pc' := 12) rfl (Ls' := #[.val (.ref a1), .val (.int (Int32.ofNat pp)), .val (.int (Int32.ofNat 0)), .val (.int (Int32.ofNat 2))]) rfl ?_
 refine own_aloadN X2 hx hby o31_12 (pc' := 13) rfl rfl rfl ?_
 refine own_iloadN X2 hx hby o31_13 (pc' := 14) rfl rfl ?_
 refine own_privM X2 hx hby hml hZ hown (ow_127 hw) (ow_128 hw) (own_selP (ow_128 hw) (ow_129 hw) (ow_130 hw) rfl (by decide)) (ow_129 hw) (ow_103 hw) (ow_131 hw) (by decide) (cc := 0) (ss := 0) (rm_eci l Z a0 hw a1 vb 2 (Int32.ofNat 0) [] h0 n0 Z0 (by decide) n0_a1 n0_vb nesv A1 F_v F_c F_n VP) 0 rfl rfl (by decide) (by decide) rfl A1 (argsL := [(.int (Int32.ofNat 2))]) (rest := []) opd_18 rfl rfl (Nat.le_refl _) o31_14 (pc' := 17) rfl rfl e2 (by decide) (by decide) ?_
 rintro v3 T3 h3 L3 X3 e3 ⟨rfl, Nq3, rfl⟩
 have N3 := N2.app Nq3
 refine own_aloadN X3 hx hby o31_17 (pc' := 18) rfl rfl rfl ?_
 refine own_virtM X3 hx hby hml hZ hown (ow_132 hw) (ow_133 hw) (notFace_of_selects (args := #[]) (mvT hZ (ow_135 hw))) (ow_135 hw) (ow_134 hw) (ow_103 hw) (ow_136 hw) (by decide) (cc := 0) (ss := 0) (rm_isL l Z a0 hw a1 G1 h0 n0 Z0 S_cs P5 F_c) 0 rfl rfl (by decide) (by decide) rfl A1 (argsL := []) (rest := []) opd_19 rfl rfl (Nat.le_refl _) o31_18 (pc' := 21) rfl rfl e3 (by decide) (by decide) ?_
 rintro v4 T4 h4 L4 X4 e4 ⟨rfl, Nq4, rfl⟩
 have N4 := N3.app Nq4
 refine own_ifN X4 hx hby o31_21 (pc' := 24) rfl (feq (by decide)).1 ?_
 refine own_iloadN X4 hx hby o31_24 (pc' := 25) rfl rfl ?_
 refine own_iloadN X4 hx hby o31_25 (pc' := 26) rfl rfl ?_
 refine own_aloadN X4 hx hby o31_26 (pc' := 27) rfl rfl rfl ?_
 refine own_getF X4 hx hby hZ hown (host := "") (Or.inl (ow_107 hw)) Via.refl e4 F_v o31_27 (pc' := 30) rfl ?_
 intro T5 X5 e5
 obtain ⟨g, VG, -, -⟩ := VP
 refine own_callM X5 hx hby hml hZ hown (ow_137 hw) (ow_138 hw) (ow_125 hw) (ow_139 hw) (by decide) (cc := 0) (ss := 0) (rm_gc2 l Z a0 hw vb d1 d2 pp g h0 n0 Z0 hp1 hp2 n0_vb ned1 ned2 S_d1 S_d2 V_d1 V_d2 VG) 0 rfl rfl (by decide) (by decide) rfl (argsL := [(.int (Int32.ofNat pp)), (.int (Int32.ofNat 2)), (.ref vb)]) (rest := []) opd_20 rfl rfl (Nat.le_refl _) o31_30 (pc' := 33) rfl rfl e5 (by decide) (by decide) ?_
 rintro v6 T6 h6 L6 X6 e6 ⟨rfl, Nq6, Kq6, VP⟩
 have N6 := N4.app Nq6
 have sz7 := Nat.le_trans (Nat.le_refl _) Kq6.1
 replace A1 := A1.keep Kq6
 replace F_v := F_v.keep Kq6 (own_niS nesv own_ni0)
 replace F_c := F_c.keep Kq6 (own_niS nesv own_ni0)
 replace F_n := F_n.keep Kq6 (own_niS nesv own_ni0)
 have kx8 := kx0.trans Kq6 (allS (Or.inl (List.mem_of_getElem? (i := 1) rfl)) all0)
 refine own_pop X6 hx hby o31_33 (pc' := 34) rfl rfl ?_
 refine own_goto X6 hx hby o31_34 (by decide) (pc' := 48) (by decide) ?_
 refine own_aloadN X6 hx hby o31_48 (pc' := 49) rfl rfl rfl ?_
 refine own_iloadN X6 hx hby o31_49 (pc' := 50) rfl rfl ?_
 refine own_putF X6 hx hby hZ hown (host := "") (Or.inl (ow_121 hw)) Via.refl e6 F_n A1 (Or.inl (ow_122 hw)) (ow_94 hw) (ty := .int) (by decide) rfl rfl o31_50 (pc' := 53) rfl ?_
 intro T9 h9 X9 e9 W9 F9_count_a1 A9_a1
 replace F_v := F_v.other W9 (Or.inr (slot_ne (Or.inl (ow_108 hw)) (Or.inl (ow_122 hw)) (by decide) (t := (.array .byte)) (t' := .int) (by decide) (by decide)))
 replace F_c := F_c.other W9 (Or.inr (slot_ne (Or.inl (ow_110 hw)) (Or.inl (ow_122 hw)) (by decide) (t := .byte) (t' := .int) (by decide) (by decide)))
 have sz10 := Nat.le_trans sz7 (Keep.of_wr W9).1
 replace VP := VP.other W9 nesv.symm
 have kx11 := kx8.wr W9 (Or.inl (List.mem_of_getElem? (i := 0) rfl))
 have N9 := own_fr1 (sl := Jvm.RoadKit.slotOf Z "java/lang/AbstractStringBuilder" "count" "I") N6 n0_a1
 refine own_aloadN X9 hx hby o31_53 (pc' := 54) rfl rfl rfl ?_
 have hln : (own_dg pp).length = 2 := by rw [own_dg2 hp1 hp2]; rfl
 exact own_retA X9 hx hby hlk hrt rfl rfl o31_54 (by first | exact ⟨rfl, N9, kx11, A9_a1, F_v, F_c, by rw [hln]; exact F9_count_a1, VP, nesv⟩ | (rw [e9]; exact ⟨rfl, N9, kx11, A9_a1, F_v, F_c, by rw [hln]; exact F9_count_a1, VP, nesv⟩)) (by decide) (by decide)
theorem ef_rm_sbapi (m : MethodId) (x0 : Addr) (x1 : Int32) : entryFrame m #[(.ref x0), (.int x1)] 2 = mkF m 0 #[.val (.ref x0), .val (.int x1)] [] := by first | (simp [entryFrame, mkF, argsToLocals, Value.category]; done) | rfl
set_option maxRecDepth 65536 in
set_option maxHeartbeats 40000000 in
theorem rm_sbapi (l : Launch) (Z : State) (a0 : Array Value) (hw : ∀ d ∈ tables_1, d.before a0 Z = true) (a1 vb d1 d2 : Addr) (pp : Nat) (G1 : Int32) (h0 : Heap) (n0 : Nat) (Z0 : n0 ≤ h0.size) (hp2 : pp < 13) (n0_a1 : n0 ≤ a1) (n0_vb : n0 ≤ vb) (ned1 : d1 ≠ vb) (ned2 : d2 ≠ vb) (S_d1 : Sta Z h0 "java/lang/Integer" "DigitOnes" "[B" (.ref d1)) (S_d2 : Sta Z h0 "java/lang/Integer" "DigitTens" "[B" (.ref d2)) (V_d1 : own_Fa Z h0 d1 .byte "[B" (fun _ => True) 100 (fun y_ => .int (own_on y_))) (V_d2 : own_Fa Z h0 d2 .byte "[B" (fun _ => True) 100 (fun y_ => .int (own_te y_))) (S_cs : Sta Z h0 "java/lang/String" "COMPACT_STRINGS" "Z" (.int G1)) (P5 : ¬ (G1 = (0 : Int32))) (O : own_SB2 Z h0 a1 vb []) :
  own_Met l Z (⟨"java/lang/StringBuilder", "append", "(I)Ljava/lang/StringBuilder;"⟩ : MethodName) jdk_67_method_15_code 2 (some (.object "java/lang/StringBuilder")) ({ frames := 2, cells := 0, slots := 0, locals := 33 } : Room) #[(.ref a1), (.int (Int32.ofNat pp))] h0 (fun v h L => v = some (.ref a1) ∧ Fr n0 L ∧ Keep h0 h [a1, vb] ∧ own_SB2 Z h a1 vb (own_dg pp)) := by
 refine own_body (plainFor_of_name (by first | (simp [plainName, overriddenIn]; done) | decide +kernel)) ?_
 intro p e s m below meth c s₁ hx hby hml hown hnm hlk hrt hZ X0 e0
 refine own_enter (ef_rm_sbapi m a1 (Int32.ofNat pp)) ?_
 have N0 := Fr.nil n0
 have kx0 := Keep.refl h0 [a1, vb]
 have A1 := O.1
 refine own_aloadN X0 hx hby o32_0 (pc' := 1) rfl rfl rfl ?_
 refine own_iloadN X0 hx hby o32_1 (pc' := 2) rfl rfl ?_
 rcases Nat.lt_or_ge pp 10 with hp | hp1
 ·refine own_superM X0 hx hby hml hZ hown (ow_116 hw) (own_same (ow_119 hw) (ow_130 hw) rfl (by decide)) (ow_117 hw) (ow_118 hw) (by decide) (ow_103 hw) (ow_120 hw) (cc := 0) (ss := 0) (rm_api1 l Z a0 hw a1 vb d1 d2 pp G1 h0 n0 Z0 hp n0_a1 n0_vb ned1 ned2 S_d1 S_d2 V_d1 V_d2 S_cs P5 O) 0 rfl rfl (by decide) (by decide) rfl (Ins.self A1) (argsL := [(.int (Int32.ofNat pp))]) (rest := []) opd_21 rfl rfl (Nat.le_refl _) o32_2 (pc' := 5) rfl rfl e0 (by decide) (by decide) ?_
  rintro v1 T1 h1 L1 X1 e1 ⟨rfl, Nq1, Kq1, O2⟩
  have N1 := N0.app Nq1
  have sz2 := Nat.le_trans (Nat.le_refl _) Kq1.1
  replace A1 := A1.keep Kq1
  have kx3 := kx0.trans Kq1 (allS (Or.inl (List.mem_of_getElem? (i := 0) rfl)) (allS (Or.inl (List.mem_of_getElem? (i := 1) rfl)) all0))
  refine own_pop X1 hx hby o32_5 (pc' := 6) rfl rfl ?_
  refine own_aloadN X1 hx hby o32_6 (pc' := 7) rfl rfl rfl ?_
  exact own_retA X1 hx hby hlk hrt rfl rfl o32_7 (by first | exact ⟨rfl, N1, kx3, O2⟩ | (rw [e1]; exact ⟨rfl, N1, kx3, O2⟩)) (by decide) (by decide)
 ·refine own_superM X0 hx hby hml hZ hown (ow_116 hw) (own_same (ow_119 hw) (ow_130 hw) rfl (by decide)) (ow_117 hw) (ow_118 hw) (by decide) (ow_103 hw) (ow_120 hw) (cc := 0) (ss := 0) (rm_api2 l Z a0 hw a1 vb d1 d2 pp G1 h0 n0 Z0 hp1 hp2 n0_a1 n0_vb ned1 ned2 S_d1 S_d2 V_d1 V_d2 S_cs P5 O) 0 rfl rfl (by decide) (by decide) rfl (Ins.self A1) (argsL := [(.int (Int32.ofNat pp))]) (rest := []) opd_21 rfl rfl (Nat.le_refl _) o32_2 (pc' := 5) rfl rfl e0 (by decide) (by decide) ?_
  rintro v4 T4 h4 L4 X4 e4 ⟨rfl, Nq4, Kq4, O2⟩
  have N4 := N0.app Nq4
  have sz5 := Nat.le_trans (Nat.le_refl _) Kq4.1
  replace A1 := A1.keep Kq4
  have kx6 := kx0.trans Kq4 (allS (Or.inl (List.mem_of_getElem? (i := 0) rfl)) (allS (Or.inl (List.mem_of_getElem? (i := 1) rfl)) all0))
  refine own_pop X4 hx hby o32_5 (pc' := 6) rfl rfl ?_
  refine own_aloadN X4 hx hby o32_6 (pc' := 7) rfl rfl rfl ?_
  exact own_retA X4 hx hby hlk hrt rfl rfl o32_7 (by first | exact ⟨rfl, N4, kx6, O2⟩ | (rw [e4]; exact ⟨rfl, N4, kx6, O2⟩)) (by decide) (by decide)
theorem ef_rm_slen (m : MethodId) (x0 : Addr) : entryFrame m #[(.ref x0)] 1 = mkF m 0 #[.val (.ref x0)] [] := by first | (simp [entryFrame, mkF, argsToLocals, Value.category]; done) | rfl
set_option maxRecDepth 65536 in
set_option maxHeartbeats 40000000 in
theorem rm_slen (l : Launch) (Z : State) (a0 : Array Value) (hw : ∀ d ∈ tables_1, d.before a0 Z = true) (a1 : Addr) (bs : List Int32) (G1 : Int32) (h0 : Heap) (n0 : Nat) (Z0 : n0 ≤ h0.size) (hb8 : bs.length ≤ 8) (S_cs : Sta Z h0 "java/lang/String" "COMPACT_STRINGS" "Z" (.int G1)) (P5 : ¬ (G1 = (0 : Int32))) (S1 : own_SL Z h0 a1 bs) :
  own_Met l Z (⟨"java/lang/String", "length", "()I"⟩ : MethodName) jdk_42_method_54_code 1 (some .int) ({ frames := 1, cells := 0, slots := 0, locals := 13 } : Room) #[(.ref a1)] h0 (fun v h L => v = some (.int (Int32.ofNat bs.length)) ∧ Fr n0 L ∧ h0 = h) := by
 refine own_body (plainFor_of_name (by first | (simp [plainName, overriddenIn]; done) | decide +kernel)) ?_
 intro p e s m below meth c s₁ hx hby hml hown hnm hlk hrt hZ X0 e0
 refine own_enter (ef_rm_slen m a1) ?_
 have N0 := Fr.nil n0
 obtain ⟨A_a1, C_a1, bv, B_a1, V_bv⟩ := S1
 refine own_aloadN X0 hx hby o33_0 (pc' := 1) rfl rfl rfl ?_
 refine own_getF X0 hx hby hZ hown (host := "") (Or.inl (ow_25 hw)) Via.refl e0 B_a1 o33_1 (pc' := 4) rfl ?_
 intro T1 X1 e1
 refine own_fL X1 hx hby hZ e1 V_bv o33_4 (pc' := 5) rfl ?_
 refine own_aloadN X1 hx hby o33_5 (pc' := 6) rfl rfl rfl ?_
 refine own_virtM X1 hx hby hml hZ hown (ow_63 hw) (ow_64 hw) (notFace_of_selects (args := #[]) (mvT hZ (ow_66 hw))) (ow_66 hw) (ow_65 hw) (ow_9 hw) (ow_67 hw) (by decide) (cc := 0) (ss := 0) (rm_coder l Z a0 hw a1 (0 : Int32) G1 h0 n0 Z0 rfl S_cs P5 C_a1) 1 rfl rfl (by decide) (by decide) rfl A_a1 (argsL := []) (rest := [(.int (Int32.ofNat bs.length))]) opd_15 rfl rfl (Nat.le_refl _) o33_6 (pc' := 9) rfl rfl e1 (by decide) (by decide) ?_
 rintro v2 T2 h2 L2 X2 e2 ⟨rfl, Nq2, rfl⟩
 have N2 := N0.app Nq2
 refine own_ishr X2 hx hby o33_9 (pc' := 10) rfl ?_
 exact own_retI X2 hx hby hlk hrt o33_10 (by first | exact ⟨congrArg (fun z => some (Value.int z)) (own_shr0 hb8), N2, rfl⟩ | (rw [e2]; exact ⟨congrArg (fun z => some (Value.int z)) (own_shr0 hb8), N2, rfl⟩)) (by decide) (by decide)
theorem ef_rm_inf (m : MethodId) (x0 : Addr) (x1 : Addr) : entryFrame m #[(.ref x0), (.ref x1)] 2 = mkF m 0 #[.val (.ref x0), .val (.ref x1)] [] := by first | (simp [entryFrame, mkF, argsToLocals, Value.category]; done) | rfl
set_option maxRecDepth 65536 in
set_option maxHeartbeats 40000000 in
theorem rm_inf (l : Launch) (Z : State) (a0 : Array Value) (hw : ∀ d ∈ tables_1, d.before a0 Z = true) (a1 a2 : Addr) (bs : List Int32) (G1 : Int32) (h0 : Heap) (n0 : Nat) (Z0 : n0 ≤ h0.size) (S_cs : Sta Z h0 "java/lang/String" "COMPACT_STRINGS" "Z" (.int G1)) (P5 : ¬ (G1 = (0 : Int32))) (F_c : Fld Z h0 a1 "java/lang/AbstractStringBuilder" "coder" "B" (.int (0 : Int32))) (S2 : own_SL Z h0 a2 bs) :
  own_Met l Z (⟨"java/lang/AbstractStringBuilder", "inflateIfNeededFor", "(Ljava/lang/String;)V"⟩ : MethodName) jdk_68_method_71_code 2 none ({ frames := 1, cells := 0, slots := 0, locals := 13 } : Room) #[(.ref a1), (.ref a2)] h0 (fun v h L => v = none ∧ Fr n0 L ∧ h0 = h) := by
 refine own_body (plainFor_of_name (by first | (simp [plainName, overriddenIn]; done) | decide +kernel)) ?_
 intro p e s m below meth c s₁ hx hby hml hown hnm hlk hrt hZ X0 e0
 refine own_enter (ef_rm_inf m a1 a2) ?_
 have N0 := Fr.nil n0
 obtain ⟨A_a2, C_a2, bv, B_a2, V_bv⟩ := S2
 refine own_getS X0 hx hby hZ hown (host := "") (Or.inl (ow_106 hw)) Via.refl e0 S_cs o34_0 (pc' := 3) rfl ?_
 intro T1 X1 e1
 refine own_ifN X1 hx hby o34_3 (pc' := 6) rfl (feq P5).1 ?_
 refine own_aloadN X1 hx hby o34_6 (pc' := 7) rfl rfl rfl ?_
 refine own_getF X1 hx hby hZ hown (host := "") (Or.inl (ow_109 hw)) Via.refl e1 F_c o34_7 (pc' := 10) rfl ?_
 intro T2 X2 e2
 refine own_aloadN X2 hx hby o34_10 (pc' := 11) rfl rfl rfl ?_
 refine own_virtM X2 hx hby hml hZ hown (ow_166 hw) (ow_64 hw) (notFace_of_selects (args := #[]) (mvT hZ (ow_66 hw))) (ow_66 hw) (ow_65 hw) (ow_9 hw) (ow_67 hw) (by decide) (cc := 0) (ss := 0) (rm_coder l Z a0 hw a2 (0 : Int32) G1 h0 n0 Z0 rfl S_cs P5 C_a2) 1 rfl rfl (by decide) (by decide) rfl A_a2 (argsL := []) (rest := [(.int (0 : Int32))]) opd_15 rfl rfl (Nat.le_refl _) o34_11 (pc' := 14) rfl rfl e2 (by decide) (by decide) ?_
 rintro v3 T3 h3 L3 X3 e3 ⟨rfl, Nq3, rfl⟩
 have N3 := N0.app Nq3
 refine own_icmpY X3 hx hby o34_14 (by decide) (pc' := 21) (by decide) (teq rfl).1 ?_
 exact own_ret0 X3 hx hby hlk hrt o34_21 (by first | exact ⟨rfl, N3, rfl⟩ | (rw [e3]; exact ⟨rfl, N3, rfl⟩)) (by decide) (by decide)
theorem ef_rm_gbb (m : MethodId) (x0 : Addr) (x1 : Addr) (x2 : Int32) (x3 : Int32) : entryFrame m #[(.ref x0), (.ref x1), (.int x2), (.int x3)] 4 = mkF m 0 #[.val (.ref x0), .val (.ref x1), .val (.int x2), .val (.int x3)] [] := by first | (simp [entryFrame, mkF, argsToLocals, Value.category]; done) | rfl
set_option maxRecDepth 65536 in
set_option maxHeartbeats 40000000 in
theorem rm_gbb (l : Launch) (Z : State) (a0 : Array Value) (hw : ∀ d ∈ tables_1, d.before a0 Z = true) (a2 vb : Addr) (out bs : List Int32) (G1 : Int32) (h0 : Heap) (n0 : Nat) (Z0 : n0 ≤ h0.size) (S_cs : Sta Z h0 "java/lang/String" "COMPACT_STRINGS" "Z" (.int G1)) (P5 : ¬ (G1 = (0 : Int32))) (n0_vb : n0 ≤ vb) (hl16 : out.length + bs.length ≤ 16) (VP : own_Pre Z h0 vb 16 out) (S2 : own_SL Z h0 a2 bs) :
  own_Met l Z (⟨"java/lang/String", "getBytes", "([BIB)V"⟩ : MethodName) jdk_42_method_147_code 4 none ({ frames := 1, cells := 0, slots := 0, locals := 40 } : Room) #[(.ref a2), (.ref vb), (.int (Int32.ofNat out.length)), (.int (0 : Int32))] h0 (fun v h L => v = none ∧ Fr n0 L ∧ Keep h0 h [vb] ∧ own_Pre Z h vb 16 (out ++ bs)) := by
 refine own_body (plainFor_of_name (by first | (simp [plainName, overriddenIn]; done) | decide +kernel)) ?_
 intro p e s m below meth c s₁ hx hby hml hown hnm hlk hrt hZ X0 e0
 refine own_enter (ef_rm_gbb m a2 vb (Int32.ofNat out.length) (0 : Int32)) ?_
 have N0 := Fr.nil n0
 have kx0 := Keep.refl h0 [vb]
 obtain ⟨A_a2, C_a2, bv, B_a2, V_bv⟩ := S2
 obtain ⟨g, VG, -, hg⟩ := VP
 refine own_aloadN X0 hx hby o35_0 (pc' := 1) rfl rfl rfl ?_
 refine own_virtM X0 hx hby hml hZ hown (ow_63 hw) (ow_64 hw) (notFace_of_selects (args := #[]) (mvT hZ (ow_66 hw))) (ow_66 hw) (ow_65 hw) (ow_9 hw) (ow_67 hw) (by decide) (cc := 0) (ss := 0) (rm_coder l Z a0 hw a2 (0 : Int32) G1 h0 n0 Z0 rfl S_cs P5 C_a2) 0 rfl rfl (by decide) (by decide) rfl A_a2 (argsL := []) (rest := []) opd_15 rfl rfl (Nat.le_refl _) o35_1 (pc' := 4) rfl rfl e0 (by decide) (by decide) ?_
 rintro v1 T1 h1 L1 X1 e1 ⟨rfl, Nq1, rfl⟩
 have N1 := N0.app Nq1
 refine own_iloadN X1 hx hby o35_4 (pc' := 5) rfl rfl ?_
 refine own_icmpN X1 hx hby o35_5 (pc' := 8) rfl (teq rfl).2 ?_
 refine own_aloadN X1 hx hby o35_8 (pc' := 9) rfl rfl rfl ?_
 refine own_getF X1 hx hby hZ hown (host := "") (Or.inl (ow_25 hw)) Via.refl e1 B_a2 o35_9 (pc' := 12) rfl ?_
 intro T2 X2 e2
 refine own_iconst X2 hx hby o35_12 (pc' := 13) rfl (z := 0) rfl ?_
 refine own_aloadN X2 hx hby o35_13 (pc' := 14) rfl rfl rfl ?_
 refine own_iloadN X2 hx hby o35_14 (pc' := 15) rfl rfl ?_
 refine own_iloadN X2 hx hby o35_15 (pc' := 16) rfl rfl ?_
 refine own_ishl X2 hx hby o35_16 (pc' := 17) rfl ?_
 rw [show (Int32.ofNat out.length <<< ((0 : Int32) &&& 31)) = Int32.ofNat out.length from own_shl0 (by omega)]
 refine own_aloadN X2 hx hby o35_17 (pc' := 18) rfl rfl rfl ?_
 refine own_getF X2 hx hby hZ hown (host := "") (Or.inl (ow_25 hw)) Via.refl e2 B_a2 o35_18 (pc' := 21) rfl ?_
 intro T3 X3 e3
 refine own_fL X3 hx hby hZ e3 V_bv o35_21 (pc' := 22) rfl ?_
 refine own_cpF X3 hx hby hZ hml hown (ow_172 hw) (ow_175 hw) (ow_173 hw) (ow_174 hw) e3 V_bv VG (sp := 0) (dp := out.length) (nn := bs.length) (by omega) (by omega) (n0 := n0) N1 n0_vb rfl o35_22 (pc' := 25) rfl (by decide) (W := 0) (Nat.le_refl _) (by decide) ?_
 intro T4 h4 L4 X4 e4 N4 K_4 VQ
 have sz5 := Nat.le_trans (Nat.le_refl _) K_4.1
 have kx6 := kx0.trans K_4 (allS (Or.inl (List.mem_of_getElem? (i := 0) rfl)) all0)
 refine own_goto X4 hx hby o35_25 (by decide) (pc' := 43) (by decide) ?_
 exact own_ret0 X4 hx hby hlk hrt o35_43 (by first | exact ⟨rfl, N4, kx6, own_cpPre hl16 hg VQ⟩ | (rw [e4]; exact ⟨rfl, N4, kx6, own_cpPre hl16 hg VQ⟩)) (by decide) (by decide)
theorem ef_rm_psa (m : MethodId) (x0 : Addr) (x1 : Int32) (x2 : Addr) : entryFrame m #[(.ref x0), (.int x1), (.ref x2)] 3 = mkF m 0 #[.val (.ref x0), .val (.int x1), .val (.ref x2)] [] := by first | (simp [entryFrame, mkF, argsToLocals, Value.category]; done) | rfl
set_option maxRecDepth 65536 in
set_option maxHeartbeats 40000000 in
theorem rm_psa (l : Launch) (Z : State) (a0 : Array Value) (hw : ∀ d ∈ tables_1, d.before a0 Z = true) (a1 a2 vb : Addr) (out bs : List Int32) (cn G1 : Int32) (h0 : Heap) (n0 : Nat) (Z0 : n0 ≤ h0.size) (S_cs : Sta Z h0 "java/lang/String" "COMPACT_STRINGS" "Z" (.int G1)) (P5 : ¬ (G1 = (0 : Int32))) (n0_a1 : n0 ≤ a1) (nesv : a1 ≠ vb) (A1 : Exa Z h0 a1 "java/lang/StringBuilder") (F_v : Fld Z h0 a1 "java/lang/AbstractStringBuilder" "value" "[B" (.ref vb)) (F_c : Fld Z h0 a1 "java/lang/AbstractStringBuilder" "coder" "B" (.int (0 : Int32))) (F_n : Fld Z h0 a1 "java/lang/AbstractStringBuilder" "count" "I" (.int cn)) (n0_vb : n0 ≤ vb) (hl16 : out.length + bs.length ≤ 16) (VP : own_Pre Z h0 vb 16 out) (S2 : own_SL Z h0 a2 bs) :
  own_Met l Z (⟨"java/lang/AbstractStringBuilder", "putStringAt", "(ILjava/lang/String;)V"⟩ : MethodName) jdk_68_method_73_code 3 none ({ frames := 2, cells := 0, slots := 0, locals := 55 } : Room) #[(.ref a1), (.int (Int32.ofNat out.length)), (.ref a2)] h0 (fun v h L => v = none ∧ Fr n0 L ∧ Keep h0 h [vb] ∧ own_Pre Z h vb 16 (out ++ bs)) := by
 refine own_body (plainFor_of_name (by first | (simp [plainName, overriddenIn]; done) | decide +kernel)) ?_
 intro p e s m below meth c s₁ hx hby hml hown hnm hlk hrt hZ X0 e0
 refine own_enter (ef_rm_psa m a1 (Int32.ofNat out.length) a2) ?_
 have N0 := Fr.nil n0
 have kx0 := Keep.refl h0 [vb]
 have A2 := S2.1
 refine own_aloadN X0 hx hby o36_0 (pc' := 1) rfl rfl rfl ?_
 refine own_aloadN X0 hx hby o36_1 (pc' := 2) rfl rfl rfl ?_
 refine own_privM X0 hx hby hml hZ hown (ow_161 hw) (ow_162 hw) (own_selP (ow_162 hw) (ow_163 hw) (ow_130 hw) rfl (by decide)) (ow_163 hw) (ow_103 hw) (ow_165 hw) (by decide) (cc := 0) (ss := 0) (rm_inf l Z a0 hw a1 a2 bs G1 h0 n0 Z0 S_cs P5 F_c S2) 0 rfl rfl (by decide) (by decide) rfl A1 (argsL := [(.ref a2)]) (rest := []) opd_22 rfl rfl (Nat.le_refl _) o36_2 (pc' := 5) rfl rfl e0 (by decide) (by decide) ?_
 rintro v1 T1 h1 L1 X1 e1 ⟨rfl, Nq1, rfl⟩
 have N1 := N0.app Nq1
 refine own_aloadN X1 hx hby o36_5 (pc' := 6) rfl rfl rfl ?_
 refine own_aloadN X1 hx hby o36_6 (pc' := 7) rfl rfl rfl ?_
 refine own_getF X1 hx hby hZ hown (host := "") (Or.inl (ow_107 hw)) Via.refl e1 F_v o36_7 (pc' := 10) rfl ?_
 intro T2 X2 e2
 refine own_iloadN X2 hx hby o36_10 (pc' := 11) rfl rfl ?_
 refine own_aloadN X2 hx hby o36_11 (pc' := 12) rfl rfl rfl ?_
 refine own_getF X2 hx hby hZ hown (host := "") (Or.inl (ow_109 hw)) Via.refl e2 F_c o36_12 (pc' := 15) rfl ?_
 intro T3 X3 e3
 have ne2v : a2 ≠ vb := Exa.ne A2 VP.exa (by decide)
 refine own_virtM X3 hx hby hml hZ hown (ow_167 hw) (ow_168 hw) (notFace_of_selects (args := #[]) (mvT hZ (ow_170 hw))) (ow_170 hw) (ow_169 hw) (ow_9 hw) (ow_171 hw) (by decide) (cc := 0) (ss := 0) (rm_gbb l Z a0 hw a2 vb out bs G1 h0 n0 Z0 S_cs P5 n0_vb hl16 VP S2) 0 rfl rfl (by decide) (by decide) rfl A2 (argsL := [(.ref vb), (.int (Int32.ofNat out.length)), (.int (0 : Int32))]) (rest := []) opd_23 rfl rfl (Nat.le_refl _) o36_15 (pc' := 18) rfl rfl e3 (by decide) (by decide) ?_
 rintro v4 T4 h4 L4 X4 e4 ⟨rfl, Nq4, Kq4, VP⟩
 have N4 := N1.app Nq4
 have sz5 := Nat.le_trans (Nat.le_refl _) Kq4.1
 replace A1 := A1.keep Kq4
 replace F_v := F_v.keep Kq4 (own_niS nesv own_ni0)
 replace F_c := F_c.keep Kq4 (own_niS nesv own_ni0)
 replace F_n := F_n.keep Kq4 (own_niS nesv own_ni0)
 replace A2 := A2.keep Kq4
 have kx6 := kx0.trans Kq4 (allS (Or.inl (List.mem_of_getElem? (i := 0) rfl)) all0)
 exact own_ret0 X4 hx hby hlk hrt o36_18 (by first | exact ⟨rfl, N4, kx6, VP⟩ | (rw [e4]; exact ⟨rfl, N4, kx6, VP⟩)) (by decide) (by decide)
theorem ef_rm_aps (m : MethodId) (x0 : Addr) (x1 : Addr) : entryFrame m #[(.ref x0), (.ref x1)] 3 = mkF m 0 #[.val (.ref x0), .val (.ref x1), .unset] [] := by first | (simp [entryFrame, mkF, argsToLocals, Value.category]; done) | rfl
set_option maxRecDepth 65536 in
set_option maxHeartbeats 40000000 in
theorem rm_aps (l : Launch) (Z : State) (a0 : Array Value) (hw : ∀ d ∈ tables_1, d.before a0 Z = true) (a1 a2 vb : Addr) (out bs : List Int32) (G1 : Int32) (h0 : Heap) (n0 : Nat) (Z0 : n0 ≤ h0.size) (n0_a1 : n0 ≤ a1) (n0_vb : n0 ≤ vb) (hb8 : bs.length ≤ 8) (hl16 : out.length + bs.length ≤ 16) (S_cs : Sta Z h0 "java/lang/String" "COMPACT_STRINGS" "Z" (.int G1)) (P5 : ¬ (G1 = (0 : Int32))) (O : own_SB2 Z h0 a1 vb out) (S2 : own_SL Z h0 a2 bs) :
  own_Met l Z (⟨"java/lang/AbstractStringBuilder", "append", "(Ljava/lang/String;)Ljava/lang/AbstractStringBuilder;"⟩ : MethodName) jdk_68_method_22_code 3 (some (.object "java/lang/AbstractStringBuilder")) ({ frames := 3, cells := 0, slots := 0, locals := 69 } : Room) #[(.ref a1), (.ref a2)] h0 (fun v h L => v = some (.ref a1) ∧ Fr n0 L ∧ Keep h0 h [a1, vb] ∧ own_SB2 Z h a1 vb (out ++ bs)) := by
 refine own_body (plainFor_of_name (by first | (simp [plainName, overriddenIn]; done) | decide +kernel)) ?_
 intro p e s m below meth c s₁ hx hby hml hown hnm hlk hrt hZ X0 e0
 refine own_enter (ef_rm_aps m a1 a2) ?_
 have N0 := Fr.nil n0
 have kx0 := Keep.refl h0 [a1, vb]
 obtain ⟨A1, F_v, F_c, F_n, VP, nesv⟩ := O
 have A2 := S2.1
 have ne2v : a2 ≠ vb := Exa.ne A2 VP.exa (by decide)
 have ne21 : a2 ≠ a1 := Exa.ne A2 A1 (by decide)
 refine own_aloadN X0 hx hby o37_0 (pc' := 1) rfl rfl rfl ?_
 refine own_ifnonnullY X0 hx hby o37_1 (by decide) (pc' := 9) (by decide) ?_
 refine own_aloadN X0 hx hby o37_9 (pc' := 10) rfl rfl rfl ?_
 refine own_virtM X0 hx hby hml hZ hown (ow_151 hw) (ow_152 hw) (notFace_of_selects (args := #[]) (mvT hZ (ow_154 hw))) (ow_154 hw) (ow_153 hw) (ow_9 hw) (ow_155 hw) (by decide) (cc := 0) (ss := 0) (rm_slen l Z a0 hw a2 bs G1 h0 n0 Z0 hb8 S_cs P5 S2) 0 rfl rfl (by decide) (by decide) rfl A2 (argsL := []) (rest := []) opd_24 rfl rfl (Nat.le_refl _) o37_10 (pc' := 13) rfl rfl e0 (by decide) (by decide) ?_
 rintro v1 T1 h1 L1 X1 e1 ⟨rfl, Nq1, rfl⟩
 have N1 := N0.app Nq1
 refine own_istoreN X1 hx hby o37_13 (pc' := 14) rfl (Ls' := #[.val (.ref a1), .val (.ref a2), .val (.int (Int32.ofNat bs.length))]) rfl ?_
 refine own_aloadN X1 hx hby o37_14 (pc' := 15) rfl rfl rfl ?_
 refine own_aloadN X1 hx hby o37_15 (pc' := 16) rfl rfl rfl ?_
 refine own_getF X1 hx hby hZ hown (host := "") (Or.inl (ow_121 hw)) Via.refl e1 F_n o37_16 (pc' := 19) rfl ?_
 intro T2 X2 e2
 refine own_iloadN X2 hx hby o37_19 (pc' := 20) rfl rfl ?_
 refine own_iadd X2 hx hby o37_20 (pc' := 21) rfl ?_
 rw [show (Int32.ofNat out.length + Int32.ofNat bs.length) = Int32.ofNat (out.length + bs.length) from own_j rfl]
 refine own_privM X2 hx hby hml hZ hown (ow_127 hw) (ow_128 hw) (own_selP (ow_128 hw) (ow_129 hw) (ow_130 hw) rfl (by decide)) (ow_129 hw) (ow_103 hw) (ow_131 hw) (by decide) (cc := 0) (ss := 0) (rm_eci l Z a0 hw a1 vb (out.length + bs.length) (Int32.ofNat out.length) out h0 n0 Z0 hl16 n0_a1 n0_vb nesv A1 F_v F_c F_n VP) 0 rfl rfl (by decide) (by decide) rfl A1 (argsL := [(.int (Int32.ofNat (out.length + bs.length)))]) (rest := []) opd_18 rfl rfl (Nat.le_refl _) o37_21 (pc' := 24) rfl rfl e2 (by decide) (by decide) ?_
 rintro v3 T3 h3 L3 X3 e3 ⟨rfl, Nq3, rfl⟩
 have N3 := N1.app Nq3
 refine own_aloadN X3 hx hby o37_24 (pc' := 25) rfl rfl rfl ?_
 refine own_aloadN X3 hx hby o37_25 (pc' := 26) rfl rfl rfl ?_
 refine own_getF X3 hx hby hZ hown (host := "") (Or.inl (ow_121 hw)) Via.refl e3 F_n o37_26 (pc' := 29) rfl ?_
 intro T4 X4 e4
 refine own_aloadN X4 hx hby o37_29 (pc' := 30) rfl rfl rfl ?_
 refine own_privM X4 hx hby hml hZ hown (ow_156 hw) (ow_157 hw) (own_selP (ow_157 hw) (ow_158 hw) (ow_130 hw) rfl (by decide)) (ow_158 hw) (ow_103 hw) (ow_160 hw) (by decide) (cc := 0) (ss := 0) (rm_psa l Z a0 hw a1 a2 vb out bs (Int32.ofNat out.length) G1 h0 n0 Z0 S_cs P5 n0_a1 nesv A1 F_v F_c F_n n0_vb hl16 VP S2) 0 rfl rfl (by decide) (by decide) rfl A1 (argsL := [(.int (Int32.ofNat out.length)), (.ref a2)]) (rest := []) opd_25 rfl rfl (Nat.le_refl _) o37_30 (pc' := 33) rfl rfl e4 (by decide) (by decide) ?_
 rintro v5 T5 h5 L5 X5 e5 ⟨rfl, Nq5, Kq5, VP⟩
 have N5 := N3.app Nq5
 have sz6 := Nat.le_trans (Nat.le_refl _) Kq5.1
 replace A1 := A1.keep Kq5
 replace F_v := F_v.keep Kq5 (own_niS nesv own_ni0)
 replace F_c := F_c.keep Kq5 (own_niS nesv own_ni0)
 replace F_n := F_n.keep Kq5 (own_niS nesv own_ni0)
 replace A2 := A2.keep Kq5
 have kx7 := kx0.trans Kq5 (allS (Or.inl (List.mem_of_getElem? (i := 1) rfl)) all0)
 refine own_aloadN X5 hx hby o37_33 (pc' := 34) rfl rfl rfl ?_
 refine own_dup X5 hx hby o37_34 (pc' := 35) rfl rfl ?_
 refine own_getF X5 hx hby hZ hown (host := "") (Or.inl (ow_121 hw)) Via.refl e5 F_n o37_35 (pc' := 38) rfl ?_
 intro T8 X8 e8
 refine own_iloadN X8 hx hby o37_38 (pc' := 39) rfl rfl ?_
 refine own_iadd X8 hx hby o37_39 (pc' := 40) rfl ?_
 rw [show (Int32.ofNat out.length + Int32.ofNat bs.length) = Int32.ofNat (out.length + bs.length) from own_j rfl]
 refine own_putF X8 hx hby hZ hown (host := "") (Or.inl (ow_121 hw)) Via.refl e8 F_n A1 (Or.inl (ow_122 hw)) (ow_94 hw) (ty := .int) (by decide) rfl rfl o37_40 (pc' := 43) rfl ?_
 intro T9 h9 X9 e9 W9 F9_count_a1 A9_a1
 replace F_v := F_v.other W9 (Or.inr (slot_ne (Or.inl (ow_108 hw)) (Or.inl (ow_122 hw)) (by decide) (t := (.array .byte)) (t' := .int) (by decide) (by decide)))
 replace F_c := F_c.other W9 (Or.inr (slot_ne (Or.inl (ow_110 hw)) (Or.inl (ow_122 hw)) (by decide) (t := .byte) (t' := .int) (by decide) (by decide)))
 have sz10 := Nat.le_trans sz6 (Keep.of_wr W9).1
 replace A2 := A2.wr W9
 replace VP := VP.other W9 nesv.symm
 have kx11 := kx7.wr W9 (Or.inl (List.mem_of_getElem? (i := 0) rfl))
 have N9 := own_fr1 (sl := Jvm.RoadKit.slotOf Z "java/lang/AbstractStringBuilder" "count" "I") N5 n0_a1
 refine own_aloadN X9 hx hby o37_43 (pc' := 44) rfl rfl rfl ?_
 exact own_retA X9 hx hby hlk hrt rfl rfl o37_44 (by first | exact ⟨rfl, N9, kx11, A9_a1, F_v, F_c, by rw [List.length_append]; exact F9_count_a1, VP, nesv⟩ | (rw [e9]; exact ⟨rfl, N9, kx11, A9_a1, F_v, F_c, by rw [List.length_append]; exact F9_count_a1, VP, nesv⟩)) (by decide) (by decide)
theorem ef_rm_sbaps (m : MethodId) (x0 : Addr) (x1 : Addr) : entryFrame m #[(.ref x0), (.ref x1)] 2 = mkF m 0 #[.val (.ref x0), .val (.ref x1)] [] := by first | (simp [entryFrame, mkF, argsToLocals, Value.category]; done) | rfl
set_option maxRecDepth 65536 in
set_option maxHeartbeats 40000000 in
theorem rm_sbaps (l : Launch) (Z : State) (a0 : Array Value) (hw : ∀ d ∈ tables_1, d.before a0 Z = true) (a1 a2 vb : Addr) (out bs : List Int32) (G1 : Int32) (h0 : Heap) (n0 : Nat) (Z0 : n0 ≤ h0.size) (n0_a1 : n0 ≤ a1) (n0_vb : n0 ≤ vb) (hb8 : bs.length ≤ 8) (hl16 : out.length + bs.length ≤ 16) (S_cs : Sta Z h0 "java/lang/String" "COMPACT_STRINGS" "Z" (.int G1)) (P5 : ¬ (G1 = (0 : Int32))) (O : own_SB2 Z h0 a1 vb out) (S2 : own_SL Z h0 a2 bs) :
  own_Met l Z (⟨"java/lang/StringBuilder", "append", "(Ljava/lang/String;)Ljava/lang/StringBuilder;"⟩ : MethodName) jdk_67_method_7_code 2 (some (.object "java/lang/StringBuilder")) ({ frames := 4, cells := 0, slots := 0, locals := 83 } : Room) #[(.ref a1), (.ref a2)] h0 (fun v h L => v = some (.ref a1) ∧ Fr n0 L ∧ Keep h0 h [a1, vb] ∧ own_SB2 Z h a1 vb (out ++ bs)) := by
 refine own_body (plainFor_of_name (by first | (simp [plainName, overriddenIn]; done) | decide +kernel)) ?_
 intro p e s m below meth c s₁ hx hby hml hown hnm hlk hrt hZ X0 e0
 refine own_enter (ef_rm_sbaps m a1 a2) ?_
 have N0 := Fr.nil n0
 have kx0 := Keep.refl h0 [a1, vb]
 have A1 := O.1
 refine own_aloadN X0 hx hby o38_0 (pc' := 1) rfl rfl rfl ?_
 refine own_aloadN X0 hx hby o38_1 (pc' := 2) rfl rfl rfl ?_
 refine own_superM X0 hx hby hml hZ hown (ow_147 hw) (own_same (ow_149 hw) (ow_130 hw) rfl (by decide)) (ow_148 hw) (ow_118 hw) (by decide) (ow_103 hw) (ow_150 hw) (cc := 0) (ss := 0) (rm_aps l Z a0 hw a1 a2 vb out bs G1 h0 n0 Z0 n0_a1 n0_vb hb8 hl16 S_cs P5 O S2) 0 rfl rfl (by decide) (by decide) rfl (Ins.self A1) (argsL := [(.ref a2)]) (rest := []) opd_26 rfl rfl (Nat.le_refl _) o38_2 (pc' := 5) rfl rfl e0 (by decide) (by decide) ?_
 rintro v1 T1 h1 L1 X1 e1 ⟨rfl, Nq1, Kq1, O2⟩
 have N1 := N0.app Nq1
 have sz2 := Nat.le_trans (Nat.le_refl _) Kq1.1
 replace A1 := A1.keep Kq1
 have kx3 := kx0.trans Kq1 (allS (Or.inl (List.mem_of_getElem? (i := 0) rfl)) (allS (Or.inl (List.mem_of_getElem? (i := 1) rfl)) all0))
 refine own_pop X1 hx hby o38_5 (pc' := 6) rfl rfl ?_
 refine own_aloadN X1 hx hby o38_6 (pc' := 7) rfl rfl rfl ?_
 exact own_retA X1 hx hby hlk hrt rfl rfl o38_7 (by first | exact ⟨rfl, N1, kx3, O2⟩ | (rw [e1]; exact ⟨rfl, N1, kx3, O2⟩)) (by decide) (by decide)
theorem ef_rm_chk (m : MethodId) (x0 : Int32) (x1 : Int32) : entryFrame m #[(.int x0), (.int x1)] 2 = mkF m 0 #[.val (.int x0), .val (.int x1)] [] := by first | (simp [entryFrame, mkF, argsToLocals, Value.category]; done) | rfl
set_option maxRecDepth 65536 in
set_option maxHeartbeats 40000000 in
theorem rm_chk (l : Launch) (Z : State) (a0 : Array Value) (hw : ∀ d ∈ tables_1, d.before a0 Z = true) (k : Nat) (h0 : Heap) (n0 : Nat) (Z0 : n0 ≤ h0.size) (hk : k < 16) :
  own_Met l Z (⟨"java/util/Arrays", "checkLength", "(II)V"⟩ : MethodName) jdk_65_method_131_code 2 none ({ frames := 0, cells := 0, slots := 0, locals := 0 } : Room) #[(.int (0 : Int32)), (.int (Int32.ofNat k))] h0 (fun v h L => v = none ∧ Fr n0 L ∧ h0 = h) := by
 refine own_body (plainFor_of_name (by first | (simp [plainName, overriddenIn]; done) | decide +kernel)) ?_
 intro p e s m below meth c s₁ hx hby hml hown hnm hlk hrt hZ X0 e0
 refine own_enter (ef_rm_chk m (0 : Int32) (Int32.ofNat k)) ?_
 have N0 := Fr.nil n0
 refine own_iloadN X0 hx hby o39_0 (pc' := 1) rfl rfl ?_
 refine own_iloadN X0 hx hby o39_1 (pc' := 2) rfl rfl ?_
 refine own_icmpY X0 hx hby o39_2 (by decide) (pc' := 37) (by decide) (flt (own_ipos (by omega))).2.1 ?_
 exact own_ret0 X0 hx hby hlk hrt o39_37 (by first | exact ⟨rfl, N0, rfl⟩ | (rw [e0]; exact ⟨rfl, N0, rfl⟩)) (by decide) (by decide)
theorem ef_rm_crb (m : MethodId) (x0 : Addr) (x1 : Int32) (x2 : Int32) : entryFrame m #[(.ref x0), (.int x1), (.int x2)] 5 = mkF m 0 #[.val (.ref x0), .val (.int x1), .val (.int x2), .unset, .unset] [] := by first | (simp [entryFrame, mkF, argsToLocals, Value.category]; done) | rfl
set_option maxRecDepth 65536 in
set_option maxHeartbeats 40000000 in
theorem rm_crb (l : Launch) (Z : State) (a0 : Array Value) (hw : ∀ d ∈ tables_1, d.before a0 Z = true) (a1 : Addr) (out : List Int32) (h0 : Heap) (n0 : Nat) (Z0 : n0 ≤ h0.size) (hk : out.length < 16) (V1 : own_Pre Z h0 a1 16 out) :
  own_Met l Z (⟨"java/util/Arrays", "copyOfRangeByte", "([BII)[B"⟩ : MethodName) jdk_65_method_133_code 5 (some (.array .byte)) ({ frames := 1, cells := 1, slots := 16, locals := 40 } : Room) #[(.ref a1), (.int (0 : Int32)), (.int (Int32.ofNat out.length))] h0 (fun v h L => ∃ b : Addr, v = some (.ref b) ∧ h0.size ≤ b ∧ Ext h0 h ∧ Fr n0 L ∧ own_Bl Z h b out) := by
 refine own_body (plainFor_of_name (by first | (simp [plainName, overriddenIn]; done) | decide +kernel)) ?_
 intro p e s m below meth c s₁ hx hby hml hown hnm hlk hrt hZ X0 e0
 refine own_enter (ef_rm_crb m a1 (0 : Int32) (Int32.ofNat out.length)) ?_
 have N0 := Fr.nil n0
 refine own_iloadN X0 hx hby o40_0 (pc' := 1) rfl rfl ?_
 refine own_iloadN X0 hx hby o40_1 (pc' := 2) rfl rfl ?_
 refine own_callM X0 hx hby hml hZ hown (ow_209 hw) (ow_210 hw) (ow_204 hw) (ow_211 hw) (by decide) (cc := 0) (ss := 0) (rm_chk l Z a0 hw out.length h0 n0 Z0 hk) 0 rfl rfl (by decide) (by decide) rfl (argsL := [(.int (0 : Int32)), (.int (Int32.ofNat out.length))]) (rest := []) opd_27 rfl rfl (Nat.le_refl _) o40_2 (pc' := 5) rfl rfl e0 (by decide) (by decide) ?_
 rintro v1 T1 h1 L1 X1 e1 ⟨rfl, Nq1, rfl⟩
 have N1 := N0.app Nq1
 refine own_iloadN X1 hx hby o40_5 (pc' := 6) rfl rfl ?_
 refine own_iloadN X1 hx hby o40_6 (pc' := 7) rfl rfl ?_
 refine own_isub X1 hx hby o40_7 (pc' := 8) rfl ?_
 rw [show (Int32.ofNat out.length - (0 : Int32)) = Int32.ofNat out.length from Int32.sub_zero _]
 refine own_istoreN X1 hx hby o40_8 (pc' := 9) rfl (Ls' := #[.val (.ref a1), .val (.int (0 : Int32)), .val (.int (Int32.ofNat out.length)), .val (.int (Int32.ofNat out.length)), .unset]) rfl ?_
 refine own_iloadN X1 hx hby o40_9 (pc' := 10) rfl rfl ?_
 refine own_nB (N := out.length) X1 hx hby hZ (ow_0 hw) e1 o40_10 (pc' := 12) rfl (cap := 16) (Nat.le_of_lt hk) (by decide) (by decide) (by decide) ?_
 intro T2 h2 b2 g2 X2 e2 E2 V_b2
 have ne_a1_b2 : a1 ≠ b2 := own_nl V1.lt g2
 have n0_b2 : n0 ≤ b2 := Nat.le_trans Z0 (Nat.le_of_eq g2.symm)
 have le0_b2 : h0.size ≤ b2 := Nat.le_trans (Nat.le_refl _) (Nat.le_of_eq g2.symm)
 have sz3 := Nat.le_trans (Nat.le_refl _) E2.1
 replace V1 := V1.ext E2
 have be4 := own_xt own_xr E2
 refine own_astore X2 hx hby o40_12 (pc' := 14) rfl rfl (Ls' := #[.val (.ref a1), .val (.int (0 : Int32)), .val (.int (Int32.ofNat out.length)), .val (.int (Int32.ofNat out.length)), .val (.ref b2)]) rfl ?_
 refine own_aloadN X2 hx hby o40_14 (pc' := 15) rfl rfl rfl ?_
 refine own_iloadN X2 hx hby o40_15 (pc' := 16) rfl rfl ?_
 refine own_aload X2 hx hby o40_16 (pc' := 18) rfl rfl rfl ?_
 refine own_iconst X2 hx hby o40_18 (pc' := 19) rfl (z := 0) rfl ?_
 refine own_aloadN X2 hx hby o40_19 (pc' := 20) rfl rfl rfl ?_
 refine own_lP X2 hx hby hZ e2 V1 o40_20 (pc' := 21) rfl ?_
 refine own_iloadN X2 hx hby o40_21 (pc' := 22) rfl rfl ?_
 refine own_isub X2 hx hby o40_22 (pc' := 23) rfl ?_
 rw [show (Int32.ofNat 16 - (0 : Int32)) = Int32.ofNat 16 from rfl]
 refine own_iloadN X2 hx hby o40_23 (pc' := 24) rfl rfl ?_
 refine own_callM X2 hx hby hml hZ hown (ow_212 hw) (ow_213 hw) (ow_214 hw) (ow_215 hw) (by decide) (cc := 0) (ss := 0) (rm_min l Z a0 hw 16 out.length h2 n0 (Nat.le_trans Z0 sz3) (by decide) hk) 4 rfl rfl (by decide) (by decide) rfl (argsL := [(.int (Int32.ofNat 16)), (.int (Int32.ofNat out.length))]) (rest := [(.int (0 : Int32)), (.ref b2), (.int (0 : Int32)), (.ref a1)]) opd_8 rfl rfl (Nat.le_refl _) o40_24 (pc' := 27) rfl rfl e2 (by decide) (by decide) ?_
 rintro v5 T5 h5 L5 X5 e5 ⟨rfl, Nq5, rfl⟩
 have N5 := N1.app Nq5
 obtain ⟨g1, VA, hle, hg⟩ := id V1
 refine own_cpF X5 hx hby hZ hml hown (ow_216 hw) (ow_175 hw) (ow_173 hw) (ow_174 hw) e5 VA V_b2 (sp := 0) (dp := 0) (nn := out.length) (by omega) (by omega) (n0 := n0) N5 n0_b2 rfl o40_27 (pc' := 30) rfl (by decide) (W := 0) (Nat.le_refl _) (by decide) ?_
 intro T6 h6 L6 X6 e6 N6 K_6 VQ
 have sz7 := Nat.le_trans sz3 K_6.1
 replace V1 := V1.keep K_6 (own_niS ne_a1_b2 own_ni0)
 have be8 := own_xk be4 K_6 (allS le0_b2 all0)
 refine own_aload X6 hx hby o40_30 (pc' := 32) rfl rfl rfl ?_
 exact own_retA X6 hx hby hlk hrt rfl rfl o40_32 (by first | exact ⟨b2, rfl, le0_b2, be8, N6, own_cpBl rfl VQ hg⟩ | (rw [e6]; exact ⟨b2, rfl, le0_b2, be8, N6, own_cpBl rfl VQ hg⟩)) (by decide) (by decide)
theorem ef_rm_cor (m : MethodId) (x0 : Addr) (x1 : Int32) (x2 : Int32) : entryFrame m #[(.ref x0), (.int x1), (.int x2)] 3 = mkF m 0 #[.val (.ref x0), .val (.int x1), .val (.int x2)] [] := by first | (simp [entryFrame, mkF, argsToLocals, Value.category]; done) | rfl
set_option maxRecDepth 65536 in
set_option maxHeartbeats 40000000 in
theorem rm_cor (l : Launch) (Z : State) (a0 : Array Value) (hw : ∀ d ∈ tables_1, d.before a0 Z = true) (a1 : Addr) (out : List Int32) (h0 : Heap) (n0 : Nat) (Z0 : n0 ≤ h0.size) (hk : out.length < 16) (V1 : own_Pre Z h0 a1 16 out) :
  own_Met l Z (⟨"java/util/Arrays", "copyOfRange", "([BII)[B"⟩ : MethodName) jdk_65_method_132_code 3 (some (.array .byte)) ({ frames := 2, cells := 1, slots := 16, locals := 56 } : Room) #[(.ref a1), (.int (0 : Int32)), (.int (Int32.ofNat out.length))] h0 (fun v h L => ∃ b : Addr, v = some (.ref b) ∧ h0.size ≤ b ∧ Ext h0 h ∧ Fr n0 L ∧ own_Bl Z h b out) := by
 refine own_body (plainFor_of_name (by first | (simp [plainName, overriddenIn]; done) | decide +kernel)) ?_
 intro p e s m below meth c s₁ hx hby hml hown hnm hlk hrt hZ X0 e0
 refine own_enter (ef_rm_cor m a1 (0 : Int32) (Int32.ofNat out.length)) ?_
 have N0 := Fr.nil n0
 refine own_iloadN X0 hx hby o41_0 (pc' := 1) rfl rfl ?_
 refine own_ifN X0 hx hby o41_1 (pc' := 4) rfl (teq rfl).2 ?_
 refine own_iloadN X0 hx hby o41_4 (pc' := 5) rfl rfl ?_
 refine own_aloadN X0 hx hby o41_5 (pc' := 6) rfl rfl rfl ?_
 refine own_lP X0 hx hby hZ e0 V1 o41_6 (pc' := 7) rfl ?_
 refine own_icmpN X0 hx hby o41_7 (pc' := 10) rfl (feq (fun q => absurd (own_inj (by omega) (by decide) q) (by omega))).1 ?_
 refine own_aloadN X0 hx hby o41_10 (pc' := 11) rfl rfl rfl ?_
 refine own_iloadN X0 hx hby o41_11 (pc' := 12) rfl rfl ?_
 refine own_iloadN X0 hx hby o41_12 (pc' := 13) rfl rfl ?_
 refine own_callM X0 hx hby hml hZ hown (ow_206 hw) (ow_207 hw) (ow_204 hw) (ow_208 hw) (by decide) (cc := 1) (ss := 16) (rm_crb l Z a0 hw a1 out h0 n0 Z0 hk V1) 0 rfl rfl (by decide) (by decide) rfl (argsL := [(.ref a1), (.int (0 : Int32)), (.int (Int32.ofNat out.length))]) (rest := []) opd_28 rfl rfl (Nat.le_refl _) o41_13 (pc' := 16) rfl rfl e0 (by decide) (by decide) ?_
 rintro v1 T1 h1 L1 X1 e1 ⟨bc, rfl, lb1, Eq1, Nq1, VB⟩
 have ne_a1_bc : a1 ≠ bc := Nat.ne_of_lt (Nat.lt_of_lt_of_le V1.lt lb1)
 have n0_bc : n0 ≤ bc := Nat.le_trans Z0 lb1
 have le0_bc : h0.size ≤ bc := Nat.le_trans (Nat.le_refl _) lb1
 have N1 := N0.app Nq1
 have sz2 := Nat.le_trans (Nat.le_refl _) Eq1.1
 replace V1 := V1.ext Eq1
 have be3 := own_xt own_xr Eq1
 exact own_retA X1 hx hby hlk hrt rfl rfl o41_16 (by first | exact ⟨bc, rfl, le0_bc, be3, N1, VB⟩ | (rw [e1]; exact ⟨bc, rfl, le0_bc, be3, N1, VB⟩)) (by decide) (by decide)
theorem ef_rm_gv (m : MethodId) (x0 : Addr) : entryFrame m #[(.ref x0)] 1 = mkF m 0 #[.val (.ref x0)] [] := by first | (simp [entryFrame, mkF, argsToLocals, Value.category]; done) | rfl
set_option maxRecDepth 65536 in
set_option maxHeartbeats 40000000 in
theorem rm_gv (l : Launch) (Z : State) (a0 : Array Value) (hw : ∀ d ∈ tables_1, d.before a0 Z = true) (a1 vb : Addr) (h0 : Heap) (n0 : Nat) (Z0 : n0 ≤ h0.size) (F_v : Fld Z h0 a1 "java/lang/AbstractStringBuilder" "value" "[B" (.ref vb)) :
  own_Met l Z (⟨"java/lang/AbstractStringBuilder", "getValue", "()[B"⟩ : MethodName) jdk_68_method_64_code 1 (some (.array .byte)) ({ frames := 0, cells := 0, slots := 0, locals := 0 } : Room) #[(.ref a1)] h0 (fun v h L => v = some (.ref vb) ∧ Fr n0 L ∧ h0 = h) := by
 refine own_body (plainFor_of_name (by first | (simp [plainName, overriddenIn]; done) | decide +kernel)) ?_
 intro p e s m below meth c s₁ hx hby hml hown hnm hlk hrt hZ X0 e0
 refine own_enter (ef_rm_gv m a1) ?_
 have N0 := Fr.nil n0
 refine own_aloadN X0 hx hby o42_0 (pc' := 1) rfl rfl rfl ?_
 refine own_getF X0 hx hby hZ hown (host := "") (Or.inl (ow_107 hw)) Via.refl e0 F_v o42_1 (pc' := 4) rfl ?_
 intro T1 X1 e1
 exact own_retA X1 hx hby hlk hrt rfl rfl o42_4 (by first | exact ⟨rfl, N0, rfl⟩ | (rw [e1]; exact ⟨rfl, N0, rfl⟩)) (by decide) (by decide)
theorem ef_rm_aln (m : MethodId) (x0 : Addr) : entryFrame m #[(.ref x0)] 1 = mkF m 0 #[.val (.ref x0)] [] := by first | (simp [entryFrame, mkF, argsToLocals, Value.category]; done) | rfl
set_option maxRecDepth 65536 in
set_option maxHeartbeats 40000000 in
theorem rm_aln (l : Launch) (Z : State) (a0 : Array Value) (hw : ∀ d ∈ tables_1, d.before a0 Z = true) (a1 : Addr) (cn : Int32) (h0 : Heap) (n0 : Nat) (Z0 : n0 ≤ h0.size) (F_n : Fld Z h0 a1 "java/lang/AbstractStringBuilder" "count" "I" (.int cn)) :
  own_Met l Z (⟨"java/lang/AbstractStringBuilder", "length", "()I"⟩ : MethodName) jdk_68_method_6_code 1 (some .int) ({ frames := 0, cells := 0, slots := 0, locals := 0 } : Room) #[(.ref a1)] h0 (fun v h L => v = some (.int cn) ∧ Fr n0 L ∧ h0 = h) := by
 refine own_body (plainFor_of_name (by first | (simp [plainName, overriddenIn]; done) | decide +kernel)) ?_
 intro p e s m below meth c s₁ hx hby hml hown hnm hlk hrt hZ X0 e0
 refine own_enter (ef_rm_aln m a1) ?_
 have N0 := Fr.nil n0
 refine own_aloadN X0 hx hby o43_0 (pc' := 1) rfl rfl rfl ?_
 refine own_getF X0 hx hby hZ hown (host := "") (Or.inl (ow_121 hw)) Via.refl e0 F_n o43_1 (pc' := 4) rfl ?_
 intro T1 X1 e1
 exact own_retI X1 hx hby hlk hrt o43_4 (by first | exact ⟨rfl, N0, rfl⟩ | (rw [e1]; exact ⟨rfl, N0, rfl⟩)) (by decide) (by decide)
theorem ef_rm_sln (m : MethodId) (x0 : Addr) : entryFrame m #[(.ref x0)] 1 = mkF m 0 #[.val (.ref x0)] [] := by first | (simp [entryFrame, mkF, argsToLocals, Value.category]; done) | rfl
set_option maxRecDepth 65536 in
set_option maxHeartbeats 40000000 in
theorem rm_sln (l : Launch) (Z : State) (a0 : Array Value) (hw : ∀ d ∈ tables_1, d.before a0 Z = true) (a1 : Addr) (cn : Int32) (h0 : Heap) (n0 : Nat) (Z0 : n0 ≤ h0.size) (A1 : Exa Z h0 a1 "java/lang/StringBuilder") (F_n : Fld Z h0 a1 "java/lang/AbstractStringBuilder" "count" "I" (.int cn)) :
  own_Met l Z (⟨"java/lang/StringBuilder", "length", "()I"⟩ : MethodName) jdk_67_method_93_code 1 (some .int) ({ frames := 1, cells := 0, slots := 0, locals := 12 } : Room) #[(.ref a1)] h0 (fun v h L => v = some (.int cn) ∧ Fr n0 L ∧ h0 = h) := by
 refine own_body (plainFor_of_name (by first | (simp [plainName, overriddenIn]; done) | decide +kernel)) ?_
 intro p e s m below meth c s₁ hx hby hml hown hnm hlk hrt hZ X0 e0
 refine own_enter (ef_rm_sln m a1) ?_
 have N0 := Fr.nil n0
 refine own_aloadN X0 hx hby o44_0 (pc' := 1) rfl rfl rfl ?_
 refine own_superM X0 hx hby hml hZ hown (ow_199 hw) (own_same (ow_194 hw) (ow_130 hw) rfl (by decide)) (ow_195 hw) (ow_118 hw) (by decide) (ow_103 hw) (ow_200 hw) (cc := 0) (ss := 0) (rm_aln l Z a0 hw a1 cn h0 n0 Z0 F_n) 0 rfl rfl (by decide) (by decide) rfl (Ins.self A1) (argsL := []) (rest := []) opd_24 rfl rfl (Nat.le_refl _) o44_1 (pc' := 4) rfl rfl e0 (by decide) (by decide) ?_
 rintro v1 T1 h1 L1 X1 e1 ⟨rfl, Nq1, rfl⟩
 have N1 := N0.app Nq1
 exact own_retI X1 hx hby hlk hrt o44_4 (by first | exact ⟨rfl, N1, rfl⟩ | (rw [e1]; exact ⟨rfl, N1, rfl⟩)) (by decide) (by decide)
theorem ef_rm_sia (m : MethodId) (x0 : Addr) (x1 : Addr) : entryFrame m #[(.ref x0), (.ref x1), .null] 5 = mkF m 0 #[.val (.ref x0), .val (.ref x1), .val .null, .unset, .unset] [] := by first | (simp [entryFrame, mkF, argsToLocals, Value.category]; done) | rfl
set_option maxRecDepth 65536 in
set_option maxHeartbeats 40000000 in
theorem rm_sia (l : Launch) (Z : State) (a0 : Array Value) (hw : ∀ d ∈ tables_1, d.before a0 Z = true) (a1 a2 vb : Addr) (out : List Int32) (G1 : Int32) (h0 : Heap) (n0 : Nat) (Z0 : n0 ≤ h0.size) (n0_a1 : n0 ≤ a1) (hk : out.length < 16) (S_cs : Sta Z h0 "java/lang/String" "COMPACT_STRINGS" "Z" (.int G1)) (P5 : ¬ (G1 = (0 : Int32))) (O : own_SB2 Z h0 a2 vb out) (A1 : Exa Z h0 a1 "java/lang/String") (F1 : Fld Z h0 a1 "java/lang/String" "value" "[B" .null) (F2 : Fld Z h0 a1 "java/lang/String" "coder" "B" (.int (0 : Int32))) :
  own_Met l Z (⟨"java/lang/String", "<init>", "(Ljava/lang/AbstractStringBuilder;Ljava/lang/Void;)V"⟩ : MethodName) jdk_42_method_150_code 5 none ({ frames := 3, cells := 1, slots := 16, locals := 71 } : Room) #[(.ref a1), (.ref a2), .null] h0 (fun v h L => v = none ∧ Fr n0 L ∧ Keep h0 h [a1] ∧ own_SL Z h a1 out) := by
 refine own_body (plainFor_of_name (by first | (simp [plainName, overriddenIn]; done) | decide +kernel)) ?_
 intro p e s m below meth c s₁ hx hby hml hown hnm hlk hrt hZ X0 e0
 refine own_enter (ef_rm_sia m a1 a2) ?_
 have N0 := Fr.nil n0
 have kx0 := Keep.refl h0 [a1]
 obtain ⟨A_a2, F_v, F_c, F_n, VP, nesv⟩ := O
 have ne2v : a1 ≠ vb := Exa.ne A1 VP.exa (by decide)
 have ne21 : a2 ≠ a1 := Exa.ne A_a2 A1 (by decide)
 refine own_aloadN X0 hx hby o45_0 (pc' := 1) rfl rfl rfl ?_
 refine own_initO X0 hx hby hZ hml hown (ow_17 hw) (ow_18 hw) (ow_19 hw) e0 rfl o45_1 (pc' := 4) rfl (by decide) (W := 0) (Nat.le_refl _) (by decide) ?_
 intro T1 X1 e1
 refine own_aloadN X1 hx hby o45_4 (pc' := 5) rfl rfl rfl ?_
 refine own_virtM X1 hx hby hml hZ hown (ow_188 hw) (ow_189 hw) (notFace_of_selects (args := #[]) (mvT hZ (ow_191 hw))) (ow_191 hw) (ow_190 hw) (ow_103 hw) (ow_192 hw) (by decide) (cc := 0) (ss := 0) (rm_gv l Z a0 hw a2 vb h0 n0 Z0 F_v) 0 rfl rfl (by decide) (by decide) rfl A_a2 (argsL := []) (rest := []) opd_29 rfl rfl (Nat.le_refl _) o45_5 (pc' := 8) rfl rfl e1 (by decide) (by decide) ?_
 rintro v2 T2 h2 L2 X2 e2 ⟨rfl, Nq2, rfl⟩
 have N2 := N0.app Nq2
 refine own_astoreN X2 hx hby o45_8 (pc' := 9) rfl rfl (Ls' := #[.val (.ref a1), .val (.ref a2), .val .null, .val (.ref vb), .unset]) rfl ?_
 refine own_aloadN X2 hx hby o45_9 (pc' := 10) rfl rfl rfl ?_
 refine own_virtM X2 hx hby hml hZ hown (ow_193 hw) (ow_194 hw) (own_nfs (args := #[]) (mvT hZ (ow_130 hw)) rfl) (ow_196 hw) (ow_197 hw) (ow_95 hw) (ow_198 hw) (by decide) (cc := 0) (ss := 0) (rm_sln l Z a0 hw a2 (Int32.ofNat out.length) h0 n0 Z0 A_a2 F_n) 0 rfl rfl (by decide) (by decide) rfl A_a2 (argsL := []) (rest := []) opd_24 rfl rfl (Nat.le_refl _) o45_10 (pc' := 13) rfl rfl e2 (by decide) (by decide) ?_
 rintro v3 T3 h3 L3 X3 e3 ⟨rfl, Nq3, rfl⟩
 have N3 := N2.app Nq3
 refine own_istore X3 hx hby o45_13 (pc' := 15) rfl (Ls' := #[.val (.ref a1), .val (.ref a2), .val .null, .val (.ref vb), .val (.int (Int32.ofNat out.length))]) rfl ?_
 refine own_aloadN X3 hx hby o45_15 (pc' := 16) rfl rfl rfl ?_
 refine own_virtM X3 hx hby hml hZ hown (ow_201 hw) (ow_133 hw) (notFace_of_selects (args := #[]) (mvT hZ (ow_135 hw))) (ow_135 hw) (ow_134 hw) (ow_103 hw) (ow_136 hw) (by decide) (cc := 0) (ss := 0) (rm_isL l Z a0 hw a2 G1 h0 n0 Z0 S_cs P5 F_c) 0 rfl rfl (by decide) (by decide) rfl A_a2 (argsL := []) (rest := []) opd_19 rfl rfl (Nat.le_refl _) o45_16 (pc' := 19) rfl rfl e3 (by decide) (by decide) ?_
 rintro v4 T4 h4 L4 X4 e4 ⟨rfl, Nq4, rfl⟩
 have N4 := N3.app Nq4
 refine own_ifN X4 hx hby o45_19 (pc' := 22) rfl (feq (by decide)).1 ?_
 refine own_aloadN X4 hx hby o45_22 (pc' := 23) rfl rfl rfl ?_
 refine own_iconst X4 hx hby o45_23 (pc' := 24) rfl (z := 0) rfl ?_
 refine own_putFN X4 hx hby hZ hown (ow_26 hw) Via.refl e4 F2 A1 (Or.inr ⟨(ow_22 hw), rfl, hnm⟩) (ow_8 hw) (ty := .byte) (v' := (.int (0 : Int32))) (by decide) rfl rfl o45_24 (pc' := 27) rfl ?_
 intro T5 h5 X5 e5 W5 F5_coder_a1 A5_a1
 replace F1 := F1.other W5 (Or.inr (slot_ne (Or.inr (ow_21 hw)) (Or.inr (ow_22 hw)) (by decide) (t := (.array .byte)) (t' := .byte) (by decide) (by decide)))
 have sz6 := Nat.le_trans (Nat.le_refl _) (Keep.of_wr W5).1
 replace A_a2 := A_a2.wr W5
 replace F_v := F_v.other W5 (Or.inl ne21)
 replace F_c := F_c.other W5 (Or.inl ne21)
 replace F_n := F_n.other W5 (Or.inl ne21)
 replace VP := VP.other W5 ne2v.symm
 have kx7 := kx0.wr W5 (Or.inl (List.mem_of_getElem? (i := 0) rfl))
 have N5 := own_fr1 (sl := Jvm.RoadKit.slotOf Z "java/lang/String" "coder" "B") N4 n0_a1
 refine own_aloadN X5 hx hby o45_27 (pc' := 28) rfl rfl rfl ?_
 refine own_aloadN X5 hx hby o45_28 (pc' := 29) rfl rfl rfl ?_
 refine own_iconst X5 hx hby o45_29 (pc' := 30) rfl (z := 0) rfl ?_
 refine own_iload X5 hx hby o45_30 (pc' := 32) rfl rfl ?_
 refine own_callM X5 hx hby hml hZ hown (ow_202 hw) (ow_203 hw) (ow_204 hw) (ow_205 hw) (by decide) (cc := 1) (ss := 16) (rm_cor l Z a0 hw vb out h5 n0 (Nat.le_trans Z0 sz6) hk VP) 1 rfl rfl (by decide) (by decide) rfl (argsL := [(.ref vb), (.int (0 : Int32)), (.int (Int32.ofNat out.length))]) (rest := [(.ref a1)]) opd_28 rfl rfl (Nat.le_refl _) o45_32 (pc' := 35) rfl rfl e5 (by decide) (by decide) ?_
 rintro v8 T8 h8 L8 X8 e8 ⟨bc, rfl, lb8, Eq8, Nq8, VB⟩
 have ne_a2_bc : a2 ≠ bc := Nat.ne_of_lt (Nat.lt_of_lt_of_le A_a2.lt lb8)
 have ne_vb_bc : vb ≠ bc := Nat.ne_of_lt (Nat.lt_of_lt_of_le VP.lt lb8)
 have ne_a1_bc : a1 ≠ bc := Nat.ne_of_lt (Nat.lt_of_lt_of_le A5_a1.lt lb8)
 have n0_bc : n0 ≤ bc := Nat.le_trans (Nat.le_trans Z0 sz6) lb8
 have le0_bc : h0.size ≤ bc := Nat.le_trans sz6 lb8
 have N8 := N5.app Nq8
 have sz9 := Nat.le_trans sz6 Eq8.1
 replace A_a2 := A_a2.ext Eq8
 replace F_v := F_v.ext Eq8
 replace F_c := F_c.ext Eq8
 replace F_n := F_n.ext Eq8
 replace VP := VP.ext Eq8
 replace A5_a1 := A5_a1.ext Eq8
 replace F1 := F1.ext Eq8
 replace F5_coder_a1 := F5_coder_a1.ext Eq8
 have kx11 := kx7.ext Eq8
 refine own_putF X8 hx hby hZ hown (host := "") (Or.inl (ow_25 hw)) Via.refl e8 F1 A5_a1 (Or.inr ⟨(ow_21 hw), rfl, hnm⟩) (ow_8 hw) (ty := (.array .byte)) (by decide) rfl rfl o45_35 (pc' := 38) rfl ?_
 intro T12 h12 X12 e12 W12 F12_value_a1 A12_a1
 replace F5_coder_a1 := F5_coder_a1.other W12 (Or.inr (slot_ne (Or.inr (ow_22 hw)) (Or.inr (ow_21 hw)) (by decide) (t := .byte) (t' := (.array .byte)) (by decide) (by decide)))
 have sz13 := Nat.le_trans sz9 (Keep.of_wr W12).1
 replace A_a2 := A_a2.wr W12
 replace F_v := F_v.other W12 (Or.inl ne21)
 replace F_c := F_c.other W12 (Or.inl ne21)
 replace F_n := F_n.other W12 (Or.inl ne21)
 replace VP := VP.other W12 ne2v.symm
 replace VB := VB.other W12 (Ne.symm ne_a1_bc)
 have kx14 := kx11.wr W12 (Or.inl (List.mem_of_getElem? (i := 0) rfl))
 have N12 := own_fr1 (sl := Jvm.RoadKit.slotOf Z "java/lang/String" "value" "[B") N8 n0_a1
 refine own_goto X12 hx hby o45_38 (by decide) (pc' := 97) (by decide) ?_
 exact own_ret0 X12 hx hby hlk hrt o45_97 (by first | exact ⟨rfl, N12, kx14, A12_a1, F5_coder_a1, bc, F12_value_a1, VB⟩ | (rw [e12]; exact ⟨rfl, N12, kx14, A12_a1, F5_coder_a1, bc, F12_value_a1, VB⟩)) (by decide) (by decide)
theorem ef_rm_sib (m : MethodId) (x0 : Addr) (x1 : Addr) : entryFrame m #[(.ref x0), (.ref x1)] 2 = mkF m 0 #[.val (.ref x0), .val (.ref x1)] [] := by first | (simp [entryFrame, mkF, argsToLocals, Value.category]; done) | rfl
set_option maxRecDepth 65536 in
set_option maxHeartbeats 40000000 in
theorem rm_sib (l : Launch) (Z : State) (a0 : Array Value) (hw : ∀ d ∈ tables_1, d.before a0 Z = true) (a1 a2 vb : Addr) (out : List Int32) (G1 : Int32) (h0 : Heap) (n0 : Nat) (Z0 : n0 ≤ h0.size) (n0_a1 : n0 ≤ a1) (hk : out.length < 16) (S_cs : Sta Z h0 "java/lang/String" "COMPACT_STRINGS" "Z" (.int G1)) (P5 : ¬ (G1 = (0 : Int32))) (O : own_SB2 Z h0 a2 vb out) (A1 : Exa Z h0 a1 "java/lang/String") (F1 : Fld Z h0 a1 "java/lang/String" "value" "[B" .null) (F2 : Fld Z h0 a1 "java/lang/String" "coder" "B" (.int (0 : Int32))) :
  own_Met l Z (⟨"java/lang/String", "<init>", "(Ljava/lang/StringBuilder;)V"⟩ : MethodName) jdk_42_method_53_code 2 none ({ frames := 4, cells := 1, slots := 16, locals := 87 } : Room) #[(.ref a1), (.ref a2)] h0 (fun v h L => v = none ∧ Fr n0 L ∧ Keep h0 h [a1] ∧ own_SL Z h a1 out) := by
 refine own_body (plainFor_of_name (by first | (simp [plainName, overriddenIn]; done) | decide +kernel)) ?_
 intro p e s m below meth c s₁ hx hby hml hown hnm hlk hrt hZ X0 e0
 refine own_enter (ef_rm_sib m a1 a2) ?_
 have N0 := Fr.nil n0
 have kx0 := Keep.refl h0 [a1]
 refine own_aloadN X0 hx hby o46_0 (pc' := 1) rfl rfl rfl ?_
 refine own_aloadN X0 hx hby o46_1 (pc' := 2) rfl rfl rfl ?_
 refine own_aconst_null X0 hx hby o46_2 (pc' := 3) rfl ?_
 refine own_specM X0 hx hby hml hZ hown rfl (ow_185 hw) (ow_186 hw) (ow_9 hw) (ow_187 hw) (by decide) (cc := 1) (ss := 16) (rm_sia l Z a0 hw a1 a2 vb out G1 h0 n0 Z0 n0_a1 hk S_cs P5 O A1 F1 F2) 0 rfl rfl (by decide) (by decide) rfl (argsL := [(.ref a2), .null]) (rest := []) opd_30 rfl rfl (Nat.le_refl _) o46_3 (pc' := 6) rfl rfl e0 (by decide) (by decide) ?_
 rintro v1 T1 h1 L1 X1 e1 ⟨rfl, Nq1, Kq1, S1⟩
 have N1 := N0.app Nq1
 have sz2 := Nat.le_trans (Nat.le_refl _) Kq1.1
 have kx3 := kx0.trans Kq1 (allS (Or.inl (List.mem_of_getElem? (i := 0) rfl)) all0)
 exact own_ret0 X1 hx hby hlk hrt o46_6 (by first | exact ⟨rfl, N1, kx3, S1⟩ | (rw [e1]; exact ⟨rfl, N1, kx3, S1⟩)) (by decide) (by decide)
theorem ef_rm_tos (m : MethodId) (x0 : Addr) : entryFrame m #[(.ref x0)] 1 = mkF m 0 #[.val (.ref x0)] [] := by first | (simp [entryFrame, mkF, argsToLocals, Value.category]; done) | rfl
set_option maxRecDepth 65536 in
set_option maxHeartbeats 40000000 in
theorem rm_tos (l : Launch) (Z : State) (a0 : Array Value) (hw : ∀ d ∈ tables_1, d.before a0 Z = true) (a1 vb : Addr) (out : List Int32) (G1 : Int32) (h0 : Heap) (n0 : Nat) (Z0 : n0 ≤ h0.size) (hk : out.length < 16) (S_cs : Sta Z h0 "java/lang/String" "COMPACT_STRINGS" "Z" (.int G1)) (P5 : ¬ (G1 = (0 : Int32))) (O : own_SB2 Z h0 a1 vb out) :
  own_Met l Z (⟨"java/lang/StringBuilder", "toString", "()Ljava/lang/String;"⟩ : MethodName) jdk_67_method_42_code 1 (some (.object "java/lang/String")) ({ frames := 5, cells := 2, slots := 20, locals := 101 } : Room) #[(.ref a1)] h0 (fun v h L => ∃ b : Addr, v = some (.ref b) ∧ h0.size ≤ b ∧ Ext h0 h ∧ Fr n0 L ∧ own_SL Z h b out) := by
 refine own_body (plainFor_of_name (by first | (simp [plainName, overriddenIn]; done) | decide +kernel)) ?_
 intro p e s m below meth c s₁ hx hby hml hown hnm hlk hrt hZ X0 e0
 refine own_enter (ef_rm_tos m a1) ?_
 have N0 := Fr.nil n0
 have O0 := O
 refine own_newO X0 hx hby hZ hown (ow_181 hw) (ow_8 hw) (ow_9 hw) e0 o47_0 (pc' := 3) rfl (by decide) (by decide) ?_
 intro T1 h1 b1 g1 X1 e1 E1 AX1 D1
 have n0_b1 : n0 ≤ b1 := Nat.le_trans Z0 (Nat.le_of_eq g1.symm)
 have le0_b1 : h0.size ≤ b1 := Nat.le_trans (Nat.le_refl _) (Nat.le_of_eq g1.symm)
 have sz2 := Nat.le_trans (Nat.le_refl _) E1.1
 have be3 := own_xt own_xr E1
 have F_value_b1 : Fld Z h1 b1 "java/lang/String" "value" "[B" .null := D1 (Or.inr (ow_21 hw)) (ty := (.array .byte)) (by decide)
 have F_coder_b1 : Fld Z h1 b1 "java/lang/String" "coder" "B" (.int (0 : Int32)) := D1 (Or.inr (ow_22 hw)) (ty := .byte) (by decide)
 replace O := O.ext E1
 refine own_dup X1 hx hby o47_3 (pc' := 4) rfl rfl ?_
 refine own_aloadN X1 hx hby o47_4 (pc' := 5) rfl rfl rfl ?_
 refine own_specM X1 hx hby hml hZ hown rfl (ow_182 hw) (ow_183 hw) (ow_9 hw) (ow_184 hw) (by decide) (cc := 1) (ss := 16) (rm_sib l Z a0 hw b1 a1 vb out G1 h1 n0 (Nat.le_trans Z0 sz2) n0_b1 hk (S_cs.ext be3) P5 O AX1 F_value_b1 F_coder_b1) 1 rfl rfl (by decide) (by decide) rfl (argsL := [(.ref a1)]) (rest := [(.ref b1)]) opd_31 rfl rfl (Nat.le_refl _) o47_5 (pc' := 8) rfl rfl e1 (by decide) (by decide) ?_
 rintro v4 T4 h4 L4 X4 e4 ⟨rfl, Nq4, Kq4, S1⟩
 have N4 := N0.app Nq4
 have sz5 := Nat.le_trans sz2 Kq4.1
 replace AX1 := AX1.keep Kq4
 have be6 := own_xk be3 Kq4 (allS le0_b1 all0)
 exact own_retA X4 hx hby hlk hrt rfl rfl o47_8 (by first | exact ⟨b1, rfl, le0_b1, be6, N4, S1⟩ | (rw [e4]; exact ⟨b1, rfl, le0_b1, be6, N4, S1⟩)) (by decide) (by decide)
theorem ef_rm_str (m : MethodId) (x0 : Addr) (x1 : Addr) : entryFrame m #[(.ref x0), (.ref x1)] 2 = mkF m 0 #[.val (.ref x0), .val (.ref x1)] [] := by first | (simp [entryFrame, mkF, argsToLocals, Value.category]; done) | rfl
set_option maxRecDepth 65536 in
set_option maxHeartbeats 40000000 in
theorem rm_str (l : Launch) (Z : State) (a0 : Array Value) (hw : ∀ d ∈ tables_1, d.before a0 Z = true) (a1 a2 : Addr) (n : Nat) (f : Nat → Int32) (G1 : Int32) (h0 : Heap) (n0 : Nat) (Z0 : n0 ≤ h0.size) (n0_a1 : n0 ≤ a1) (ne12 : a1 ≠ a2) (h1 : 1 ≤ n) (hn : n ≤ 8) (hcb : own_Cb f n) (S_as : Sta Z h0 "java/lang/StringUTF16" "$assertionsDisabled" "Z" (.int (1 : Int32))) (S_hi : Sta Z h0 "java/lang/StringUTF16" "HI_BYTE_SHIFT" "I" (.int (0 : Int32))) (S_lo : Sta Z h0 "java/lang/StringUTF16" "LO_BYTE_SHIFT" "I" (.int (8 : Int32))) (S_cs : Sta Z h0 "java/lang/String" "COMPACT_STRINGS" "Z" (.int G1)) (P5 : ¬ (G1 = (0 : Int32))) (A1 : Exa Z h0 a1 "java/lang/String") (F_v : Fld Z h0 a1 "java/lang/String" "value" "[B" .null) (F_c : Fld Z h0 a1 "java/lang/String" "coder" "B" (.int (0 : Int32))) (V2 : own_Fa Z h0 a2 .char "[C" (fun _ => True) n (fun y_ => .int (f y_))) :
  own_Met l Z (⟨"java/lang/String", "<init>", "([C)V"⟩ : MethodName) jdk_42_method_3_code 2 none ({ frames := 5, cells := 2, slots := 24, locals := 74 } : Room) #[(.ref a1), (.ref a2)] h0 (fun v h L => v = none ∧ Fr n0 L ∧ Keep h0 h [a1] ∧ own_SV Z h a1 f n) := by
 refine own_body (plainFor_of_name (by first | (simp [plainName, overriddenIn]; done) | decide +kernel)) ?_
 intro p e s m below meth c s₁ hx hby hml hown hnm hlk hrt hZ X0 e0
 refine own_enter (ef_rm_str m a1 a2) ?_
 have N0 := Fr.nil n0
 have kx0 := Keep.refl h0 [a1]
 refine own_aloadN X0 hx hby o48_0 (pc' := 1) rfl rfl rfl ?_
 refine own_aloadN X0 hx hby o48_1 (pc' := 2) rfl rfl rfl ?_
 refine own_iconst X0 hx hby o48_2 (pc' := 3) rfl (z := 0) rfl ?_
 refine own_aloadN X0 hx hby o48_3 (pc' := 4) rfl rfl rfl ?_
 refine own_fL X0 hx hby hZ e0 V2 o48_4 (pc' := 5) rfl ?_
 refine own_aconst_null X0 hx hby o48_5 (pc' := 6) rfl ?_
 refine own_specM X0 hx hby hml hZ hown rfl (ow_13 hw) (ow_14 hw) (ow_9 hw) (ow_16 hw) (by decide) (cc := 2) (ss := 24) (rm_si l Z a0 hw a1 a2 n n f G1 h0 n0 Z0 n0_a1 ne12 h1 hn (Nat.le_refl _) hcb S_as S_hi S_lo S_cs P5 A1 F_v F_c V2) 0 rfl rfl (by decide) (by decide) rfl (argsL := [(.ref a2), (.int (0 : Int32)), (.int (Int32.ofNat n)), .null]) (rest := []) opd_32 rfl rfl (Nat.le_refl _) o48_6 (pc' := 9) rfl rfl e0 (by decide) (by decide) ?_
 rintro v1 T1 h1 L1 X1 e1 ⟨rfl, Nq1, Kq1, S1⟩
 have N1 := N0.app Nq1
 have sz2 := Nat.le_trans (Nat.le_refl _) Kq1.1
 replace V2 := V2.keep Kq1 (own_niS ne12.symm own_ni0)
 have kx3 := kx0.trans Kq1 (allS (Or.inl (List.mem_of_getElem? (i := 0) rfl)) all0)
 exact own_ret0 X1 hx hby hlk hrt o48_9 (by first | exact ⟨rfl, N1, kx3, S1⟩ | (rw [e1]; exact ⟨rfl, N1, kx3, S1⟩)) (by decide) (by decide)
theorem ef_rm_rec (m : MethodId) (x0 : Addr) : entryFrame m #[(.ref x0)] 1 = mkF m 0 #[.val (.ref x0)] [] := by first | (simp [entryFrame, mkF, argsToLocals, Value.category]; done) | rfl
set_option maxRecDepth 65536 in
set_option maxHeartbeats 40000000 in
theorem rm_rec (l : Launch) (Z : State) (a0 : Array Value) (hw : ∀ d ∈ tables_1, d.before a0 Z = true) (a1 : Addr) (h0 : Heap) (n0 : Nat) (Z0 : n0 ≤ h0.size) :
  own_Met l Z (⟨"java/lang/Record", "<init>", "()V"⟩ : MethodName) jdk_30_method_1_code 1 none ({ frames := 1, cells := 0, slots := 0, locals := 12 } : Room) #[(.ref a1)] h0 (fun v h L => v = none ∧ Fr n0 L ∧ h0 = h) := by
 refine own_body (plainFor_of_name (by first | (simp [plainName, overriddenIn]; done) | decide +kernel)) ?_
 intro p e s m below meth c s₁ hx hby hml hown hnm hlk hrt hZ X0 e0
 refine own_enter (ef_rm_rec m a1) ?_
 have N0 := Fr.nil n0
 refine own_aloadN X0 hx hby o49_0 (pc' := 1) rfl rfl rfl ?_
 refine own_initO X0 hx hby hZ hml hown (ow_40 hw) (ow_18 hw) (ow_19 hw) e0 rfl o49_1 (pc' := 4) rfl (by decide) (W := 0) (Nat.le_refl _) (by decide) ?_
 intro T1 X1 e1
 exact own_ret0 X1 hx hby hlk hrt o49_4 (by first | exact ⟨rfl, N0, rfl⟩ | (rw [e1]; exact ⟨rfl, N0, rfl⟩)) (by decide) (by decide)
theorem ef_rm_ti (m : MethodId) (x0 : Addr) (x1 : Addr) (x2 : Addr) (x3 : Int32) (x4 : Int32) (x5 : Addr) : entryFrame m #[(.ref x0), (.ref x1), (.ref x2), (.int x3), (.int x4), (.ref x5)] 6 = mkF m 0 #[.val (.ref x0), .val (.ref x1), .val (.ref x2), .val (.int x3), .val (.int x4), .val (.ref x5)] [] := by first | (simp [entryFrame, mkF, argsToLocals, Value.category]; done) | rfl
set_option maxRecDepth 65536 in
set_option maxHeartbeats 40000000 in
theorem rm_ti (l : Launch) (Z : State) (a0 : Array Value) (hw : ∀ d ∈ tables_1, d.before a0 Z = true) (a1 a2 a3 hd : Addr) (x3 x4 : Int32) (h0 : Heap) (n0 : Nat) (Z0 : n0 ≤ h0.size) (n0_a1 : n0 ≤ a1) (A1 : Exa Z h0 a1 "com/example/reservation/reservation/server/CallbackConnection$Target") (F_endpoint : Fld Z h0 a1 "com/example/reservation/reservation/server/CallbackConnection$Target" "endpoint" "Ljava/lang/String;" .null) (F_host : Fld Z h0 a1 "com/example/reservation/reservation/server/CallbackConnection$Target" "host" "Ljava/lang/String;" .null) (F_port : Fld Z h0 a1 "com/example/reservation/reservation/server/CallbackConnection$Target" "port" "I" (.int (0 : Int32))) (F_secure : Fld Z h0 a1 "com/example/reservation/reservation/server/CallbackConnection$Target" "secure" "Z" (.int (0 : Int32))) (F_head : Fld Z h0 a1 "com/example/reservation/reservation/server/CallbackConnection$Target" "head" "[B" .null) :
  own_Met l Z (⟨"com/example/reservation/reservation/server/CallbackConnection$Target", "<init>", "(Ljava/lang/String;Ljava/lang/String;IZ[B)V"⟩ : MethodName) prog_65_method_1_code 6 none ({ frames := 2, cells := 0, slots := 0, locals := 24 } : Room) #[(.ref a1), (.ref a2), (.ref a3), (.int x3), (.int x4), (.ref hd)] h0 (fun v h L => v = none ∧ Fr n0 L ∧ Keep h0 h [a1] ∧ Exa Z h a1 "com/example/reservation/reservation/server/CallbackConnection$Target" ∧ Fld Z h a1 "com/example/reservation/reservation/server/CallbackConnection$Target" "head" "[B" (.ref hd)) := by
 refine own_body (plainFor_of_name (by first | (simp [plainName, overriddenIn]; done) | decide +kernel)) ?_
 intro p e s m below meth c s₁ hx hby hml hown hnm hlk hrt hZ X0 e0
 refine own_enter (ef_rm_ti m a1 a2 a3 x3 x4 hd) ?_
 have N0 := Fr.nil n0
 have kx0 := Keep.refl h0 [a1]
 refine own_aloadN X0 hx hby o50_0 (pc' := 1) rfl rfl rfl ?_
 refine own_specM X0 hx hby hml hZ hown rfl (ow_35 hw) (ow_36 hw) (ow_38 hw) (ow_39 hw) (by decide) (cc := 0) (ss := 0) (rm_rec l Z a0 hw a1 h0 n0 Z0 ) 0 rfl rfl (by decide) (by decide) rfl (argsL := []) (rest := []) opd_33 rfl rfl (Nat.le_refl _) o50_1 (pc' := 4) rfl rfl e0 (by decide) (by decide) ?_
 rintro v1 T1 h1 L1 X1 e1 ⟨rfl, Nq1, rfl⟩
 have N1 := N0.app Nq1
 refine own_aloadN X1 hx hby o50_4 (pc' := 5) rfl rfl rfl ?_
 refine own_aloadN X1 hx hby o50_5 (pc' := 6) rfl rfl rfl ?_
 refine own_putF X1 hx hby hZ hown (host := "") (Or.inl (ow_41 hw)) Via.refl e1 F_endpoint A1 (Or.inr ⟨(ow_42 hw), rfl, hnm⟩) (ow_28 hw) (ty := (.object "java/lang/String")) (by decide) rfl rfl o50_6 (pc' := 9) rfl ?_
 intro T2 h2 X2 e2 W2 F2_endpoint_a1 A2_a1
 replace F_host := F_host.other W2 (Or.inr (slot_ne (Or.inr (ow_44 hw)) (Or.inr (ow_42 hw)) (by decide) (t := (.object "java/lang/String")) (t' := (.object "java/lang/String")) (by decide) (by decide)))
 replace F_port := F_port.other W2 (Or.inr (slot_ne (Or.inr (ow_46 hw)) (Or.inr (ow_42 hw)) (by decide) (t := .int) (t' := (.object "java/lang/String")) (by decide) (by decide)))
 replace F_secure := F_secure.other W2 (Or.inr (slot_ne (Or.inr (ow_48 hw)) (Or.inr (ow_42 hw)) (by decide) (t := .boolean) (t' := (.object "java/lang/String")) (by decide) (by decide)))
 replace F_head := F_head.other W2 (Or.inr (slot_ne (Or.inr (ow_50 hw)) (Or.inr (ow_42 hw)) (by decide) (t := (.array .byte)) (t' := (.object "java/lang/String")) (by decide) (by decide)))
 have sz3 := Nat.le_trans (Nat.le_refl _) (Keep.of_wr W2).1
 have kx4 := kx0.wr W2 (Or.inl (List.mem_of_getElem? (i := 0) rfl))
 have N2 := own_fr1 (sl := Jvm.RoadKit.slotOf Z "com/example/reservation/reservation/server/CallbackConnection$Target" "endpoint" "Ljava/lang/String;") N1 n0_a1
 refine own_aloadN X2 hx hby o50_9 (pc' := 10) rfl rfl rfl ?_
 refine own_aloadN X2 hx hby o50_10 (pc' := 11) rfl rfl rfl ?_
 refine own_putF X2 hx hby hZ hown (host := "") (Or.inl (ow_43 hw)) Via.refl e2 F_host A2_a1 (Or.inr ⟨(ow_44 hw), rfl, hnm⟩) (ow_28 hw) (ty := (.object "java/lang/String")) (by decide) rfl rfl o50_11 (pc' := 14) rfl ?_
 intro T5 h5 X5 e5 W5 F5_host_a1 A5_a1
 replace F2_endpoint_a1 := F2_endpoint_a1.other W5 (Or.inr (slot_ne (Or.inr (ow_42 hw)) (Or.inr (ow_44 hw)) (by decide) (t := (.object "java/lang/String")) (t' := (.object "java/lang/String")) (by decide) (by decide)))
 replace F_port := F_port.other W5 (Or.inr (slot_ne (Or.inr (ow_46 hw)) (Or.inr (ow_44 hw)) (by decide) (t := .int) (t' := (.object "java/lang/String")) (by decide) (by decide)))
 replace F_secure := F_secure.other W5 (Or.inr (slot_ne (Or.inr (ow_48 hw)) (Or.inr (ow_44 hw)) (by decide) (t := .boolean) (t' := (.object "java/lang/String")) (by decide) (by decide)))
 replace F_head := F_head.other W5 (Or.inr (slot_ne (Or.inr (ow_50 hw)) (Or.inr (ow_44 hw)) (by decide) (t := (.array .byte)) (t' := (.object "java/lang/String")) (by decide) (by decide)))
 have sz6 := Nat.le_trans sz3 (Keep.of_wr W5).1
 have kx7 := kx4.wr W5 (Or.inl (List.mem_of_getElem? (i := 0) rfl))
 have N5 := own_fr1 (sl := Jvm.RoadKit.slotOf Z "com/example/reservation/reservation/server/CallbackConnection$Target" "host" "Ljava/lang/String;") N2 n0_a1
 refine own_aloadN X5 hx hby o50_14 (pc' := 15) rfl rfl rfl ?_
 refine own_iloadN X5 hx hby o50_15 (pc' := 16) rfl rfl ?_
 refine own_putF X5 hx hby hZ hown (host := "") (Or.inl (ow_45 hw)) Via.refl e5 F_port A5_a1 (Or.inr ⟨(ow_46 hw), rfl, hnm⟩) (ow_28 hw) (ty := .int) (by decide) rfl rfl o50_16 (pc' := 19) rfl ?_
 intro T8 h8 X8 e8 W8 F8_port_a1 A8_a1
 replace F2_endpoint_a1 := F2_endpoint_a1.other W8 (Or.inr (slot_ne (Or.inr (ow_42 hw)) (Or.inr (ow_46 hw)) (by decide) (t := (.object "java/lang/String")) (t' := .int) (by decide) (by decide)))
 replace F5_host_a1 := F5_host_a1.other W8 (Or.inr (slot_ne (Or.inr (ow_44 hw)) (Or.inr (ow_46 hw)) (by decide) (t := (.object "java/lang/String")) (t' := .int) (by decide) (by decide)))
 replace F_secure := F_secure.other W8 (Or.inr (slot_ne (Or.inr (ow_48 hw)) (Or.inr (ow_46 hw)) (by decide) (t := .boolean) (t' := .int) (by decide) (by decide)))
 replace F_head := F_head.other W8 (Or.inr (slot_ne (Or.inr (ow_50 hw)) (Or.inr (ow_46 hw)) (by decide) (t := (.array .byte)) (t' := .int) (by decide) (by decide)))
 have sz9 := Nat.le_trans sz6 (Keep.of_wr W8).1
 have kx10 := kx7.wr W8 (Or.inl (List.mem_of_getElem? (i := 0) rfl))
 have N8 := own_fr1 (sl := Jvm.RoadKit.slotOf Z "com/example/reservation/reservation/server/CallbackConnection$Target" "port" "I") N5 n0_a1
 refine own_aloadN X8 hx hby o50_19 (pc' := 20) rfl rfl rfl ?_
 refine own_iload X8 hx hby o50_20 (pc' := 22) rfl rfl ?_
 refine own_putFN X8 hx hby hZ hown (ow_47 hw) Via.refl e8 F_secure A8_a1 (Or.inr ⟨(ow_48 hw), rfl, hnm⟩) (ow_28 hw) (ty := .boolean) (v' := (.int (nar .boolean x4))) (by decide) rfl (fits_nar_bool _) o50_22 (pc' := 25) rfl ?_
 intro T11 h11 X11 e11 W11 F11_secure_a1 A11_a1
 replace F2_endpoint_a1 := F2_endpoint_a1.other W11 (Or.inr (slot_ne (Or.inr (ow_42 hw)) (Or.inr (ow_48 hw)) (by decide) (t := (.object "java/lang/String")) (t' := .boolean) (by decide) (by decide)))
 replace F5_host_a1 := F5_host_a1.other W11 (Or.inr (slot_ne (Or.inr (ow_44 hw)) (Or.inr (ow_48 hw)) (by decide) (t := (.object "java/lang/String")) (t' := .boolean) (by decide) (by decide)))
 replace F8_port_a1 := F8_port_a1.other W11 (Or.inr (slot_ne (Or.inr (ow_46 hw)) (Or.inr (ow_48 hw)) (by decide) (t := .int) (t' := .boolean) (by decide) (by decide)))
 replace F_head := F_head.other W11 (Or.inr (slot_ne (Or.inr (ow_50 hw)) (Or.inr (ow_48 hw)) (by decide) (t := (.array .byte)) (t' := .boolean) (by decide) (by decide)))
 have sz12 := Nat.le_trans sz9 (Keep.of_wr W11).1
 have kx13 := kx10.wr W11 (Or.inl (List.mem_of_getElem? (i := 0) rfl))
 have N11 := own_fr1 (sl := Jvm.RoadKit.slotOf Z "com/example/reservation/reservation/server/CallbackConnection$Target" "secure" "Z") N8 n0_a1
 refine own_aloadN X11 hx hby o50_25 (pc' := 26) rfl rfl rfl ?_
 refine own_aload X11 hx hby o50_26 (pc' := 28) rfl rfl rfl ?_
 refine own_putF X11 hx hby hZ hown (host := "") (Or.inl (ow_49 hw)) Via.refl e11 F_head A11_a1 (Or.inr ⟨(ow_50 hw), rfl, hnm⟩) (ow_28 hw) (ty := (.array .byte)) (by decide) rfl rfl o50_28 (pc' := 31) rfl ?_
 intro T14 h14 X14 e14 W14 F14_head_a1 A14_a1
 replace F2_endpoint_a1 := F2_endpoint_a1.other W14 (Or.inr (slot_ne (Or.inr (ow_42 hw)) (Or.inr (ow_50 hw)) (by decide) (t := (.object "java/lang/String")) (t' := (.array .byte)) (by decide) (by decide)))
 replace F5_host_a1 := F5_host_a1.other W14 (Or.inr (slot_ne (Or.inr (ow_44 hw)) (Or.inr (ow_50 hw)) (by decide) (t := (.object "java/lang/String")) (t' := (.array .byte)) (by decide) (by decide)))
 replace F8_port_a1 := F8_port_a1.other W14 (Or.inr (slot_ne (Or.inr (ow_46 hw)) (Or.inr (ow_50 hw)) (by decide) (t := .int) (t' := (.array .byte)) (by decide) (by decide)))
 replace F11_secure_a1 := F11_secure_a1.other W14 (Or.inr (slot_ne (Or.inr (ow_48 hw)) (Or.inr (ow_50 hw)) (by decide) (t := .boolean) (t' := (.array .byte)) (by decide) (by decide)))
 have sz15 := Nat.le_trans sz12 (Keep.of_wr W14).1
 have kx16 := kx13.wr W14 (Or.inl (List.mem_of_getElem? (i := 0) rfl))
 have N14 := own_fr1 (sl := Jvm.RoadKit.slotOf Z "com/example/reservation/reservation/server/CallbackConnection$Target" "head" "[B") N11 n0_a1
 exact own_ret0 X14 hx hby hlk hrt o50_31 (by first | exact ⟨rfl, N14, kx16, A14_a1, F14_head_a1⟩ | (rw [e14]; exact ⟨rfl, N14, kx16, A14_a1, F14_head_a1⟩)) (by decide) (by decide)
theorem ef_rm_shape (m : MethodId) (x0 : Int32) (x1 : Int32) : entryFrame m #[(.int x0), (.int x1)] 3 = mkF m 0 #[.val (.int x0), .val (.int x1), .unset] [] := by first | (simp [entryFrame, mkF, argsToLocals, Value.category]; done) | rfl
set_option maxRecDepth 65536 in
set_option maxHeartbeats 40000000 in
theorem rm_shape (l : Launch) (Z : State) (a0 : Array Value) (hw : ∀ d ∈ tables_1, d.before a0 Z = true) (x1 x2 : Int32) (h0 : Heap) (n0 : Nat) (Z0 : n0 ≤ h0.size) (hb_ : (0 ≤ (x1).toInt ∧ (x1).toInt < 65536)) :
  own_Met l Z (⟨"com/example/reservation/reservation/server/TargetRequestPinLaw", "shape", "(CI)C"⟩ : MethodName) method_3_code 3 (some .char) ({ frames := 0, cells := 0, slots := 0, locals := 0 } : Room) #[(.int x1), (.int x2)] h0 (fun v h L => ∃ r : Int32, v = some (.int r) ∧ (0 ≤ (r).toInt ∧ (r).toInt < 65536) ∧ Fr n0 L ∧ h0 = h) := by
 refine own_body (plainFor_of_name (by first | (simp [plainName, overriddenIn]; done) | decide +kernel)) ?_
 intro p e s m below meth c s₁ hx hby hml hown hnm hlk hrt hZ X0 e0
 refine own_enter (ef_rm_shape m x1 x2) ?_
 have N0 := Fr.nil n0
 refine own_iloadN X0 hx hby o51_0 (pc' := 1) rfl rfl ?_
 refine own_iconst X0 hx hby o51_1 (pc' := 2) rfl (z := 3) rfl ?_
 refine own_iand X0 hx hby o51_2 (pc' := 3) rfl ?_
 refine own_istoreN X0 hx hby o51_3 (pc' := 4) rfl (Ls' := #[.val (.int x1), .val (.int x2), .val (.int (x2 &&& (3 : Int32)))]) rfl ?_
 refine own_iloadN X0 hx hby o51_4 (pc' := 5) rfl rfl ?_
 by_cases h0_ : (x2 &&& (3 : Int32)) = (0 : Int32)
 ·refine own_ifN X0 hx hby o51_5 (pc' := 8) rfl (teq h0_).2 ?_
  refine own_iloadN X0 hx hby o51_8 (pc' := 9) rfl rfl ?_
  exact own_retN X0 hx hby hlk hrt (by simp) o51_9 (z' := x1) (own_narC hb_) (by first | exact ⟨_, rfl, hb_, N0, rfl⟩ | (rw [e0]; exact ⟨_, rfl, hb_, N0, rfl⟩)) (by decide) (by decide)
 ·refine own_ifY X0 hx hby o51_5 (by decide) (pc' := 10) (by decide) (feq h0_).2 ?_
  refine own_iloadN X0 hx hby o51_10 (pc' := 11) rfl rfl ?_
  refine own_iconst X0 hx hby o51_11 (pc' := 12) rfl (z := 1) rfl ?_
  by_cases h1_ : (x2 &&& (3 : Int32)) = (1 : Int32)
  ·refine own_icmpN X0 hx hby o51_12 (pc' := 15) rfl (teq h1_).2 ?_
   refine own_iloadN X0 hx hby o51_15 (pc' := 16) rfl rfl ?_
   refine own_bipush X0 hx hby o51_16 (pc' := 18) rfl (z := 127) rfl ?_
   refine own_iand X0 hx hby o51_18 (pc' := 19) rfl ?_
   refine own_i2c X0 hx hby o51_19 (pc' := 20) rfl ?_
   exact own_retN X0 hx hby hlk hrt (by simp) o51_20 (z' := ((x1 &&& (127 : Int32)).toUInt32.toUInt16.toUInt32.toInt32)) (own_narc _) (by first | exact ⟨_, rfl, own_i2cb _, N0, rfl⟩ | (rw [e0]; exact ⟨_, rfl, own_i2cb _, N0, rfl⟩)) (by decide) (by decide)
  ·refine own_icmpY X0 hx hby o51_12 (by decide) (pc' := 21) (by decide) (feq h1_).2 ?_
   refine own_iloadN X0 hx hby o51_21 (pc' := 22) rfl rfl ?_
   refine own_iconst X0 hx hby o51_22 (pc' := 23) rfl (z := 2) rfl ?_
   by_cases h2_ : (x2 &&& (3 : Int32)) = (2 : Int32)
   ·refine own_icmpN X0 hx hby o51_23 (pc' := 26) rfl (teq h2_).2 ?_
    refine own_iloadN X0 hx hby o51_26 (pc' := 27) rfl rfl ?_
    refine own_sipush X0 hx hby o51_27 (pc' := 30) rfl (z := 2047) rfl ?_
    refine own_iand X0 hx hby o51_30 (pc' := 31) rfl ?_
    refine own_i2c X0 hx hby o51_31 (pc' := 32) rfl ?_
    exact own_retN X0 hx hby hlk hrt (by simp) o51_32 (z' := ((x1 &&& (2047 : Int32)).toUInt32.toUInt16.toUInt32.toInt32)) (own_narc _) (by first | exact ⟨_, rfl, own_i2cb _, N0, rfl⟩ | (rw [e0]; exact ⟨_, rfl, own_i2cb _, N0, rfl⟩)) (by decide) (by decide)
   ·refine own_icmpY X0 hx hby o51_23 (by decide) (pc' := 33) (by decide) (feq h2_).2 ?_
    refine own_ldcI X0 hx hby hZ hown (ow_233 hw) o51_33 (pc' := 35) rfl ?_
    refine own_iloadN X0 hx hby o51_35 (pc' := 36) rfl rfl ?_
    refine own_sipush X0 hx hby o51_36 (pc' := 39) rfl (z := 2047) rfl ?_
    refine own_iand X0 hx hby o51_39 (pc' := 40) rfl ?_
    refine own_ior X0 hx hby o51_40 (pc' := 41) rfl ?_
    refine own_i2c X0 hx hby o51_41 (pc' := 42) rfl ?_
    exact own_retN X0 hx hby hlk hrt (by simp) o51_42 (z' := (((55296 : Int32) ||| (x1 &&& (2047 : Int32))).toUInt32.toUInt16.toUInt32.toInt32)) (own_narc _) (by first | exact ⟨_, rfl, own_i2cb _, N0, rfl⟩ | (rw [e0]; exact ⟨_, rfl, own_i2cb _, N0, rfl⟩)) (by decide) (by decide)
theorem ef_rm_ex (m : MethodId) (x0 : Addr) (x1 : Int32) (x2 : Addr) (x3 : Int32) (x4 : Addr) (x5 : Int32) (x6 : Int32) : entryFrame m #[(.ref x0), (.int x1), (.ref x2), (.int x3), (.ref x4), (.int x5), (.int x6)] 8 = mkF m 0 #[.val (.ref x0), .val (.int x1), .val (.ref x2), .val (.int x3), .val (.ref x4), .val (.int x5), .val (.int x6), .unset] [] := by first | (simp [entryFrame, mkF, argsToLocals, Value.category]; done) | rfl
set_option maxRecDepth 65536 in
set_option maxHeartbeats 40000000 in
theorem rm_ex (l : Launch) (Z : State) (a0 : Array Value) (hw : ∀ d ∈ tables_1, d.before a0 Z = true) (a1 a2 a3 : Addr) (N1 N2 N3 k : Nat) (H M C : List Int32) (h0 : Heap) (n0 : Nat) (Z0 : n0 ≤ h0.size) (hk : k < 32) (V1 : own_Pre Z h0 a1 N1 H) (V2 : own_Pre Z h0 a2 N2 M) (V3 : own_Pre Z h0 a3 N3 C) :
  own_Met l Z (⟨"com/example/reservation/reservation/server/TargetRequestPinLaw", "ex", "([BI[BI[BII)I"⟩ : MethodName) method_6_code 8 (some .int) ({ frames := 0, cells := 0, slots := 0, locals := 0 } : Room) #[(.ref a1), (.int (Int32.ofNat H.length)), (.ref a2), (.int (Int32.ofNat M.length)), (.ref a3), (.int (Int32.ofNat C.length)), (.int (Int32.ofNat k))] h0 (fun v h L => v = some (.int (own_exv ((H ++ M) ++ C) k)) ∧ Fr n0 L ∧ h0 = h) := by
 refine own_body (plainFor_of_name (by first | (simp [plainName, overriddenIn]; done) | decide +kernel)) ?_
 intro p e s m below meth c s₁ hx hby hml hown hnm hlk hrt hZ X0 e0
 refine own_enter (ef_rm_ex m a1 (Int32.ofNat H.length) a2 (Int32.ofNat M.length) a3 (Int32.ofNat C.length) (Int32.ofNat k)) ?_
 have N0 := Fr.nil n0
 have hb1 := V1.big
 have hl1 := V1.len
 have hb2 := V2.big
 have hl2 := V2.len
 have hb3 := V3.big
 have hl3 := V3.len
 refine own_iload X0 hx hby o52_0 (pc' := 2) rfl rfl ?_
 refine own_iloadN X0 hx hby o52_2 (pc' := 3) rfl rfl ?_
 by_cases hq1 : (Int32.ofNat k) < (Int32.ofNat H.length)
 ·refine own_icmpN X0 hx hby o52_3 (pc' := 6) rfl (tlt hq1).2.1 ?_
  refine own_aloadN X0 hx hby o52_6 (pc' := 7) rfl rfl rfl ?_
  refine own_iload X0 hx hby o52_7 (pc' := 9) rfl rfl ?_
  have q1 := (own_ilt (by omega) (by omega)).mp hq1
  refine own_rP X0 hx hby hZ e0 V1 q1 (v := (own_exv ((H ++ M) ++ C) k)) (own_exH q1).symm o52_9 (pc' := 10) rfl ?_
  exact own_retI X0 hx hby hlk hrt o52_10 (by first | exact ⟨rfl, N0, rfl⟩ | (rw [e0]; exact ⟨rfl, N0, rfl⟩)) (by decide) (by decide)
 ·refine own_icmpY X0 hx hby o52_3 (by decide) (pc' := 11) (by decide) (flt hq1).2.1 ?_
  have q1 : ¬ k < H.length := fun q => hq1 ((own_ilt (by omega) (by omega)).mpr q)
  refine own_iload X0 hx hby o52_11 (pc' := 13) rfl rfl ?_
  refine own_iloadN X0 hx hby o52_13 (pc' := 14) rfl rfl ?_
  refine own_isub X0 hx hby o52_14 (pc' := 15) rfl ?_
  rw [show (Int32.ofNat k - Int32.ofNat H.length) = Int32.ofNat (k - H.length) from own_subN (by omega)]
  refine own_istore X0 hx hby o52_15 (pc' := 17) rfl (Ls' := #[.val (.ref a1), .val (.int (Int32.ofNat H.length)), .val (.ref a2), .val (.int (Int32.ofNat M.length)), .val (.ref a3), .val (.int (Int32.ofNat C.length)), .val (.int (Int32.ofNat k)), .val (.int (Int32.ofNat (k - H.length)))]) rfl ?_
  refine own_iload X0 hx hby o52_17 (pc' := 19) rfl rfl ?_
  refine own_iloadN X0 hx hby o52_19 (pc' := 20) rfl rfl ?_
  by_cases hq2 : (Int32.ofNat (k - H.length)) < (Int32.ofNat M.length)
  ·refine own_icmpN X0 hx hby o52_20 (pc' := 23) rfl (tlt hq2).2.1 ?_
   refine own_aloadN X0 hx hby o52_23 (pc' := 24) rfl rfl rfl ?_
   refine own_iload X0 hx hby o52_24 (pc' := 26) rfl rfl ?_
   have q2 := (own_ilt (by omega) (by omega)).mp hq2
   refine own_rP X0 hx hby hZ e0 V2 q2 (v := (own_exv ((H ++ M) ++ C) k)) (own_exM q1 q2).symm o52_26 (pc' := 27) rfl ?_
   exact own_retI X0 hx hby hlk hrt o52_27 (by first | exact ⟨rfl, N0, rfl⟩ | (rw [e0]; exact ⟨rfl, N0, rfl⟩)) (by decide) (by decide)
  ·refine own_icmpY X0 hx hby o52_20 (by decide) (pc' := 28) (by decide) (flt hq2).2.1 ?_
   have q2 : ¬ (k - H.length) < M.length := fun q => hq2 ((own_ilt (by omega) (by omega)).mpr q)
   refine own_iload X0 hx hby o52_28 (pc' := 30) rfl rfl ?_
   refine own_iloadN X0 hx hby o52_30 (pc' := 31) rfl rfl ?_
   refine own_isub X0 hx hby o52_31 (pc' := 32) rfl ?_
   rw [show (Int32.ofNat (k - H.length) - Int32.ofNat M.length) = Int32.ofNat (k - H.length - M.length) from own_subN (by omega)]
   refine own_istore X0 hx hby o52_32 (pc' := 34) rfl (Ls' := #[.val (.ref a1), .val (.int (Int32.ofNat H.length)), .val (.ref a2), .val (.int (Int32.ofNat M.length)), .val (.ref a3), .val (.int (Int32.ofNat C.length)), .val (.int (Int32.ofNat k)), .val (.int (Int32.ofNat (k - H.length - M.length)))]) rfl ?_
   refine own_iload X0 hx hby o52_34 (pc' := 36) rfl rfl ?_
   refine own_iload X0 hx hby o52_36 (pc' := 38) rfl rfl ?_
   by_cases hq3 : (Int32.ofNat (k - H.length - M.length)) < (Int32.ofNat C.length)
   ·refine own_icmpN X0 hx hby o52_38 (pc' := 41) rfl (tlt hq3).2.1 ?_
    refine own_aload X0 hx hby o52_41 (pc' := 43) rfl rfl rfl ?_
    refine own_iload X0 hx hby o52_43 (pc' := 45) rfl rfl ?_
    have q3 := (own_ilt (by omega) (by omega)).mp hq3
    refine own_rP X0 hx hby hZ e0 V3 q3 (v := (own_exv ((H ++ M) ++ C) k)) (own_exC q1 q2 q3).symm o52_45 (pc' := 46) rfl ?_
    exact own_retI X0 hx hby hlk hrt o52_46 (by first | exact ⟨rfl, N0, rfl⟩ | (rw [e0]; exact ⟨rfl, N0, rfl⟩)) (by decide) (by decide)
   ·refine own_icmpY X0 hx hby o52_38 (by decide) (pc' := 47) (by decide) (flt hq3).2.1 ?_
    have q3 : ¬ (k - H.length - M.length) < C.length := fun q => hq3 ((own_ilt (by omega) (by omega)).mpr q)
    refine own_sipush X0 hx hby o52_47 (pc' := 50) rfl (z := (-1000)) rfl ?_
    exact own_retI X0 hx hby hlk hrt o52_50 (by first | exact ⟨by rw [own_exN q1 q2 q3], N0, rfl⟩ | (rw [e0]; exact ⟨by rw [own_exN q1 q2 q3], N0, rfl⟩)) (by decide) (by decide)
theorem ef_rm_same (m : MethodId) (x0 : Addr) (x1 : Int32) (x2 : Addr) (x3 : Int32) (x4 : Addr) (x5 : Int32) (x6 : Addr) (x7 : Int32) : entryFrame m #[(.ref x0), (.int x1), (.ref x2), (.int x3), (.ref x4), (.int x5), (.ref x6), (.int x7)] 9 = mkF m 0 #[.val (.ref x0), .val (.int x1), .val (.ref x2), .val (.int x3), .val (.ref x4), .val (.int x5), .val (.ref x6), .val (.int x7), .unset] [] := by first | (simp [entryFrame, mkF, argsToLocals, Value.category]; done) | rfl
set_option maxRecDepth 65536 in
set_option maxHeartbeats 40000000 in
theorem rm_same (l : Launch) (Z : State) (a0 : Array Value) (hw : ∀ d ∈ tables_1, d.before a0 Z = true) (r0 a1 a2 a3 : Addr) (N1 N2 N3 k : Nat) (H M C : List Int32) (h0 : Heap) (n0 : Nat) (Z0 : n0 ≤ h0.size) (hk : k < 32) (V1 : own_Pre Z h0 a1 N1 H) (V2 : own_Pre Z h0 a2 N2 M) (V3 : own_Pre Z h0 a3 N3 C) (V0 : own_Bl Z h0 r0 ((H ++ M) ++ C)) :
  own_Met l Z (⟨"com/example/reservation/reservation/server/TargetRequestPinLaw", "same", "([BI[BI[BI[BI)Z"⟩ : MethodName) method_7_code 9 (some .boolean) ({ frames := 1, cells := 0, slots := 0, locals := 20 } : Room) #[(.ref r0), (.int (Int32.ofNat k)), (.ref a1), (.int (Int32.ofNat H.length)), (.ref a2), (.int (Int32.ofNat M.length)), (.ref a3), (.int (Int32.ofNat C.length))] h0 (fun v h L => v = some (.int (1 : Int32)) ∧ Fr n0 L ∧ h0 = h) := by
 refine own_body (plainFor_of_name (by first | (simp [plainName, overriddenIn]; done) | decide +kernel)) ?_
 intro p e s m below meth c s₁ hx hby hml hown hnm hlk hrt hZ X0 e0
 refine own_enter (ef_rm_same m r0 (Int32.ofNat k) a1 (Int32.ofNat H.length) a2 (Int32.ofNat M.length) a3 (Int32.ofNat C.length)) ?_
 have N0 := Fr.nil n0
 have hb0 := own_Fa.big V0
 refine own_iloadN X0 hx hby o53_0 (pc' := 1) rfl rfl ?_
 refine own_aloadN X0 hx hby o53_1 (pc' := 2) rfl rfl rfl ?_
 refine own_fL X0 hx hby hZ e0 V0 o53_2 (pc' := 3) rfl ?_
 by_cases hq0 : (Int32.ofNat k) < (Int32.ofNat ((H ++ M) ++ C).length)
 ·refine own_icmpN X0 hx hby o53_3 (pc' := 6) rfl (tlt hq0).2.1 ?_
  have q0 := (own_ilt (by omega) (by omega)).mp hq0
  refine own_aloadN X0 hx hby o53_6 (pc' := 7) rfl rfl rfl ?_
  refine own_iloadN X0 hx hby o53_7 (pc' := 8) rfl rfl ?_
  refine own_fB X0 hx hby hZ e0 V0 q0 (v := (own_exv ((H ++ M) ++ C) k)) (congrArg Value.int (if_pos q0).symm) o53_8 (pc' := 9) rfl ?_
  refine own_goto X0 hx hby o53_9 (by decide) (pc' := 15) (by decide) ?_
  refine own_istore X0 hx hby o53_15 (pc' := 17) rfl (Ls' := #[.val (.ref r0), .val (.int (Int32.ofNat k)), .val (.ref a1), .val (.int (Int32.ofNat H.length)), .val (.ref a2), .val (.int (Int32.ofNat M.length)), .val (.ref a3), .val (.int (Int32.ofNat C.length)), .val (.int (own_exv ((H ++ M) ++ C) k))]) rfl ?_
  refine own_iload X0 hx hby o53_17 (pc' := 19) rfl rfl ?_
  refine own_aloadN X0 hx hby o53_19 (pc' := 20) rfl rfl rfl ?_
  refine own_iloadN X0 hx hby o53_20 (pc' := 21) rfl rfl ?_
  refine own_aload X0 hx hby o53_21 (pc' := 23) rfl rfl rfl ?_
  refine own_iload X0 hx hby o53_23 (pc' := 25) rfl rfl ?_
  refine own_aload X0 hx hby o53_25 (pc' := 27) rfl rfl rfl ?_
  refine own_iload X0 hx hby o53_27 (pc' := 29) rfl rfl ?_
  refine own_iloadN X0 hx hby o53_29 (pc' := 30) rfl rfl ?_
  refine own_callM X0 hx hby hml hZ hown (ow_230 hw) (ow_231 hw) (ow_4 hw) (ow_232 hw) (by decide) (cc := 0) (ss := 0) (rm_ex l Z a0 hw a1 a2 a3 N1 N2 N3 k H M C h0 n0 Z0 hk V1 V2 V3) 1 rfl rfl (by decide) (by decide) rfl (argsL := [(.ref a1), (.int (Int32.ofNat H.length)), (.ref a2), (.int (Int32.ofNat M.length)), (.ref a3), (.int (Int32.ofNat C.length)), (.int (Int32.ofNat k))]) (rest := [(.int (own_exv ((H ++ M) ++ C) k))]) opd_34 rfl rfl (Nat.le_refl _) o53_30 (pc' := 33) rfl rfl e0 (by decide) (by decide) ?_
  rintro v1 T1 h1 L1 X1 e1 ⟨rfl, Nq1, rfl⟩
  have N1 := N0.app Nq1
  refine own_icmpN X1 hx hby o53_33 (pc' := 36) rfl (teq rfl).2 ?_
  refine own_iconst X1 hx hby o53_36 (pc' := 37) rfl (z := 1) rfl ?_
  refine own_goto X1 hx hby o53_37 (by decide) (pc' := 41) (by decide) ?_
  exact own_retN X1 hx hby hlk hrt (by simp) o53_41 (z' := (1 : Int32)) rfl (by first | exact ⟨rfl, N1, rfl⟩ | (rw [e1]; exact ⟨rfl, N1, rfl⟩)) (by decide) (by decide)
 ·refine own_icmpY X0 hx hby o53_3 (by decide) (pc' := 12) (by decide) (flt hq0).2.1 ?_
  have q0 : ¬ k < ((H ++ M) ++ C).length := fun q => hq0 ((own_ilt (by omega) (by omega)).mpr q)
  refine own_sipush X0 hx hby o53_12 (pc' := 15) rfl (z := (-1000)) rfl ?_
  refine own_istore X0 hx hby o53_15 (pc' := 17) rfl (Ls' := #[.val (.ref r0), .val (.int (Int32.ofNat k)), .val (.ref a1), .val (.int (Int32.ofNat H.length)), .val (.ref a2), .val (.int (Int32.ofNat M.length)), .val (.ref a3), .val (.int (Int32.ofNat C.length)), .val (.int (-1000 : Int32))]) rfl ?_
  refine own_iload X0 hx hby o53_17 (pc' := 19) rfl rfl ?_
  refine own_aloadN X0 hx hby o53_19 (pc' := 20) rfl rfl rfl ?_
  refine own_iloadN X0 hx hby o53_20 (pc' := 21) rfl rfl ?_
  refine own_aload X0 hx hby o53_21 (pc' := 23) rfl rfl rfl ?_
  refine own_iload X0 hx hby o53_23 (pc' := 25) rfl rfl ?_
  refine own_aload X0 hx hby o53_25 (pc' := 27) rfl rfl rfl ?_
  refine own_iload X0 hx hby o53_27 (pc' := 29) rfl rfl ?_
  refine own_iloadN X0 hx hby o53_29 (pc' := 30) rfl rfl ?_
  refine own_callM X0 hx hby hml hZ hown (ow_230 hw) (ow_231 hw) (ow_4 hw) (ow_232 hw) (by decide) (cc := 0) (ss := 0) (rm_ex l Z a0 hw a1 a2 a3 N1 N2 N3 k H M C h0 n0 Z0 hk V1 V2 V3) 1 rfl rfl (by decide) (by decide) rfl (argsL := [(.ref a1), (.int (Int32.ofNat H.length)), (.ref a2), (.int (Int32.ofNat M.length)), (.ref a3), (.int (Int32.ofNat C.length)), (.int (Int32.ofNat k))]) (rest := [(.int (-1000 : Int32))]) opd_34 rfl rfl (Nat.le_refl _) o53_30 (pc' := 33) rfl rfl e0 (by decide) (by decide) ?_
  rintro v2 T2 h2 L2 X2 e2 ⟨rfl, Nq2, rfl⟩
  have N2 := N0.app Nq2
  refine own_icmpN X2 hx hby o53_33 (pc' := 36) rfl (teq (if_neg q0).symm).2 ?_
  refine own_iconst X2 hx hby o53_36 (pc' := 37) rfl (z := 1) rfl ?_
  refine own_goto X2 hx hby o53_37 (by decide) (pc' := 41) (by decide) ?_
  exact own_retN X2 hx hby hlk hrt (by simp) o53_41 (z' := (1 : Int32)) rfl (by first | exact ⟨rfl, N2, rfl⟩ | (rw [e2]; exact ⟨rfl, N2, rfl⟩)) (by decide) (by decide)
theorem ef_rm_str0v (m : MethodId) (x0 : Addr) (x1 : Addr) (x2 : Int32) (x3 : Int32) : entryFrame m #[(.ref x0), (.ref x1), (.int x2), (.int x3), .null] 6 = mkF m 0 #[.val (.ref x0), .val (.ref x1), .val (.int x2), .val (.int x3), .val .null, .unset] [] := by first | (simp [entryFrame, mkF, argsToLocals, Value.category]; done) | rfl
set_option maxRecDepth 65536 in
set_option maxHeartbeats 40000000 in
theorem rm_str0v (l : Launch) (Z : State) (a0 : Array Value) (hw : ∀ d ∈ tables_1, d.before a0 Z = true) (a1 a2 : Addr) (f : Nat → Int32) (h0 : Heap) (n0 : Nat) (Z0 : n0 ≤ h0.size) (n0_a1 : n0 ≤ a1) (A1 : Exa Z h0 a1 "java/lang/String") (F1 : Fld Z h0 a1 "java/lang/String" "value" "[B" .null) (F2 : Fld Z h0 a1 "java/lang/String" "coder" "B" (.int (0 : Int32))) :
  own_MetW l Z own_EL (⟨"java/lang/String", "<init>", "([CIILjava/lang/Void;)V"⟩ : MethodName) jdk_42_method_149_code 6 none ({ frames := 1, cells := 4, slots := 8, locals := 12 } : Room) #[(.ref a1), (.ref a2), (.int (0 : Int32)), (.int (0 : Int32)), .null] h0 (fun v h L => v = none ∧ Fr n0 L ∧ Keep h0 h [a1] ∧ own_SV Z h a1 f 0) := by
 refine own_bodyW (plainFor_of_name (by first | (simp [plainName, overriddenIn]; done) | decide +kernel)) ?_
 intro p e s m below meth c s₁ vm0 hx hby hml hown hnm hlk hrt hZ hZ0 SN CH X0 e0
 refine own_enter (ef_rm_str0v m a1 a2 (0 : Int32) (0 : Int32)) ?_
 have N0 := Fr.nil n0
 have kx0 := Keep.refl h0 [a1]
 have SF_a1 : Safe Z own_EL vm0 h0 a1 := own_safe_null hZ.alike A1 F1 (ow_8 hw)
 refine own_aloadN X0 hx hby o14_0 (pc' := 1) rfl rfl rfl ?_
 refine own_initO X0 hx hby hZ hml hown (ow_17 hw) (ow_18 hw) (ow_19 hw) e0 rfl o14_1 (pc' := 4) rfl (by decide) (W := 0) (Nat.le_refl _) (by decide) ?_
 intro T1 X1 e1
 refine own_iloadN X1 hx hby o14_4 (pc' := 5) rfl rfl ?_
 refine own_ifN X1 hx hby o14_5 (pc' := 8) rfl (teq rfl).2 ?_
 refine own_aloadN X1 hx hby o14_8 (pc' := 9) rfl rfl rfl ?_
 refine own_ldcS X1 hx hby hZ hown SN (CHr.refl CH.1) (own_ew hw) (own_ws hw) (ow_20 hw) e1 o14_9 (pc' := 11) rfl (n := 0) (by decide) (by decide) (by decide) (by decide) (by decide) [] ⟨by decide, by decide⟩ (by decide) ?_
 intro T2 vm2 h2 q2 X2 e2 hZ hown SN2 CH2 E2 S_q2
 replace SF_a1 := CHr.safe CH2 A1.lt SF_a1
 have sz3 := Nat.le_trans (Nat.le_refl _) E2.1
 replace A1 := A1.ext E2
 replace F1 := F1.ext E2
 replace F2 := F2.ext E2
 have be4 := own_xt own_xr E2
 have kx5 := kx0.ext E2
 have CHt2 := CHr.trans CH CH2
 replace CHt2 : own_CH Z own_EL s.vm h0 vm2 h2 := CHt2
 obtain ⟨A_q, C_q, bq, B_q, V_q⟩ := S_q2
 refine own_getF X2 hx hby hZ hown (host := "") (Or.inl (ow_25 hw)) Via.refl e2 B_q o14_11 (pc' := 14) rfl ?_
 intro T6 X6 e6
 have neq : bq ≠ a1 := Exa.ne V_q.exa A1 (by decide)
 refine own_putF X6 hx hby hZ hown (host := "") (Or.inl (ow_25 hw)) Via.refl e6 F1 A1 (Or.inr ⟨(ow_21 hw), rfl, hnm⟩) (ow_8 hw) (ty := (.array .byte)) (by decide) rfl rfl o14_14 (pc' := 17) rfl ?_
 intro T7 h7 X7 e7 W7 F7_value_a1 A7_a1
 replace F2 := F2.other W7 (Or.inr (slot_ne (Or.inr (ow_22 hw)) (Or.inr (ow_21 hw)) (by decide) (t := .byte) (t' := (.array .byte)) (by decide) (by decide)))
 have sfw8 := SF_a1
 replace SF_a1 := Safe.wr W7 sfw8 CHt2.1 SF_a1
 replace CHt2 := CHt2.wr W7 sfw8
 replace SN2 := SN2.wr W7
 have sz9 := Nat.le_trans sz3 (Keep.of_wr W7).1
 replace V_q := V_q.other W7 neq
 have kx10 := kx5.wr W7 (Or.inl (List.mem_of_getElem? (i := 0) rfl))
 have N7 := own_fr1 (sl := Jvm.RoadKit.slotOf Z "java/lang/String" "value" "[B") N0 n0_a1
 refine own_aloadN X7 hx hby o14_17 (pc' := 18) rfl rfl rfl ?_
 refine own_ldcS X7 hx hby hZ hown SN2 (CHr.refl CHt2.1) (own_ew hw) (own_ws hw) (ow_20 hw) e7 o14_18 (pc' := 20) rfl (n := 0) (by decide) (by decide) (by decide) (by decide) (by decide) [] ⟨by decide, by decide⟩ (by decide) ?_
 intro T11 vm11 h11 q11 X11 e11 hZ hown SN11 CH11 E11 S_q11
 replace SF_a1 := CHr.safe CH11 A7_a1.lt SF_a1
 have sz12 := Nat.le_trans sz9 E11.1
 replace A7_a1 := A7_a1.ext E11
 replace F7_value_a1 := F7_value_a1.ext E11
 replace F2 := F2.ext E11
 replace V_q := V_q.ext E11
 have kx14 := kx10.ext E11
 have CHt11 := CHr.trans CHt2 CH11
 replace CHt11 : own_CH Z own_EL s.vm h0 vm11 h11 := CHt11
 obtain ⟨A_q2, C_q2, bq2, B_q2, V_q2⟩ := S_q11
 refine own_getF X11 hx hby hZ hown (host := "") (Or.inl (ow_26 hw)) Via.refl e11 C_q2 o14_20 (pc' := 23) rfl ?_
 intro T15 X15 e15
 refine own_putFN X15 hx hby hZ hown (ow_26 hw) Via.refl e15 F2 A7_a1 (Or.inr ⟨(ow_22 hw), rfl, hnm⟩) (ow_8 hw) (ty := .byte) (v' := (.int (0 : Int32))) (by decide) rfl rfl o14_23 (pc' := 26) rfl ?_
 intro T16 h16 X16 e16 W16 F16_coder_a1 A16_a1
 replace F7_value_a1 := F7_value_a1.other W16 (Or.inr (slot_ne (Or.inr (ow_21 hw)) (Or.inr (ow_22 hw)) (by decide) (t := (.array .byte)) (t' := .byte) (by decide) (by decide)))
 have sfw17 := SF_a1
 replace SF_a1 := Safe.wr W16 sfw17 CHt11.1 SF_a1
 replace CHt11 := CHt11.wr W16 sfw17
 replace SN11 := SN11.wr W16
 have sz18 := Nat.le_trans sz12 (Keep.of_wr W16).1
 replace V_q := V_q.other W16 neq
 have kx19 := kx14.wr W16 (Or.inl (List.mem_of_getElem? (i := 0) rfl))
 have N16 := own_fr1 (sl := Jvm.RoadKit.slotOf Z "java/lang/String" "coder" "B") N7 n0_a1
 exact own_ret0W X16 hx hby hZ (own_ew hw) e16 SN11 CHt11 hlk hrt o14_26 ⟨rfl, N16, kx19, own_SL0 A16_a1 F7_value_a1 F16_coder_a1 V_q⟩ (by decide) (by decide)
theorem ef_rm_str0 (m : MethodId) (x0 : Addr) (x1 : Addr) : entryFrame m #[(.ref x0), (.ref x1)] 2 = mkF m 0 #[.val (.ref x0), .val (.ref x1)] [] := by first | (simp [entryFrame, mkF, argsToLocals, Value.category]; done) | rfl
set_option maxRecDepth 65536 in
set_option maxHeartbeats 40000000 in
theorem rm_str0 (l : Launch) (Z : State) (a0 : Array Value) (hw : ∀ d ∈ tables_1, d.before a0 Z = true) (a1 a2 : Addr) (f g : Nat → Int32) (h0 : Heap) (n0 : Nat) (Z0 : n0 ≤ h0.size) (n0_a1 : n0 ≤ a1) (A1 : Exa Z h0 a1 "java/lang/String") (F1 : Fld Z h0 a1 "java/lang/String" "value" "[B" .null) (F2 : Fld Z h0 a1 "java/lang/String" "coder" "B" (.int (0 : Int32))) (V2 : own_Fa Z h0 a2 .char "[C" (fun _ => True) 0 (fun y_ => .int (g y_))) :
  own_MetW l Z own_EL (⟨"java/lang/String", "<init>", "([C)V"⟩ : MethodName) jdk_42_method_3_code 2 none ({ frames := 2, cells := 4, slots := 8, locals := 29 } : Room) #[(.ref a1), (.ref a2)] h0 (fun v h L => v = none ∧ Fr n0 L ∧ Keep h0 h [a1] ∧ own_SV Z h a1 f 0) := by
 refine own_bodyW (plainFor_of_name (by first | (simp [plainName, overriddenIn]; done) | decide +kernel)) ?_
 intro p e s m below meth c s₁ vm0 hx hby hml hown hnm hlk hrt hZ hZ0 SN CH X0 e0
 refine own_enter (ef_rm_str0 m a1 a2) ?_
 have N0 := Fr.nil n0
 have kx0 := Keep.refl h0 [a1]
 have SF_a1 : Safe Z own_EL vm0 h0 a1 := own_safe_null hZ.alike A1 F1 (ow_8 hw)
 refine own_aloadN X0 hx hby o48_0 (pc' := 1) rfl rfl rfl ?_
 refine own_aloadN X0 hx hby o48_1 (pc' := 2) rfl rfl rfl ?_
 refine own_iconst X0 hx hby o48_2 (pc' := 3) rfl (z := 0) rfl ?_
 refine own_aloadN X0 hx hby o48_3 (pc' := 4) rfl rfl rfl ?_
 refine own_fL X0 hx hby hZ e0 V2 o48_4 (pc' := 5) rfl ?_
 refine own_aconst_null X0 hx hby o48_5 (pc' := 6) rfl ?_
 refine own_specMW X0 hx hby hml hZ hown SN (CHr.refl CH.1) rfl (ow_13 hw) (ow_14 hw) (ow_9 hw) (ow_16 hw) (by decide) (cc := 4) (ss := 8) (own_ew hw) (rm_str0v l Z a0 hw a1 a2 f h0 n0 Z0 n0_a1 A1 F1 F2) 0 rfl rfl (by decide) (by decide) rfl (argsL := [(.ref a2), (.int (0 : Int32)), (.int (Int32.ofNat 0)), .null]) (rest := []) opd_32 rfl rfl (Nat.le_refl _) o48_6 (pc' := 9) rfl rfl e0 (by decide) (by decide) ?_
 rintro v1 T1 vm1 h1 L1 X1 e1 hZ hown SN1 CH1 gr1 ⟨rfl, Nq1, Kq1, S1⟩
 have N1 := N0.app Nq1
 replace SF_a1 := CHr.safe CH1 A1.lt SF_a1
 have sz2 := Nat.le_trans (Nat.le_refl _) Kq1.1
 replace A1 := A1.keep Kq1
 have kx3 := kx0.trans Kq1 (allS (Or.inl (List.mem_of_getElem? (i := 0) rfl)) all0)
 have CHt1 := CHr.trans CH CH1
 replace CHt1 : own_CH Z own_EL s.vm h0 vm1 h1 := CHt1
 exact own_ret0W X1 hx hby hZ (own_ew hw) e1 SN1 CHt1 hlk hrt o48_9 ⟨rfl, N1, kx3, S1⟩ (by decide) (by decide)
theorem ef_rm_rq (m : MethodId) (x0 : Addr) (x1 : Addr) : entryFrame m #[(.ref x0), (.ref x1)] 5 = mkF m 0 #[.val (.ref x0), .val (.ref x1), .unset, .unset, .unset] [] := by first | (simp [entryFrame, mkF, argsToLocals, Value.category]; done) | rfl
set_option maxRecDepth 65536 in
set_option maxHeartbeats 40000000 in
theorem rm_rq (l : Launch) (Z : State) (a0 : Array Value) (hw : ∀ d ∈ tables_1, d.before a0 Z = true) (tg bd hd u8 ua ui d1 d2 : Addr) (n : Nat) (f : Nat → Int32) (H : List Int32) (G1 : Int32) (h0 : Heap) (n0 : Nat) (Z0 : n0 ≤ h0.size) (hn : n ≤ 4) (hcb : own_Cb f n) (hH2 : H.length ≤ 2) (S_s8 : Sta Z h0 "java/nio/charset/StandardCharsets" "UTF_8" "Ljava/nio/charset/Charset;" (.ref u8)) (S_sa : Sta Z h0 "java/nio/charset/StandardCharsets" "US_ASCII" "Ljava/nio/charset/Charset;" (.ref ua)) (S_u8 : Sta Z h0 "sun/nio/cs/UTF_8" "INSTANCE" "Lsun/nio/cs/UTF_8;" (.ref u8)) (S_ua : Sta Z h0 "sun/nio/cs/US_ASCII" "INSTANCE" "Lsun/nio/cs/US_ASCII;" (.ref ua)) (S_ui : Sta Z h0 "sun/nio/cs/ISO_8859_1" "INSTANCE" "Lsun/nio/cs/ISO_8859_1;" (.ref ui)) (ne8 : ua ≠ u8) (neI : ua ≠ ui) (S_as : Sta Z h0 "java/lang/StringUTF16" "$assertionsDisabled" "Z" (.int (1 : Int32))) (S_hi : Sta Z h0 "java/lang/StringUTF16" "HI_BYTE_SHIFT" "I" (.int (0 : Int32))) (S_lo : Sta Z h0 "java/lang/StringUTF16" "LO_BYTE_SHIFT" "I" (.int (8 : Int32))) (S_cs : Sta Z h0 "java/lang/String" "COMPACT_STRINGS" "Z" (.int G1)) (P5 : ¬ (G1 = (0 : Int32))) (S_d1 : Sta Z h0 "java/lang/Integer" "DigitOnes" "[B" (.ref d1)) (S_d2 : Sta Z h0 "java/lang/Integer" "DigitTens" "[B" (.ref d2)) (V_d1 : own_Fa Z h0 d1 .byte "[B" (fun _ => True) 100 (fun y_ => .int (own_on y_))) (V_d2 : own_Fa Z h0 d2 .byte "[B" (fun _ => True) 100 (fun y_ => .int (own_te y_))) (A_t : Exa Z h0 tg "com/example/reservation/reservation/server/CallbackConnection$Target") (F_h : Fld Z h0 tg "com/example/reservation/reservation/server/CallbackConnection$Target" "head" "[B" (.ref hd)) (V_h : own_Bl Z h0 hd H) (S_b : own_SV Z h0 bd f n) :
  own_MetW l Z own_EL (⟨"com/example/reservation/reservation/server/CallbackConnection$Target", "request", "(Ljava/lang/String;)[B"⟩ : MethodName) prog_65_method_3_code 5 (some (.array .byte)) ({ frames := 6, cells := 10, slots := 136, locals := 121 } : Room) #[(.ref tg), (.ref bd)] h0 (fun v h L => ∃ b : Addr, v = some (.ref b) ∧ h0.size ≤ b ∧ Ext h0 h ∧ Fr n0 L ∧ own_Bl Z h b ((H ++ (own_dg (own_Ec f n 0).length ++ own_crlf)) ++ (own_Ec f n 0))) := by
 refine own_bodyW (plainFor_of_name (by first | (simp [plainName, overriddenIn]; done) | decide +kernel)) ?_
 intro p e s m below meth c s₁ vm0 hx hby hml hown hnm hlk hrt hZ hZ0 SN CH X0 e0
 refine own_enter (ef_rm_rq m tg bd) ?_
 have N0 := Fr.nil n0
 have A_b := S_b.1
 have hEl := own_Ec_len hcb hn
 refine own_aloadN X0 hx hby o54_0 (pc' := 1) rfl rfl rfl ?_
 refine own_getS X0 hx hby hZ hown (host := "") (Or.inl (ow_56 hw)) Via.refl e0 S_s8 o54_1 (pc' := 4) rfl ?_
 intro T1 X1 e1
 refine own_virtM X1 hx hby hml hZ hown (ow_58 hw) (ow_59 hw) (notFace_of_selects (args := #[]) (mvT hZ (ow_61 hw))) (ow_61 hw) (ow_60 hw) (ow_9 hw) (ow_62 hw) (by decide) (cc := 2) (ss := 48) (rm_gb8 l Z a0 hw bd u8 n f G1 h0 n0 Z0 (by omega) hcb S_u8 S_as S_hi S_lo S_cs P5 S_b) 0 rfl rfl (by decide) (by decide) rfl A_b (argsL := [(.ref u8)]) (rest := []) opd_35 rfl rfl (Nat.le_refl _) o54_4 (pc' := 7) rfl rfl e1 (by decide) (by decide) ?_
 rintro v2 T2 h2 L2 X2 e2 ⟨be, rfl, lb2, Eq2, Nq2, V_e⟩
 have ne_tg_be : tg ≠ be := Nat.ne_of_lt (Nat.lt_of_lt_of_le A_t.lt lb2)
 have ne_hd_be : hd ≠ be := Nat.ne_of_lt (Nat.lt_of_lt_of_le V_h.lt lb2)
 have ne_bd_be : bd ≠ be := Nat.ne_of_lt (Nat.lt_of_lt_of_le A_b.lt lb2)
 have n0_be : n0 ≤ be := Nat.le_trans Z0 lb2
 have le0_be : h0.size ≤ be := Nat.le_trans (Nat.le_refl _) lb2
 have SF_be : Safe Z own_EL vm0 h0 be := Safe.new lb2
 have N2 := N0.app Nq2
 replace SF_be := Safe.ext Eq2 CH.1 SF_be
 replace SN := SN.ext Eq2
 replace CH := CH.ext Eq2
 have sz3 := Nat.le_trans (Nat.le_refl _) Eq2.1
 replace A_t := A_t.ext Eq2
 replace F_h := F_h.ext Eq2
 replace V_h := V_h.ext Eq2
 replace A_b := A_b.ext Eq2
 have be4 := own_xt own_xr Eq2
 refine own_astoreN X2 hx hby o54_7 (pc' := 8) rfl rfl (Ls' := #[.val (.ref tg), .val (.ref bd), .val (.ref be), .unset, .unset]) rfl ?_
 refine own_newO X2 hx hby hZ hown (ow_93 hw) (ow_94 hw) (ow_95 hw) e2 o54_8 (pc' := 11) rfl (by decide) (by decide) ?_
 intro T5 h5 b5 g5 X5 e5 E5 AX5 D5
 have ne_tg_b5 : tg ≠ b5 := own_nl A_t.lt g5
 have ne_hd_b5 : hd ≠ b5 := own_nl V_h.lt g5
 have ne_be_b5 : be ≠ b5 := own_nl V_e.lt g5
 have n0_b5 : n0 ≤ b5 := Nat.le_trans (Nat.le_trans Z0 sz3) (Nat.le_of_eq g5.symm)
 have le0_b5 : h0.size ≤ b5 := Nat.le_trans sz3 (Nat.le_of_eq g5.symm)
 have SF_b5 : Safe Z own_EL vm0 h2 b5 := Safe.new (Nat.le_of_eq g5.symm)
 replace SF_be := Safe.ext E5 CH.1 SF_be
 replace SF_b5 := Safe.ext E5 CH.1 SF_b5
 replace SN := SN.ext E5
 replace CH := CH.ext E5
 have sz6 := Nat.le_trans sz3 E5.1
 replace A_t := A_t.ext E5
 replace F_h := F_h.ext E5
 replace V_h := V_h.ext E5
 replace V_e := V_e.ext E5
 have be7 := own_xt be4 E5
 have F_value_b5 : Fld Z h5 b5 "java/lang/AbstractStringBuilder" "value" "[B" .null := D5 (Or.inl (ow_108 hw)) (ty := (.array .byte)) (by decide)
 have F_coder_b5 : Fld Z h5 b5 "java/lang/AbstractStringBuilder" "coder" "B" (.int (0 : Int32)) := D5 (Or.inl (ow_110 hw)) (ty := .byte) (by decide)
 have F_count_b5 : Fld Z h5 b5 "java/lang/AbstractStringBuilder" "count" "I" (.int (0 : Int32)) := D5 (Or.inl (ow_122 hw)) (ty := .int) (by decide)
 refine own_dup X5 hx hby o54_11 (pc' := 12) rfl rfl ?_
 refine own_specM X5 hx hby hml hZ hown rfl (ow_96 hw) (ow_97 hw) (ow_95 hw) (ow_98 hw) (by decide) (cc := 1) (ss := 16) (rm_sbi l Z a0 hw b5 G1 h5 n0 (Nat.le_trans Z0 sz6) (S_cs.ext be7) P5 n0_b5 AX5 F_value_b5 F_coder_b5 F_count_b5) 1 rfl rfl (by decide) (by decide) rfl (argsL := []) (rest := [(.ref b5)]) opd_33 rfl rfl (Nat.le_refl _) o54_12 (pc' := 15) rfl rfl e5 (by decide) (by decide) ?_
 rintro v8 T8 h8 L8 X8 e8 ⟨rfl, Nq8, Kq8, vb, lb8, O2⟩
 have ne_tg_vb : tg ≠ vb := Nat.ne_of_lt (Nat.lt_of_lt_of_le A_t.lt lb8)
 have ne_hd_vb : hd ≠ vb := Nat.ne_of_lt (Nat.lt_of_lt_of_le V_h.lt lb8)
 have ne_be_vb : be ≠ vb := Nat.ne_of_lt (Nat.lt_of_lt_of_le V_e.lt lb8)
 have ne_b5_vb : b5 ≠ vb := Nat.ne_of_lt (Nat.lt_of_lt_of_le AX5.lt lb8)
 have n0_vb : n0 ≤ vb := Nat.le_trans (Nat.le_trans Z0 sz6) lb8
 have le0_vb : h0.size ≤ vb := Nat.le_trans sz6 lb8
 have SF_vb : Safe Z own_EL vm0 h5 vb := Safe.new lb8
 have N8 := N2.app Nq8
 have sfk9 := (sfS SF_b5 sf0)
 replace SF_be := Safe.keep Kq8 sfk9 CH.1 SF_be
 replace SF_b5 := Safe.keep Kq8 sfk9 CH.1 SF_b5
 replace SF_vb := Safe.keep Kq8 sfk9 CH.1 SF_vb
 replace CH := CH.keep Kq8 sfk9
 replace SN := SN.keep Kq8
 have sz10 := Nat.le_trans sz6 Kq8.1
 replace A_t := A_t.keep Kq8
 replace F_h := F_h.keep Kq8 (own_niS ne_tg_b5 own_ni0)
 replace V_h := V_h.keep Kq8 (own_niS ne_hd_b5 own_ni0)
 replace V_e := V_e.keep Kq8 (own_niS ne_be_b5 own_ni0)
 replace AX5 := AX5.keep Kq8
 have be11 := own_xk be7 Kq8 (allS le0_b5 all0)
 refine own_aloadN X8 hx hby o54_15 (pc' := 16) rfl rfl rfl ?_
 refine own_fL X8 hx hby hZ e8 V_e o54_16 (pc' := 17) rfl ?_
 refine own_virtM X8 hx hby hml hZ hown (ow_111 hw) (ow_112 hw) (notFace_of_selects (args := #[]) (mvT hZ (ow_114 hw))) (ow_114 hw) (ow_113 hw) (ow_95 hw) (ow_115 hw) (by decide) (cc := 0) (ss := 0) (rm_sbapi l Z a0 hw b5 vb d1 d2 (own_Ec f n 0).length G1 h8 n0 (Nat.le_trans Z0 sz10) hEl n0_b5 n0_vb (Nat.ne_of_lt (Nat.lt_of_lt_of_le V_d1.lt le0_vb)) (Nat.ne_of_lt (Nat.lt_of_lt_of_le V_d2.lt le0_vb)) (S_d1.ext be11) (S_d2.ext be11) (V_d1.ext be11) (V_d2.ext be11) (S_cs.ext be11) P5 O2) 0 rfl rfl (by decide) (by decide) rfl AX5 (argsL := [(.int (Int32.ofNat (own_Ec f n 0).length))]) (rest := []) opd_36 rfl rfl (Nat.le_refl _) o54_17 (pc' := 20) rfl rfl e8 (by decide) (by decide) ?_
 rintro v12 T12 h12 L12 X12 e12 ⟨rfl, Nq12, Kq12, O3⟩
 have N12 := N8.app Nq12
 have sfk13 := (sfS SF_b5 (sfS SF_vb sf0))
 replace SF_be := Safe.keep Kq12 sfk13 CH.1 SF_be
 replace SF_b5 := Safe.keep Kq12 sfk13 CH.1 SF_b5
 replace SF_vb := Safe.keep Kq12 sfk13 CH.1 SF_vb
 replace CH := CH.keep Kq12 sfk13
 replace SN := SN.keep Kq12
 have sz14 := Nat.le_trans sz10 Kq12.1
 replace A_t := A_t.keep Kq12
 replace F_h := F_h.keep Kq12 (own_niS ne_tg_b5 (own_niS ne_tg_vb own_ni0))
 replace V_h := V_h.keep Kq12 (own_niS ne_hd_b5 (own_niS ne_hd_vb own_ni0))
 replace V_e := V_e.keep Kq12 (own_niS ne_be_b5 (own_niS ne_be_vb own_ni0))
 replace AX5 := AX5.keep Kq12
 have be15 := own_xk be11 Kq12 (allS le0_b5 (allS le0_vb all0))
 refine own_ldcS X12 hx hby hZ hown SN (CHr.refl CH.1) (own_ew hw) (own_ws hw) (ow_141 hw) e12 o54_20 (pc' := 22) rfl (n := 16) (by decide) (by decide) (by decide) (by decide) (by decide) [(13 : Int32), (10 : Int32), (13 : Int32), (10 : Int32)] ⟨by decide, by decide⟩ (by decide) ?_
 intro T16 vm16 h16 q16 X16 e16 hZ hown SN16 CH16 E16 S_q16
 replace SF_be := CHr.safe CH16 V_e.lt SF_be
 replace SF_b5 := CHr.safe CH16 AX5.lt SF_b5
 replace SF_vb := CHr.safe CH16 O3.2.2.2.2.1.lt SF_vb
 have sz17 := Nat.le_trans sz14 E16.1
 replace A_t := A_t.ext E16
 replace F_h := F_h.ext E16
 replace V_h := V_h.ext E16
 replace V_e := V_e.ext E16
 replace AX5 := AX5.ext E16
 have be18 := own_xt be15 E16
 have CHt16 := CHr.trans CH CH16
 replace CHt16 : own_CH Z own_EL s.vm h0 vm16 h16 := CHt16
 replace O3 := O3.ext E16
 have hdl := own_dgl (p := (own_Ec f n 0).length)
 refine own_virtM X16 hx hby hml hZ hown (ow_142 hw) (ow_143 hw) (notFace_of_selects (args := #[]) (mvT hZ (ow_145 hw))) (ow_145 hw) (ow_144 hw) (ow_95 hw) (ow_146 hw) (by decide) (cc := 0) (ss := 0) (rm_sbaps l Z a0 hw b5 q16 vb (own_dg (own_Ec f n 0).length) own_crlf G1 h16 n0 (Nat.le_trans Z0 sz17) n0_b5 n0_vb (by decide) (by show _ + 4 ≤ 16; omega) (S_cs.ext be18) P5 O3 S_q16) 0 rfl rfl (by decide) (by decide) rfl AX5 (argsL := [(.ref q16)]) (rest := []) opd_37 rfl rfl (Nat.le_refl _) o54_22 (pc' := 25) rfl rfl e16 (by decide) (by decide) ?_
 rintro v19 T19 h19 L19 X19 e19 ⟨rfl, Nq19, Kq19, O4⟩
 have N19 := N12.app Nq19
 have sfk20 := (sfS SF_b5 (sfS SF_vb sf0))
 replace SF_be := Safe.keep Kq19 sfk20 CHt16.1 SF_be
 replace SF_b5 := Safe.keep Kq19 sfk20 CHt16.1 SF_b5
 replace SF_vb := Safe.keep Kq19 sfk20 CHt16.1 SF_vb
 replace CHt16 := CHt16.keep Kq19 sfk20
 replace SN16 := SN16.keep Kq19
 have sz21 := Nat.le_trans sz17 Kq19.1
 replace A_t := A_t.keep Kq19
 replace F_h := F_h.keep Kq19 (own_niS ne_tg_b5 (own_niS ne_tg_vb own_ni0))
 replace V_h := V_h.keep Kq19 (own_niS ne_hd_b5 (own_niS ne_hd_vb own_ni0))
 replace V_e := V_e.keep Kq19 (own_niS ne_be_b5 (own_niS ne_be_vb own_ni0))
 replace AX5 := AX5.keep Kq19
 have be22 := own_xk be18 Kq19 (allS le0_b5 (allS le0_vb all0))
 have hdp := own_dgpos (p := (own_Ec f n 0).length) hEl
 refine own_virtM X19 hx hby hml hZ hown (ow_176 hw) (ow_177 hw) (notFace_of_selects (args := #[]) (mvT hZ (ow_179 hw))) (ow_179 hw) (ow_178 hw) (ow_95 hw) (ow_180 hw) (by decide) (cc := 2) (ss := 20) (rm_tos l Z a0 hw b5 vb (own_dg (own_Ec f n 0).length ++ own_crlf) G1 h19 n0 (Nat.le_trans Z0 sz21) (by have := hdp.1; omega) (S_cs.ext be22) P5 O4) 0 rfl rfl (by decide) (by decide) rfl AX5 (argsL := []) (rest := []) opd_38 rfl rfl (Nat.le_refl _) o54_25 (pc' := 28) rfl rfl e19 (by decide) (by decide) ?_
 rintro v23 T23 h23 L23 X23 e23 ⟨ts, rfl, lb23, Eq23, Nq23, S_t⟩
 have ne_tg_ts : tg ≠ ts := Nat.ne_of_lt (Nat.lt_of_lt_of_le A_t.lt lb23)
 have ne_hd_ts : hd ≠ ts := Nat.ne_of_lt (Nat.lt_of_lt_of_le V_h.lt lb23)
 have ne_be_ts : be ≠ ts := Nat.ne_of_lt (Nat.lt_of_lt_of_le V_e.lt lb23)
 have ne_b5_ts : b5 ≠ ts := Nat.ne_of_lt (Nat.lt_of_lt_of_le AX5.lt lb23)
 have n0_ts : n0 ≤ ts := Nat.le_trans (Nat.le_trans Z0 sz21) lb23
 have le0_ts : h0.size ≤ ts := Nat.le_trans sz21 lb23
 have SF_ts : Safe Z own_EL vm16 h19 ts := Safe.new lb23
 have N23 := N19.app Nq23
 replace SF_be := Safe.ext Eq23 CHt16.1 SF_be
 replace SF_b5 := Safe.ext Eq23 CHt16.1 SF_b5
 replace SF_vb := Safe.ext Eq23 CHt16.1 SF_vb
 replace SF_ts := Safe.ext Eq23 CHt16.1 SF_ts
 replace SN16 := SN16.ext Eq23
 replace CHt16 := CHt16.ext Eq23
 have sz24 := Nat.le_trans sz21 Eq23.1
 replace A_t := A_t.ext Eq23
 replace F_h := F_h.ext Eq23
 replace V_h := V_h.ext Eq23
 replace V_e := V_e.ext Eq23
 replace AX5 := AX5.ext Eq23
 have be25 := own_xt be22 Eq23
 have A_s := S_t.1
 refine own_getS X23 hx hby hZ hown (host := "") (Or.inl (ow_217 hw)) Via.refl e23 (S_sa.ext be25) o54_28 (pc' := 31) rfl ?_
 intro T26 X26 e26
 refine own_virtM X26 hx hby hml hZ hown (ow_58 hw) (ow_59 hw) (notFace_of_selects (args := #[]) (mvT hZ (ow_61 hw))) (ow_61 hw) (ow_60 hw) (ow_9 hw) (ow_62 hw) (by decide) (cc := 1) (ss := 8) (rm_gbA l Z a0 hw ts u8 ua ui (own_dg (own_Ec f n 0).length ++ own_crlf) G1 h23 n0 (Nat.le_trans Z0 sz24) (by have := hdp.1; omega) hdp.2 (S_u8.ext be25) (S_ua.ext be25) (S_ui.ext be25) ne8 neI (S_cs.ext be25) P5 S_t) 0 rfl rfl (by decide) (by decide) rfl A_s (argsL := [(.ref ua)]) (rest := []) opd_35 rfl rfl (Nat.le_refl _) o54_31 (pc' := 34) rfl rfl e26 (by decide) (by decide) ?_
 rintro v27 T27 h27 L27 X27 e27 ⟨bm, rfl, lb27, Eq27, Nq27, V_m⟩
 have ne_tg_bm : tg ≠ bm := Nat.ne_of_lt (Nat.lt_of_lt_of_le A_t.lt lb27)
 have ne_hd_bm : hd ≠ bm := Nat.ne_of_lt (Nat.lt_of_lt_of_le V_h.lt lb27)
 have ne_be_bm : be ≠ bm := Nat.ne_of_lt (Nat.lt_of_lt_of_le V_e.lt lb27)
 have ne_b5_bm : b5 ≠ bm := Nat.ne_of_lt (Nat.lt_of_lt_of_le AX5.lt lb27)
 have ne_ts_bm : ts ≠ bm := Nat.ne_of_lt (Nat.lt_of_lt_of_le A_s.lt lb27)
 have n0_bm : n0 ≤ bm := Nat.le_trans (Nat.le_trans Z0 sz24) lb27
 have le0_bm : h0.size ≤ bm := Nat.le_trans sz24 lb27
 have SF_bm : Safe Z own_EL vm16 h23 bm := Safe.new lb27
 have N27 := N23.app Nq27
 replace SF_be := Safe.ext Eq27 CHt16.1 SF_be
 replace SF_b5 := Safe.ext Eq27 CHt16.1 SF_b5
 replace SF_vb := Safe.ext Eq27 CHt16.1 SF_vb
 replace SF_ts := Safe.ext Eq27 CHt16.1 SF_ts
 replace SF_bm := Safe.ext Eq27 CHt16.1 SF_bm
 replace SN16 := SN16.ext Eq27
 replace CHt16 := CHt16.ext Eq27
 have sz28 := Nat.le_trans sz24 Eq27.1
 replace A_t := A_t.ext Eq27
 replace F_h := F_h.ext Eq27
 replace V_h := V_h.ext Eq27
 replace V_e := V_e.ext Eq27
 replace AX5 := AX5.ext Eq27
 replace A_s := A_s.ext Eq27
 have be29 := own_xt be25 Eq27
 refine own_astoreN X27 hx hby o54_34 (pc' := 35) rfl rfl (Ls' := #[.val (.ref tg), .val (.ref bd), .val (.ref be), .val (.ref bm), .unset]) rfl ?_
 refine own_aloadN X27 hx hby o54_35 (pc' := 36) rfl rfl rfl ?_
 refine own_getF X27 hx hby hZ hown (host := "") (Or.inl (ow_49 hw)) Via.refl e27 F_h o54_36 (pc' := 39) rfl ?_
 intro T30 X30 e30
 refine own_fL X30 hx hby hZ e30 V_h o54_39 (pc' := 40) rfl ?_
 refine own_aloadN X30 hx hby o54_40 (pc' := 41) rfl rfl rfl ?_
 refine own_fL X30 hx hby hZ e30 V_m o54_41 (pc' := 42) rfl ?_
 refine own_iadd X30 hx hby o54_42 (pc' := 43) rfl ?_
 rw [show (Int32.ofNat H.length + Int32.ofNat (own_dg (own_Ec f n 0).length ++ own_crlf).length) = Int32.ofNat (H.length + (own_dg (own_Ec f n 0).length ++ own_crlf).length) from own_j rfl]
 refine own_aloadN X30 hx hby o54_43 (pc' := 44) rfl rfl rfl ?_
 refine own_fL X30 hx hby hZ e30 V_e o54_44 (pc' := 45) rfl ?_
 refine own_iadd X30 hx hby o54_45 (pc' := 46) rfl ?_
 rw [show (Int32.ofNat (H.length + (own_dg (own_Ec f n 0).length ++ own_crlf).length) + Int32.ofNat (own_Ec f n 0).length) = Int32.ofNat ((H.length + (own_dg (own_Ec f n 0).length ++ own_crlf).length) + (own_Ec f n 0).length) from own_j rfl]
 have hm6 := hdp.1
 refine own_nB (N := ((H.length + (own_dg (own_Ec f n 0).length ++ own_crlf).length) + (own_Ec f n 0).length)) X30 hx hby hZ (ow_0 hw) e30 o54_46 (pc' := 48) rfl (cap := 20) (by omega) (by decide) (by decide) (by decide) ?_
 intro T31 h31 b31 g31 X31 e31 E31 V_b31
 have ne_tg_b31 : tg ≠ b31 := own_nl A_t.lt g31
 have ne_hd_b31 : hd ≠ b31 := own_nl V_h.lt g31
 have ne_be_b31 : be ≠ b31 := own_nl V_e.lt g31
 have ne_b5_b31 : b5 ≠ b31 := own_nl AX5.lt g31
 have ne_bm_b31 : bm ≠ b31 := own_nl V_m.lt g31
 have n0_b31 : n0 ≤ b31 := Nat.le_trans (Nat.le_trans Z0 sz28) (Nat.le_of_eq g31.symm)
 have le0_b31 : h0.size ≤ b31 := Nat.le_trans sz28 (Nat.le_of_eq g31.symm)
 have SF_b31 : Safe Z own_EL vm16 h27 b31 := Safe.new (Nat.le_of_eq g31.symm)
 replace SF_b31 := Safe.ext E31 CHt16.1 SF_b31
 replace SN16 := SN16.ext E31
 replace CHt16 := CHt16.ext E31
 have sz32 := Nat.le_trans sz28 E31.1
 replace A_t := A_t.ext E31
 replace F_h := F_h.ext E31
 replace V_h := V_h.ext E31
 replace V_e := V_e.ext E31
 replace AX5 := AX5.ext E31
 replace V_m := V_m.ext E31
 have be33 := own_xt be29 E31
 refine own_astore X31 hx hby o54_48 (pc' := 50) rfl rfl (Ls' := #[.val (.ref tg), .val (.ref bd), .val (.ref be), .val (.ref bm), .val (.ref b31)]) rfl ?_
 refine own_aloadN X31 hx hby o54_50 (pc' := 51) rfl rfl rfl ?_
 refine own_getF X31 hx hby hZ hown (host := "") (Or.inl (ow_49 hw)) Via.refl e31 F_h o54_51 (pc' := 54) rfl ?_
 intro T34 X34 e34
 refine own_iconst X34 hx hby o54_54 (pc' := 55) rfl (z := 0) rfl ?_
 refine own_aload X34 hx hby o54_55 (pc' := 57) rfl rfl rfl ?_
 refine own_iconst X34 hx hby o54_57 (pc' := 58) rfl (z := 0) rfl ?_
 refine own_aloadN X34 hx hby o54_58 (pc' := 59) rfl rfl rfl ?_
 refine own_getF X34 hx hby hZ hown (host := "") (Or.inl (ow_49 hw)) Via.refl e34 F_h o54_59 (pc' := 62) rfl ?_
 intro T35 X35 e35
 refine own_fL X35 hx hby hZ e35 V_h o54_62 (pc' := 63) rfl ?_
 refine own_cpF X35 hx hby hZ hml hown (ow_226 hw) (ow_175 hw) (ow_173 hw) (ow_174 hw) e35 V_h V_b31 (sp := 0) (dp := 0) (nn := H.length) (by omega) (by omega) (n0 := n0) N27 n0_b31 rfl o54_63 (pc' := 66) rfl (by decide) (W := 0) (Nat.le_refl _) (by decide) ?_
 intro T36 h36 L36 X36 e36 N36 K_36 Q1
 have sfk37 := (sfS SF_b31 sf0)
 replace SF_b31 := Safe.keep K_36 sfk37 CHt16.1 SF_b31
 replace CHt16 := CHt16.keep K_36 sfk37
 replace SN16 := SN16.keep K_36
 have sz38 := Nat.le_trans sz32 K_36.1
 replace A_t := A_t.keep K_36
 replace F_h := F_h.keep K_36 (own_niS ne_tg_b31 own_ni0)
 replace V_h := V_h.keep K_36 (own_niS ne_hd_b31 own_ni0)
 replace V_e := V_e.keep K_36 (own_niS ne_be_b31 own_ni0)
 replace AX5 := AX5.keep K_36
 replace V_m := V_m.keep K_36 (own_niS ne_bm_b31 own_ni0)
 have be39 := own_xk be33 K_36 (allS le0_b31 all0)
 refine own_aloadN X36 hx hby o54_66 (pc' := 67) rfl rfl rfl ?_
 refine own_iconst X36 hx hby o54_67 (pc' := 68) rfl (z := 0) rfl ?_
 refine own_aload X36 hx hby o54_68 (pc' := 70) rfl rfl rfl ?_
 refine own_aloadN X36 hx hby o54_70 (pc' := 71) rfl rfl rfl ?_
 refine own_getF X36 hx hby hZ hown (host := "") (Or.inl (ow_49 hw)) Via.refl e36 F_h o54_71 (pc' := 74) rfl ?_
 intro T40 X40 e40
 refine own_fL X40 hx hby hZ e40 V_h o54_74 (pc' := 75) rfl ?_
 refine own_aloadN X40 hx hby o54_75 (pc' := 76) rfl rfl rfl ?_
 refine own_fL X40 hx hby hZ e40 V_m o54_76 (pc' := 77) rfl ?_
 refine own_cpF X40 hx hby hZ hml hown (ow_226 hw) (ow_175 hw) (ow_173 hw) (ow_174 hw) e40 V_m Q1 (sp := 0) (dp := H.length) (nn := (own_dg (own_Ec f n 0).length ++ own_crlf).length) (by omega) (by omega) (n0 := n0) N36 n0_b31 rfl o54_77 (pc' := 80) rfl (by decide) (W := 0) (Nat.le_refl _) (by decide) ?_
 intro T41 h41 L41 X41 e41 N41 K_41 Q2
 have sfk42 := (sfS SF_b31 sf0)
 replace SF_b31 := Safe.keep K_41 sfk42 CHt16.1 SF_b31
 replace CHt16 := CHt16.keep K_41 sfk42
 replace SN16 := SN16.keep K_41
 have sz43 := Nat.le_trans sz38 K_41.1
 replace A_t := A_t.keep K_41
 replace F_h := F_h.keep K_41 (own_niS ne_tg_b31 own_ni0)
 replace V_h := V_h.keep K_41 (own_niS ne_hd_b31 own_ni0)
 replace V_e := V_e.keep K_41 (own_niS ne_be_b31 own_ni0)
 replace AX5 := AX5.keep K_41
 replace V_m := V_m.keep K_41 (own_niS ne_bm_b31 own_ni0)
 have be44 := own_xk be39 K_41 (allS le0_b31 all0)
 refine own_aloadN X41 hx hby o54_80 (pc' := 81) rfl rfl rfl ?_
 refine own_iconst X41 hx hby o54_81 (pc' := 82) rfl (z := 0) rfl ?_
 refine own_aload X41 hx hby o54_82 (pc' := 84) rfl rfl rfl ?_
 refine own_aloadN X41 hx hby o54_84 (pc' := 85) rfl rfl rfl ?_
 refine own_getF X41 hx hby hZ hown (host := "") (Or.inl (ow_49 hw)) Via.refl e41 F_h o54_85 (pc' := 88) rfl ?_
 intro T45 X45 e45
 refine own_fL X45 hx hby hZ e45 V_h o54_88 (pc' := 89) rfl ?_
 refine own_aloadN X45 hx hby o54_89 (pc' := 90) rfl rfl rfl ?_
 refine own_fL X45 hx hby hZ e45 V_m o54_90 (pc' := 91) rfl ?_
 refine own_iadd X45 hx hby o54_91 (pc' := 92) rfl ?_
 rw [show (Int32.ofNat H.length + Int32.ofNat (own_dg (own_Ec f n 0).length ++ own_crlf).length) = Int32.ofNat (H.length + (own_dg (own_Ec f n 0).length ++ own_crlf).length) from own_j rfl]
 refine own_aloadN X45 hx hby o54_92 (pc' := 93) rfl rfl rfl ?_
 refine own_fL X45 hx hby hZ e45 V_e o54_93 (pc' := 94) rfl ?_
 refine own_cpF X45 hx hby hZ hml hown (ow_226 hw) (ow_175 hw) (ow_173 hw) (ow_174 hw) e45 V_e Q2 (sp := 0) (dp := (H.length + (own_dg (own_Ec f n 0).length ++ own_crlf).length)) (nn := (own_Ec f n 0).length) (by omega) (by omega) (n0 := n0) N41 n0_b31 rfl o54_94 (pc' := 97) rfl (by decide) (W := 0) (Nat.le_refl _) (by decide) ?_
 intro T46 h46 L46 X46 e46 N46 K_46 Q3
 have sfk47 := (sfS SF_b31 sf0)
 replace SF_b31 := Safe.keep K_46 sfk47 CHt16.1 SF_b31
 replace CHt16 := CHt16.keep K_46 sfk47
 replace SN16 := SN16.keep K_46
 have sz48 := Nat.le_trans sz43 K_46.1
 replace A_t := A_t.keep K_46
 replace F_h := F_h.keep K_46 (own_niS ne_tg_b31 own_ni0)
 replace V_h := V_h.keep K_46 (own_niS ne_hd_b31 own_ni0)
 replace V_e := V_e.keep K_46 (own_niS ne_be_b31 own_ni0)
 replace AX5 := AX5.keep K_46
 replace V_m := V_m.keep K_46 (own_niS ne_bm_b31 own_ni0)
 have be49 := own_xk be44 K_46 (allS le0_b31 all0)
 refine own_aload X46 hx hby o54_97 (pc' := 99) rfl rfl rfl ?_
 exact own_retAW X46 hx hby hZ (own_ew hw) e46 SN16 CHt16 hlk hrt rfl rfl o54_99 ⟨b31, rfl, le0_b31, be49, N46, own_cat3 rfl Q3⟩ (by decide) (by decide)
theorem ef_rm_law (m : MethodId) (x0 : Int32) (x1 : Int64) (x2 : Int32) (x3 : Int32) : entryFrame m #[(.int x0), (.long x1), (.int x2), (.int x3)] maxLocals = mkF m 0 #[.val (.int x0), .val (.long x1), .second, .val (.int x2), .val (.int x3), .unset, .unset, .unset, .unset, .unset, .unset, .unset, .unset, .unset, .unset, .unset, .unset, .unset, .unset, .unset, .unset, .unset, .unset, .unset, .unset, .unset] [] := by first | (simp [entryFrame, mkF, argsToLocals, Value.category, maxLocals]; done) | rfl
set_option maxRecDepth 65536 in
set_option maxHeartbeats 40000000 in
theorem rm_law (l : Launch) (Z : State) (a0 : Array Value) (hw : ∀ d ∈ tables_1, d.before a0 Z = true) (p1 : Int32) (p2 : Int64) (p3 p4 : Int32) (u8 ua ui d1 d2 : Addr) (G1 : Int32) (h0 : Heap) (n0 : Nat) (Z0 : n0 ≤ h0.size) (S_s8 : Sta Z h0 "java/nio/charset/StandardCharsets" "UTF_8" "Ljava/nio/charset/Charset;" (.ref u8)) (S_sa : Sta Z h0 "java/nio/charset/StandardCharsets" "US_ASCII" "Ljava/nio/charset/Charset;" (.ref ua)) (S_u8 : Sta Z h0 "sun/nio/cs/UTF_8" "INSTANCE" "Lsun/nio/cs/UTF_8;" (.ref u8)) (S_ua : Sta Z h0 "sun/nio/cs/US_ASCII" "INSTANCE" "Lsun/nio/cs/US_ASCII;" (.ref ua)) (S_ui : Sta Z h0 "sun/nio/cs/ISO_8859_1" "INSTANCE" "Lsun/nio/cs/ISO_8859_1;" (.ref ui)) (ne8 : ua ≠ u8) (neI : ua ≠ ui) (S_as : Sta Z h0 "java/lang/StringUTF16" "$assertionsDisabled" "Z" (.int (1 : Int32))) (S_hi : Sta Z h0 "java/lang/StringUTF16" "HI_BYTE_SHIFT" "I" (.int (0 : Int32))) (S_lo : Sta Z h0 "java/lang/StringUTF16" "LO_BYTE_SHIFT" "I" (.int (8 : Int32))) (S_cs : Sta Z h0 "java/lang/String" "COMPACT_STRINGS" "Z" (.int G1)) (P5 : ¬ (G1 = (0 : Int32))) (S_d1 : Sta Z h0 "java/lang/Integer" "DigitOnes" "[B" (.ref d1)) (S_d2 : Sta Z h0 "java/lang/Integer" "DigitTens" "[B" (.ref d2)) (V_d1 : own_Fa Z h0 d1 .byte "[B" (fun _ => True) 100 (fun y_ => .int (own_on y_))) (V_d2 : own_Fa Z h0 d2 .byte "[B" (fun _ => True) 100 (fun y_ => .int (own_te y_))) :
  own_MetW l Z own_EL x code maxLocals ret room_1 #[(.int p1), (.long p2), (.int p3), (.int p4)] h0 (fun v h L => v = some (.int 1) ∧ Fr n0 L) := by
 refine own_bodyW (plainFor_of_name (by first | (simp [plainName, overriddenIn]; done) | decide +kernel)) ?_
 intro p e s m below meth c s₁ vm0 hx hby hml hown hnm hlk hrt hZ hZ0 SN CH X0 e0
 have hml : c.maxLocals = 26 := hml
 refine own_enter (ef_rm_law m p1 p2 p3 p4) ?_
 have N0 := Fr.nil n0
 refine own_iloadN X0 hx hby at_0 (pc' := 1) rfl rfl ?_
 refine own_iconst X0 hx hby at_1 (pc' := 2) rfl (z := 3) rfl ?_
 refine own_iand X0 hx hby at_2 (pc' := 3) rfl ?_
 refine own_iconst X0 hx hby at_3 (pc' := 4) rfl (z := 3) rfl ?_
 refine own_irem X0 hx hby at_4 (pc' := 5) rfl (by decide) ?_
 obtain ⟨hh, hh3, eh⟩ := own_hl p1
 rw [eh]
 refine own_istore X0 hx hby at_5 (pc' := 7) rfl (Ls' := #[.val (.int p1), .val (.long p2), .second, .val (.int p3), .val (.int p4), .val (.int (Int32.ofNat hh)), .unset, .unset, .unset, .unset, .unset, .unset, .unset, .unset, .unset, .unset, .unset, .unset, .unset, .unset, .unset, .unset, .unset, .unset, .unset, .unset]) rfl ?_
 refine own_iloadN X0 hx hby at_7 (pc' := 8) rfl rfl ?_
 refine own_bipush X0 hx hby at_8 (pc' := 10) rfl (z := 8) rfl ?_
 refine own_iushr X0 hx hby at_10 (pc' := 11) rfl ?_
 refine own_i2b X0 hx hby at_11 (pc' := 12) rfl ?_
 refine own_istore X0 hx hby at_12 (pc' := 14) rfl (Ls' := #[.val (.int p1), .val (.long p2), .second, .val (.int p3), .val (.int p4), .val (.int (Int32.ofNat hh)), .val (.int (((p1.toUInt32 >>> ((8 : Int32) &&& 31).toUInt32).toInt32).toInt8.toInt32)), .unset, .unset, .unset, .unset, .unset, .unset, .unset, .unset, .unset, .unset, .unset, .unset, .unset, .unset, .unset, .unset, .unset, .unset, .unset]) rfl ?_
 refine own_iloadN X0 hx hby at_14 (pc' := 15) rfl rfl ?_
 refine own_bipush X0 hx hby at_15 (pc' := 17) rfl (z := 16) rfl ?_
 refine own_iushr X0 hx hby at_17 (pc' := 18) rfl ?_
 refine own_i2b X0 hx hby at_18 (pc' := 19) rfl ?_
 refine own_istore X0 hx hby at_19 (pc' := 21) rfl (Ls' := #[.val (.int p1), .val (.long p2), .second, .val (.int p3), .val (.int p4), .val (.int (Int32.ofNat hh)), .val (.int (((p1.toUInt32 >>> ((8 : Int32) &&& 31).toUInt32).toInt32).toInt8.toInt32)), .val (.int (((p1.toUInt32 >>> ((16 : Int32) &&& 31).toUInt32).toInt32).toInt8.toInt32)), .unset, .unset, .unset, .unset, .unset, .unset, .unset, .unset, .unset, .unset, .unset, .unset, .unset, .unset, .unset, .unset, .unset, .unset]) rfl ?_
 refine own_iload X0 hx hby at_21 (pc' := 23) rfl rfl ?_
 refine own_join (α := (State) × (Vm) × (Heap) × (List Loc) × (Addr) × (List Int32) × (Int32) × (Int32)) (F := fun z => z.1.setTop (mkF m 62 #[.val (.int p1), .val (.long p2), .second, .val (.int p3), .val (.int p4), .val (.int (Int32.ofNat z.2.2.2.2.2.1.length)), .val (.int z.2.2.2.2.2.2.1), .val (.int z.2.2.2.2.2.2.2), .unset, .unset, .unset, .unset, .unset, .unset, .unset, .unset, .unset, .unset, .unset, .unset, .unset, .unset, .unset, .unset, .unset, .unset] [(.ref z.2.2.2.2.1)])) (P := fun z => Stand p l e room_1 (s.setVm z.2.1) m #[(.int p1), (.long p2), (.int p3), (.int p4)] below meth c z.1 z.2.2.2.1 1 2 ∧ z.1.heap = z.2.2.1 ∧ Z.Warmed39 z.2.1 ∧ z.2.1.findClass "com/example/reservation/reservation/server/TargetRequestPinLaw" = some m.cls ∧ own_Sn s z.2.1 z.2.2.1 ∧ own_CH Z own_EL s.vm h0 z.2.1 z.2.2.1 ∧ h0.size ≤ z.2.2.1.size ∧ Fr n0 z.2.2.2.1 ∧ Ext h0 z.2.2.1 ∧ (h0.size ≤ z.2.2.2.2.1) ∧ (own_Bl Z z.2.2.1 z.2.2.2.2.1 z.2.2.2.2.2.1) ∧ (z.2.2.2.2.2.1.length ≤ 2)) ?_ ?_
 ·rintro ⟨T_a, vm_a, h_a, L_a, hd, H, y6, y7⟩ hP
  dsimp only at hP ⊢
  obtain ⟨Xja, eja, hZ, hown, SNja, CHja, szja, Nja, beja, le0_hd, V_h, hH2⟩ := hP
  have n0_hd : n0 ≤ hd := Nat.le_trans Z0 le0_hd
  refine own_astore Xja hx hby at_62 (pc' := 64) rfl rfl (Ls' := #[.val (.int p1), .val (.long p2), .second, .val (.int p3), .val (.int p4), .val (.int (Int32.ofNat H.length)), .val (.int y6), .val (.int y7), .val (.ref hd), .unset, .unset, .unset, .unset, .unset, .unset, .unset, .unset, .unset, .unset, .unset, .unset, .unset, .unset, .unset, .unset, .unset]) rfl ?_
  refine own_iload Xja hx hby at_64 (pc' := 66) rfl rfl ?_
  refine own_ldcI Xja hx hby hZ hown (ow_1 hw) at_66 (pc' := 68) rfl ?_
  refine own_iand Xja hx hby at_68 (pc' := 69) rfl ?_
  refine own_iconst Xja hx hby at_69 (pc' := 70) rfl (z := 5) rfl ?_
  refine own_irem Xja hx hby at_70 (pc' := 71) rfl (by decide) ?_
  obtain ⟨nn, hn5, en⟩ := own_n5 p4
  rw [en]
  refine own_istore Xja hx hby at_71 (pc' := 73) rfl (Ls' := #[.val (.int p1), .val (.long p2), .second, .val (.int p3), .val (.int p4), .val (.int (Int32.ofNat H.length)), .val (.int y6), .val (.int y7), .val (.ref hd), .val (.int (Int32.ofNat nn)), .unset, .unset, .unset, .unset, .unset, .unset, .unset, .unset, .unset, .unset, .unset, .unset, .unset, .unset, .unset, .unset]) rfl ?_
  refine own_lloadN Xja hx hby at_73 (pc' := 74) rfl rfl ?_
  refine own_l2i Xja hx hby at_74 (pc' := 75) rfl ?_
  refine own_i2c Xja hx hby at_75 (pc' := 76) rfl ?_
  refine own_iloadN Xja hx hby at_76 (pc' := 77) rfl rfl ?_
  refine own_callM Xja hx hby hml hZ hown (ow_2 hw) (ow_3 hw) (ow_4 hw) (ow_5 hw) (by decide) (cc := 0) (ss := 0) (rm_shape l Z a0 hw ((p2.toInt32).toUInt32.toUInt16.toUInt32.toInt32) p3 h_a n0 (Nat.le_trans Z0 szja) (own_i2cb _)) 0 rfl rfl (by decide) (by decide) rfl (argsL := [(.int ((p2.toInt32).toUInt32.toUInt16.toUInt32.toInt32)), (.int p3)]) (rest := []) opd_39 rfl rfl (Nat.le_refl _) at_77 (pc' := 80) rfl rfl eja (by decide) (by decide) ?_
  rintro v1 T1 h1 L1 X1 e1 ⟨c0, rfl, hc0, Nq1, rfl⟩
  have N1 := Nja.app Nq1
  refine own_istore X1 hx hby at_80 (pc' := 82) rfl (Ls' := #[.val (.int p1), .val (.long p2), .second, .val (.int p3), .val (.int p4), .val (.int (Int32.ofNat H.length)), .val (.int y6), .val (.int y7), .val (.ref hd), .val (.int (Int32.ofNat nn)), .val (.int c0), .unset, .unset, .unset, .unset, .unset, .unset, .unset, .unset, .unset, .unset, .unset, .unset, .unset, .unset, .unset]) rfl ?_
  refine own_lloadN X1 hx hby at_82 (pc' := 83) rfl rfl ?_
  refine own_bipush X1 hx hby at_83 (pc' := 85) rfl (z := 16) rfl ?_
  refine own_lushr X1 hx hby at_85 (pc' := 86) rfl ?_
  refine own_l2i X1 hx hby at_86 (pc' := 87) rfl ?_
  refine own_i2c X1 hx hby at_87 (pc' := 88) rfl ?_
  refine own_iloadN X1 hx hby at_88 (pc' := 89) rfl rfl ?_
  refine own_iconst X1 hx hby at_89 (pc' := 90) rfl (z := 2) rfl ?_
  refine own_iushr X1 hx hby at_90 (pc' := 91) rfl ?_
  refine own_callM X1 hx hby hml hZ hown (ow_2 hw) (ow_3 hw) (ow_4 hw) (ow_5 hw) (by decide) (cc := 0) (ss := 0) (rm_shape l Z a0 hw ((((p2.toUInt64 >>> ((16 : Int32) &&& 0x3f).toInt64.toUInt64).toInt64).toInt32).toUInt32.toUInt16.toUInt32.toInt32) ((p3.toUInt32 >>> ((2 : Int32) &&& 31).toUInt32).toInt32) h_a n0 (Nat.le_trans Z0 szja) (own_i2cb _)) 0 rfl rfl (by decide) (by decide) rfl (argsL := [(.int ((((p2.toUInt64 >>> ((16 : Int32) &&& 0x3f).toInt64.toUInt64).toInt64).toInt32).toUInt32.toUInt16.toUInt32.toInt32)), (.int ((p3.toUInt32 >>> ((2 : Int32) &&& 31).toUInt32).toInt32))]) (rest := []) opd_39 rfl rfl (Nat.le_refl _) at_91 (pc' := 94) rfl rfl e1 (by decide) (by decide) ?_
  rintro v2 T2 h2 L2 X2 e2 ⟨c1, rfl, hc1, Nq2, rfl⟩
  have N2 := N1.app Nq2
  refine own_istore X2 hx hby at_94 (pc' := 96) rfl (Ls' := #[.val (.int p1), .val (.long p2), .second, .val (.int p3), .val (.int p4), .val (.int (Int32.ofNat H.length)), .val (.int y6), .val (.int y7), .val (.ref hd), .val (.int (Int32.ofNat nn)), .val (.int c0), .val (.int c1), .unset, .unset, .unset, .unset, .unset, .unset, .unset, .unset, .unset, .unset, .unset, .unset, .unset, .unset]) rfl ?_
  refine own_lloadN X2 hx hby at_96 (pc' := 97) rfl rfl ?_
  refine own_bipush X2 hx hby at_97 (pc' := 99) rfl (z := 32) rfl ?_
  refine own_lushr X2 hx hby at_99 (pc' := 100) rfl ?_
  refine own_l2i X2 hx hby at_100 (pc' := 101) rfl ?_
  refine own_i2c X2 hx hby at_101 (pc' := 102) rfl ?_
  refine own_iloadN X2 hx hby at_102 (pc' := 103) rfl rfl ?_
  refine own_iconst X2 hx hby at_103 (pc' := 104) rfl (z := 4) rfl ?_
  refine own_iushr X2 hx hby at_104 (pc' := 105) rfl ?_
  refine own_callM X2 hx hby hml hZ hown (ow_2 hw) (ow_3 hw) (ow_4 hw) (ow_5 hw) (by decide) (cc := 0) (ss := 0) (rm_shape l Z a0 hw ((((p2.toUInt64 >>> ((32 : Int32) &&& 0x3f).toInt64.toUInt64).toInt64).toInt32).toUInt32.toUInt16.toUInt32.toInt32) ((p3.toUInt32 >>> ((4 : Int32) &&& 31).toUInt32).toInt32) h_a n0 (Nat.le_trans Z0 szja) (own_i2cb _)) 0 rfl rfl (by decide) (by decide) rfl (argsL := [(.int ((((p2.toUInt64 >>> ((32 : Int32) &&& 0x3f).toInt64.toUInt64).toInt64).toInt32).toUInt32.toUInt16.toUInt32.toInt32)), (.int ((p3.toUInt32 >>> ((4 : Int32) &&& 31).toUInt32).toInt32))]) (rest := []) opd_39 rfl rfl (Nat.le_refl _) at_105 (pc' := 108) rfl rfl e2 (by decide) (by decide) ?_
  rintro v3 T3 h3 L3 X3 e3 ⟨c2, rfl, hc2, Nq3, rfl⟩
  have N3 := N2.app Nq3
  refine own_istore X3 hx hby at_108 (pc' := 110) rfl (Ls' := #[.val (.int p1), .val (.long p2), .second, .val (.int p3), .val (.int p4), .val (.int (Int32.ofNat H.length)), .val (.int y6), .val (.int y7), .val (.ref hd), .val (.int (Int32.ofNat nn)), .val (.int c0), .val (.int c1), .val (.int c2), .unset, .unset, .unset, .unset, .unset, .unset, .unset, .unset, .unset, .unset, .unset, .unset, .unset]) rfl ?_
  refine own_lloadN X3 hx hby at_110 (pc' := 111) rfl rfl ?_
  refine own_bipush X3 hx hby at_111 (pc' := 113) rfl (z := 48) rfl ?_
  refine own_lushr X3 hx hby at_113 (pc' := 114) rfl ?_
  refine own_l2i X3 hx hby at_114 (pc' := 115) rfl ?_
  refine own_i2c X3 hx hby at_115 (pc' := 116) rfl ?_
  refine own_iloadN X3 hx hby at_116 (pc' := 117) rfl rfl ?_
  refine own_bipush X3 hx hby at_117 (pc' := 119) rfl (z := 6) rfl ?_
  refine own_iushr X3 hx hby at_119 (pc' := 120) rfl ?_
  refine own_callM X3 hx hby hml hZ hown (ow_2 hw) (ow_3 hw) (ow_4 hw) (ow_5 hw) (by decide) (cc := 0) (ss := 0) (rm_shape l Z a0 hw ((((p2.toUInt64 >>> ((48 : Int32) &&& 0x3f).toInt64.toUInt64).toInt64).toInt32).toUInt32.toUInt16.toUInt32.toInt32) ((p3.toUInt32 >>> ((6 : Int32) &&& 31).toUInt32).toInt32) h_a n0 (Nat.le_trans Z0 szja) (own_i2cb _)) 0 rfl rfl (by decide) (by decide) rfl (argsL := [(.int ((((p2.toUInt64 >>> ((48 : Int32) &&& 0x3f).toInt64.toUInt64).toInt64).toInt32).toUInt32.toUInt16.toUInt32.toInt32)), (.int ((p3.toUInt32 >>> ((6 : Int32) &&& 31).toUInt32).toInt32))]) (rest := []) opd_39 rfl rfl (Nat.le_refl _) at_120 (pc' := 123) rfl rfl e3 (by decide) (by decide) ?_
  rintro v4 T4 h4 L4 X4 e4 ⟨c3, rfl, hc3, Nq4, rfl⟩
  have N4 := N3.app Nq4
  refine own_istore X4 hx hby at_123 (pc' := 125) rfl (Ls' := #[.val (.int p1), .val (.long p2), .second, .val (.int p3), .val (.int p4), .val (.int (Int32.ofNat H.length)), .val (.int y6), .val (.int y7), .val (.ref hd), .val (.int (Int32.ofNat nn)), .val (.int c0), .val (.int c1), .val (.int c2), .val (.int c3), .unset, .unset, .unset, .unset, .unset, .unset, .unset, .unset, .unset, .unset, .unset, .unset]) rfl ?_
  refine own_iconst X4 hx hby at_125 (pc' := 126) rfl (z := 4) rfl ?_
  refine own_nC (N := 4) X4 hx hby hZ (ow_6 hw) e4 at_126 (pc' := 128) rfl (cap := 4) (Nat.le_refl _) (by decide) (by decide) (by decide) ?_
  intro T5 h5 b5 g5 X5 e5 E5 V_b5
  have ne_hd_b5 : hd ≠ b5 := own_nl V_h.lt g5
  have n0_b5 : n0 ≤ b5 := Nat.le_trans (Nat.le_trans Z0 szja) (Nat.le_of_eq g5.symm)
  have le0_b5 : h0.size ≤ b5 := Nat.le_trans szja (Nat.le_of_eq g5.symm)
  have SF_b5 : Safe Z own_EL vm_a h_a b5 := Safe.new (Nat.le_of_eq g5.symm)
  replace SF_b5 := Safe.ext E5 CHja.1 SF_b5
  replace SNja := SNja.ext E5
  replace CHja := CHja.ext E5
  have sz6 := Nat.le_trans szja E5.1
  replace V_h := V_h.ext E5
  have be7 := own_xt beja E5
  refine own_dup X5 hx hby at_128 (pc' := 129) rfl rfl ?_
  refine own_iconst X5 hx hby at_129 (pc' := 130) rfl (z := 0) rfl ?_
  refine own_iload X5 hx hby at_130 (pc' := 132) rfl rfl ?_
  refine own_gC X5 hx hby hZ e5 V_b5 (J := 0) (by decide) (w := c0) (own_narC hc0) at_132 (pc' := 133) rfl ?_
  intro T8 h8 X8 e8 W8 Qb5_0
  have sfw9 := SF_b5
  replace SF_b5 := Safe.wr W8 sfw9 CHja.1 SF_b5
  replace CHja := CHja.wr W8 sfw9
  replace SNja := SNja.wr W8
  have sz10 := Nat.le_trans sz6 (Keep.of_wr W8).1
  replace V_h := V_h.other W8 ne_hd_b5
  have be11 := own_xw be7 W8 le0_b5
  have N8 := own_fr1 (sl := 0) N4 n0_b5
  refine own_dup X8 hx hby at_133 (pc' := 134) rfl rfl ?_
  refine own_iconst X8 hx hby at_134 (pc' := 135) rfl (z := 1) rfl ?_
  refine own_iload X8 hx hby at_135 (pc' := 137) rfl rfl ?_
  refine own_gC X8 hx hby hZ e8 Qb5_0 (J := 1) (by decide) (w := c1) (own_narC hc1) at_137 (pc' := 138) rfl ?_
  intro T12 h12 X12 e12 W12 Qb5_1
  have sfw13 := SF_b5
  replace SF_b5 := Safe.wr W12 sfw13 CHja.1 SF_b5
  replace CHja := CHja.wr W12 sfw13
  replace SNja := SNja.wr W12
  have sz14 := Nat.le_trans sz10 (Keep.of_wr W12).1
  replace V_h := V_h.other W12 ne_hd_b5
  have be15 := own_xw be11 W12 le0_b5
  have N12 := own_fr1 (sl := 1) N8 n0_b5
  refine own_dup X12 hx hby at_138 (pc' := 139) rfl rfl ?_
  refine own_iconst X12 hx hby at_139 (pc' := 140) rfl (z := 2) rfl ?_
  refine own_iload X12 hx hby at_140 (pc' := 142) rfl rfl ?_
  refine own_gC X12 hx hby hZ e12 Qb5_1 (J := 2) (by decide) (w := c2) (own_narC hc2) at_142 (pc' := 143) rfl ?_
  intro T16 h16 X16 e16 W16 Qb5_2
  have sfw17 := SF_b5
  replace SF_b5 := Safe.wr W16 sfw17 CHja.1 SF_b5
  replace CHja := CHja.wr W16 sfw17
  replace SNja := SNja.wr W16
  have sz18 := Nat.le_trans sz14 (Keep.of_wr W16).1
  replace V_h := V_h.other W16 ne_hd_b5
  have be19 := own_xw be15 W16 le0_b5
  have N16 := own_fr1 (sl := 2) N12 n0_b5
  refine own_dup X16 hx hby at_143 (pc' := 144) rfl rfl ?_
  refine own_iconst X16 hx hby at_144 (pc' := 145) rfl (z := 3) rfl ?_
  refine own_iload X16 hx hby at_145 (pc' := 147) rfl rfl ?_
  refine own_gC X16 hx hby hZ e16 Qb5_2 (J := 3) (by decide) (w := c3) (own_narC hc3) at_147 (pc' := 148) rfl ?_
  intro T20 h20 X20 e20 W20 Qb5_3
  have sfw21 := SF_b5
  replace SF_b5 := Safe.wr W20 sfw21 CHja.1 SF_b5
  replace CHja := CHja.wr W20 sfw21
  replace SNja := SNja.wr W20
  have sz22 := Nat.le_trans sz18 (Keep.of_wr W20).1
  replace V_h := V_h.other W20 ne_hd_b5
  have be23 := own_xw be19 W20 le0_b5
  have N20 := own_fr1 (sl := 3) N16 n0_b5
  have C_b5 : own_Fa Z h20 b5 .char "[C" (fun _ => True) 4 (fun y_ => .int ((own_f4 c0 c1 c2 c3) y_)) := Qb5_3.congr (fun i hi => by rcases (show i = 0 ∨ i = 1 ∨ i = 2 ∨ i = 3 by omega) with rfl | rfl | rfl | rfl <;> rfl)
  refine own_astore X20 hx hby at_148 (pc' := 150) rfl rfl (Ls' := #[.val (.int p1), .val (.long p2), .second, .val (.int p3), .val (.int p4), .val (.int (Int32.ofNat H.length)), .val (.int y6), .val (.int y7), .val (.ref hd), .val (.int (Int32.ofNat nn)), .val (.int c0), .val (.int c1), .val (.int c2), .val (.int c3), .val (.ref b5), .unset, .unset, .unset, .unset, .unset, .unset, .unset, .unset, .unset, .unset, .unset]) rfl ?_
  refine own_iload X20 hx hby at_150 (pc' := 152) rfl rfl ?_
  have hcb : own_Cb (own_f4 c0 c1 c2 c3) nn := own_f4b hc0 hc1 hc2 hc3
  refine own_join (α := (State) × (Vm) × (Heap) × (List Loc) × (Addr)) (F := fun z => z.1.setTop (mkF m 285 #[.val (.int p1), .val (.long p2), .second, .val (.int p3), .val (.int p4), .val (.int (Int32.ofNat H.length)), .val (.int y6), .val (.int y7), .val (.ref hd), .val (.int (Int32.ofNat nn)), .val (.int c0), .val (.int c1), .val (.int c2), .val (.int c3), .val (.ref b5), .unset, .unset, .unset, .unset, .unset, .unset, .unset, .unset, .unset, .unset, .unset] [(.ref z.2.2.2.2)])) (P := fun z => Stand p l e room_1 (s.setVm z.2.1) m #[(.int p1), (.long p2), (.int p3), (.int p4)] below meth c z.1 z.2.2.2.1 8 38 ∧ z.1.heap = z.2.2.1 ∧ Z.Warmed39 z.2.1 ∧ z.2.1.findClass "com/example/reservation/reservation/server/TargetRequestPinLaw" = some m.cls ∧ own_Sn s z.2.1 z.2.2.1 ∧ own_CH Z own_EL s.vm h0 z.2.1 z.2.2.1 ∧ h0.size ≤ z.2.2.1.size ∧ Fr n0 z.2.2.2.1 ∧ Ext h0 z.2.2.1 ∧ (own_SV Z z.2.2.1 z.2.2.2.2 (own_f4 c0 c1 c2 c3) nn) ∧ (own_Bl Z z.2.2.1 hd H) ∧ (own_Fa Z z.2.2.1 b5 .char "[C" (fun _ => True) 4 (fun y_ => .int ((own_f4 c0 c1 c2 c3) y_)))) ?_ ?_
  ·rintro ⟨T_b, vm_b, h_b, L_b, bd⟩ hP
   dsimp only at hP ⊢
   obtain ⟨Xjb, ejb, hZ, hown, SNjb, CHjb, szjb, Njb, bejb, S_b, V_h, V_c⟩ := hP
   refine own_astore Xjb hx hby at_285 (pc' := 287) rfl rfl (Ls' := #[.val (.int p1), .val (.long p2), .second, .val (.int p3), .val (.int p4), .val (.int (Int32.ofNat H.length)), .val (.int y6), .val (.int y7), .val (.ref hd), .val (.int (Int32.ofNat nn)), .val (.int c0), .val (.int c1), .val (.int c2), .val (.int c3), .val (.ref b5), .val (.ref bd), .unset, .unset, .unset, .unset, .unset, .unset, .unset, .unset, .unset, .unset]) rfl ?_
   refine own_iloadN Xjb hx hby at_287 (pc' := 288) rfl rfl ?_
   refine own_bipush Xjb hx hby at_288 (pc' := 290) rfl (z := 8) rfl ?_
   refine own_iushr Xjb hx hby at_290 (pc' := 291) rfl ?_
   refine own_iconst Xjb hx hby at_291 (pc' := 292) rfl (z := 1) rfl ?_
   refine own_iand Xjb hx hby at_292 (pc' := 293) rfl ?_
   refine own_join (α := Int32) (F := fun zs => T_b.setTop (mkF m 301 #[.val (.int p1), .val (.long p2), .second, .val (.int p3), .val (.int p4), .val (.int (Int32.ofNat H.length)), .val (.int y6), .val (.int y7), .val (.ref hd), .val (.int (Int32.ofNat nn)), .val (.int c0), .val (.int c1), .val (.int c2), .val (.int c3), .val (.ref b5), .val (.ref bd), .unset, .unset, .unset, .unset, .unset, .unset, .unset, .unset, .unset, .unset] [(.int zs)])) (P := fun zs => True) ?_ ?_
   ·intro zs h_zs
    show own_E p.tables e below _ (T_b.setTop (mkF m 301 #[.val (.int p1), .val (.long p2), .second, .val (.int p3), .val (.int p4), .val (.int (Int32.ofNat H.length)), .val (.int y6), .val (.int y7), .val (.ref hd), .val (.int (Int32.ofNat nn)), .val (.int c0), .val (.int c1), .val (.int c2), .val (.int c3), .val (.ref b5), .val (.ref bd), .unset, .unset, .unset, .unset, .unset, .unset, .unset, .unset, .unset, .unset] [(.int zs)]))
    refine own_istore Xjb hx hby at_301 (pc' := 303) rfl (Ls' := #[.val (.int p1), .val (.long p2), .second, .val (.int p3), .val (.int p4), .val (.int (Int32.ofNat H.length)), .val (.int y6), .val (.int y7), .val (.ref hd), .val (.int (Int32.ofNat nn)), .val (.int c0), .val (.int c1), .val (.int c2), .val (.int c3), .val (.ref b5), .val (.ref bd), .val (.int zs), .unset, .unset, .unset, .unset, .unset, .unset, .unset, .unset, .unset]) rfl ?_
    refine own_newO Xjb hx hby hZ hown (ow_27 hw) (ow_28 hw) (ow_29 hw) ejb at_303 (pc' := 306) rfl (by decide) (by decide) ?_
    intro T25 h25 b25 g25 X25 e25 E25 AX25 D25
    have ne_hd_b25 : hd ≠ b25 := own_nl V_h.lt g25
    have ne_b5_b25 : b5 ≠ b25 := own_nl V_c.lt g25
    have n0_b25 : n0 ≤ b25 := Nat.le_trans (Nat.le_trans Z0 szjb) (Nat.le_of_eq g25.symm)
    have le0_b25 : h0.size ≤ b25 := Nat.le_trans szjb (Nat.le_of_eq g25.symm)
    have SF_b25 : Safe Z own_EL vm_b h_b b25 := Safe.new (Nat.le_of_eq g25.symm)
    replace SF_b25 := Safe.ext E25 CHjb.1 SF_b25
    replace SNjb := SNjb.ext E25
    replace CHjb := CHjb.ext E25
    replace S_b := S_b.ext E25
    have sz26 := Nat.le_trans szjb E25.1
    replace V_h := V_h.ext E25
    replace V_c := V_c.ext E25
    have be27 := own_xt bejb E25
    have F_endpoint_b25 : Fld Z h25 b25 "com/example/reservation/reservation/server/CallbackConnection$Target" "endpoint" "Ljava/lang/String;" .null := D25 (Or.inr (ow_42 hw)) (ty := (.object "java/lang/String")) (by decide)
    have F_host_b25 : Fld Z h25 b25 "com/example/reservation/reservation/server/CallbackConnection$Target" "host" "Ljava/lang/String;" .null := D25 (Or.inr (ow_44 hw)) (ty := (.object "java/lang/String")) (by decide)
    have F_port_b25 : Fld Z h25 b25 "com/example/reservation/reservation/server/CallbackConnection$Target" "port" "I" (.int (0 : Int32)) := D25 (Or.inr (ow_46 hw)) (ty := .int) (by decide)
    have F_secure_b25 : Fld Z h25 b25 "com/example/reservation/reservation/server/CallbackConnection$Target" "secure" "Z" (.int (0 : Int32)) := D25 (Or.inr (ow_48 hw)) (ty := .boolean) (by decide)
    have F_head_b25 : Fld Z h25 b25 "com/example/reservation/reservation/server/CallbackConnection$Target" "head" "[B" .null := D25 (Or.inr (ow_50 hw)) (ty := (.array .byte)) (by decide)
    refine own_dup X25 hx hby at_306 (pc' := 307) rfl rfl ?_
    refine own_ldcO X25 hx hby hZ hown SNjb (CHr.refl CHjb.1) (own_ew hw) (own_ws hw) (ow_30 hw) e25 at_307 (pc' := 309) rfl (n := 44) (by decide) (by decide) (by decide) (by decide) ?_
    intro T28 vm28 h28 q28 X28 e28 hZ hown SN28 CH28 E28
    replace SF_b25 := CHr.safe CH28 AX25.lt SF_b25
    have sz29 := Nat.le_trans sz26 E28.1
    replace V_h := V_h.ext E28
    replace V_c := V_c.ext E28
    replace AX25 := AX25.ext E28
    replace F_endpoint_b25 := F_endpoint_b25.ext E28
    replace F_host_b25 := F_host_b25.ext E28
    replace F_port_b25 := F_port_b25.ext E28
    replace F_secure_b25 := F_secure_b25.ext E28
    replace F_head_b25 := F_head_b25.ext E28
    have be30 := own_xt be27 E28
    replace S_b := S_b.ext E28
    have CHt28 := CHr.trans CHjb CH28
    replace CHt28 : own_CH Z own_EL s.vm h0 vm28 h28 := CHt28
    refine own_ldcO X28 hx hby hZ hown SN28 (CHr.refl CHt28.1) (own_ew hw) (own_ws hw) (ow_31 hw) e28 at_309 (pc' := 311) rfl (n := 4) (by decide) (by decide) (by decide) (by decide) ?_
    intro T31 vm31 h31 q31 X31 e31 hZ hown SN31 CH31 E31
    replace SF_b25 := CHr.safe CH31 AX25.lt SF_b25
    have sz32 := Nat.le_trans sz29 E31.1
    replace V_h := V_h.ext E31
    replace V_c := V_c.ext E31
    replace AX25 := AX25.ext E31
    replace F_endpoint_b25 := F_endpoint_b25.ext E31
    replace F_host_b25 := F_host_b25.ext E31
    replace F_port_b25 := F_port_b25.ext E31
    replace F_secure_b25 := F_secure_b25.ext E31
    replace F_head_b25 := F_head_b25.ext E31
    have be33 := own_xt be30 E31
    replace S_b := S_b.ext E31
    have CHt31 := CHr.trans CHt28 CH31
    replace CHt31 : own_CH Z own_EL s.vm h0 vm31 h31 := CHt31
    refine own_bipush X31 hx hby at_311 (pc' := 313) rfl (z := 80) rfl ?_
    refine own_iload X31 hx hby at_313 (pc' := 315) rfl rfl ?_
    refine own_aload X31 hx hby at_315 (pc' := 317) rfl rfl rfl ?_
    refine own_specM X31 hx hby hml hZ hown rfl (ow_32 hw) (ow_33 hw) (ow_29 hw) (ow_34 hw) (by decide) (cc := 0) (ss := 0) (rm_ti l Z a0 hw b25 q28 q31 hd (80 : Int32) zs h31 n0 (Nat.le_trans Z0 sz32) n0_b25 AX25 F_endpoint_b25 F_host_b25 F_port_b25 F_secure_b25 F_head_b25) 1 rfl rfl (by decide) (by decide) rfl (argsL := [(.ref q28), (.ref q31), (.int (80 : Int32)), (.int zs), (.ref hd)]) (rest := [(.ref b25)]) opd_40 rfl rfl (Nat.le_refl _) at_317 (pc' := 320) rfl rfl e31 (by decide) (by decide) ?_
    rintro v34 T34 h34 L34 X34 e34 ⟨rfl, Nq34, Kq34, A_t, F_h⟩
    have N34 := Njb.app Nq34
    have sfk35 := (sfS SF_b25 sf0)
    replace S_b := S_b.keepT Kq34 (own_teS AX25 (by decide) (by decide) own_te0)
    replace SF_b25 := Safe.keep Kq34 sfk35 CHt31.1 SF_b25
    replace CHt31 := CHt31.keep Kq34 sfk35
    replace SN31 := SN31.keep Kq34
    have sz36 := Nat.le_trans sz32 Kq34.1
    replace V_h := V_h.keep Kq34 (own_niS ne_hd_b25 own_ni0)
    replace V_c := V_c.keep Kq34 (own_niS ne_b5_b25 own_ni0)
    replace AX25 := AX25.keep Kq34
    have be37 := own_xk be33 Kq34 (allS le0_b25 all0)
    refine own_astore X34 hx hby at_320 (pc' := 322) rfl rfl (Ls' := #[.val (.int p1), .val (.long p2), .second, .val (.int p3), .val (.int p4), .val (.int (Int32.ofNat H.length)), .val (.int y6), .val (.int y7), .val (.ref hd), .val (.int (Int32.ofNat nn)), .val (.int c0), .val (.int c1), .val (.int c2), .val (.int c3), .val (.ref b5), .val (.ref bd), .val (.int zs), .val (.ref b25), .unset, .unset, .unset, .unset, .unset, .unset, .unset, .unset]) rfl ?_
    refine own_aload X34 hx hby at_322 (pc' := 324) rfl rfl rfl ?_
    refine own_aload X34 hx hby at_324 (pc' := 326) rfl rfl rfl ?_
    have hn : nn ≤ 4 := by omega
    refine own_virtMW X34 hx hby hml hZ hown SN31 (CHr.refl CHt31.1) (ow_51 hw) (ow_52 hw) (notFace_of_selects (args := #[]) (mvT hZ (ow_54 hw))) (ow_54 hw) (ow_53 hw) (ow_29 hw) (ow_55 hw) (by decide) (cc := 10) (ss := 136) (own_ew hw) (rm_rq l Z a0 hw b25 bd hd u8 ua ui d1 d2 nn (own_f4 c0 c1 c2 c3) H G1 h34 n0 (Nat.le_trans Z0 sz36) hn hcb hH2 (S_s8.ext be37) (S_sa.ext be37) (S_u8.ext be37) (S_ua.ext be37) (S_ui.ext be37) ne8 neI (S_as.ext be37) (S_hi.ext be37) (S_lo.ext be37) (S_cs.ext be37) P5 (S_d1.ext be37) (S_d2.ext be37) (V_d1.ext be37) (V_d2.ext be37) A_t F_h V_h S_b) 0 rfl rfl (by decide) (by decide) rfl A_t (argsL := [(.ref bd)]) (rest := []) opd_41 rfl rfl (Nat.le_refl _) at_326 (pc' := 329) rfl rfl e34 (by decide) (by decide) ?_
    rintro v38 T38 vm38 h38 L38 X38 e38 hZ hown SN38 CH38 gr38 ⟨rr, rfl, lb38, Eq38, Nq38, V_r⟩
    have ne_hd_rr : hd ≠ rr := Nat.ne_of_lt (Nat.lt_of_lt_of_le V_h.lt lb38)
    have ne_b5_rr : b5 ≠ rr := Nat.ne_of_lt (Nat.lt_of_lt_of_le V_c.lt lb38)
    have ne_b25_rr : b25 ≠ rr := Nat.ne_of_lt (Nat.lt_of_lt_of_le A_t.lt lb38)
    have n0_rr : n0 ≤ rr := Nat.le_trans (Nat.le_trans Z0 sz36) lb38
    have le0_rr : h0.size ≤ rr := Nat.le_trans sz36 lb38
    have N38 := N34.app Nq38
    have sz39 := Nat.le_trans sz36 Eq38.1
    replace V_h := V_h.ext Eq38
    replace V_c := V_c.ext Eq38
    replace A_t := A_t.ext Eq38
    replace F_h := F_h.ext Eq38
    have be40 := own_xt be37 Eq38
    replace S_b := S_b.ext Eq38
    have CHt38 := CHr.trans CHt31 CH38
    replace CHt38 : own_CH Z own_EL s.vm h0 vm38 h38 := CHt38
    refine own_astore X38 hx hby at_329 (pc' := 331) rfl rfl (Ls' := #[.val (.int p1), .val (.long p2), .second, .val (.int p3), .val (.int p4), .val (.int (Int32.ofNat H.length)), .val (.int y6), .val (.int y7), .val (.ref hd), .val (.int (Int32.ofNat nn)), .val (.int c0), .val (.int c1), .val (.int c2), .val (.int c3), .val (.ref b5), .val (.ref bd), .val (.int zs), .val (.ref b25), .val (.ref rr), .unset, .unset, .unset, .unset, .unset, .unset, .unset]) rfl ?_
    refine own_bipush X38 hx hby at_331 (pc' := 333) rfl (z := 12) rfl ?_
    refine own_nB (N := 12) X38 hx hby hZ (ow_0 hw) e38 at_333 (pc' := 335) rfl (cap := 12) (Nat.le_refl _) (by decide) (by decide) (by decide) ?_
    intro T41 h41 b41 g41 X41 e41 E41 V_b41
    have ne_hd_b41 : hd ≠ b41 := own_nl V_h.lt g41
    have ne_b5_b41 : b5 ≠ b41 := own_nl V_c.lt g41
    have ne_rr_b41 : rr ≠ b41 := own_nl V_r.lt g41
    have n0_b41 : n0 ≤ b41 := Nat.le_trans (Nat.le_trans Z0 sz39) (Nat.le_of_eq g41.symm)
    have le0_b41 : h0.size ≤ b41 := Nat.le_trans sz39 (Nat.le_of_eq g41.symm)
    have SF_b41 : Safe Z own_EL vm38 h38 b41 := Safe.new (Nat.le_of_eq g41.symm)
    replace SF_b41 := Safe.ext E41 CHt38.1 SF_b41
    replace SN38 := SN38.ext E41
    replace CHt38 := CHt38.ext E41
    have sz42 := Nat.le_trans sz39 E41.1
    replace V_h := V_h.ext E41
    replace V_c := V_c.ext E41
    replace V_r := V_r.ext E41
    have be43 := own_xt be40 E41
    have VP := own_Pre.new V_b41
    refine own_astore X41 hx hby at_335 (pc' := 337) rfl rfl (Ls' := #[.val (.int p1), .val (.long p2), .second, .val (.int p3), .val (.int p4), .val (.int (Int32.ofNat H.length)), .val (.int y6), .val (.int y7), .val (.ref hd), .val (.int (Int32.ofNat nn)), .val (.int c0), .val (.int c1), .val (.int c2), .val (.int c3), .val (.ref b5), .val (.ref bd), .val (.int zs), .val (.ref b25), .val (.ref rr), .val (.ref b41), .unset, .unset, .unset, .unset, .unset, .unset]) rfl ?_
    refine own_iconst X41 hx hby at_337 (pc' := 338) rfl (z := 0) rfl ?_
    refine own_istore X41 hx hby at_338 (pc' := 340) rfl (Ls' := #[.val (.int p1), .val (.long p2), .second, .val (.int p3), .val (.int p4), .val (.int (Int32.ofNat H.length)), .val (.int y6), .val (.int y7), .val (.ref hd), .val (.int (Int32.ofNat nn)), .val (.int c0), .val (.int c1), .val (.int c2), .val (.int c3), .val (.ref b5), .val (.ref bd), .val (.int zs), .val (.ref b25), .val (.ref rr), .val (.ref b41), .val (.int (0 : Int32)), .unset, .unset, .unset, .unset, .unset]) rfl ?_
    refine own_iconst X41 hx hby at_340 (pc' := 341) rfl (z := 0) rfl ?_
    refine own_istore X41 hx hby at_341 (pc' := 343) rfl (Ls' := #[.val (.int p1), .val (.long p2), .second, .val (.int p3), .val (.int p4), .val (.int (Int32.ofNat H.length)), .val (.int y6), .val (.int y7), .val (.ref hd), .val (.int (Int32.ofNat nn)), .val (.int c0), .val (.int c1), .val (.int c2), .val (.int c3), .val (.ref b5), .val (.ref bd), .val (.int zs), .val (.ref b25), .val (.ref rr), .val (.ref b41), .val (.int (0 : Int32)), .val (.int (0 : Int32)), .unset, .unset, .unset, .unset]) rfl ?_
    have hEl := own_Ec_len hcb hn
    refine own_join (α := (State) × (Vm) × (Heap) × (List Loc) × (Nat) × (List Int32) × (Slot)) (F := fun z => z.1.setTop (mkF m 343 #[.val (.int p1), .val (.long p2), .second, .val (.int p3), .val (.int p4), .val (.int (Int32.ofNat H.length)), .val (.int y6), .val (.int y7), .val (.ref hd), .val (.int (Int32.ofNat nn)), .val (.int c0), .val (.int c1), .val (.int c2), .val (.int c3), .val (.ref b5), .val (.ref bd), .val (.int zs), .val (.ref b25), .val (.ref rr), .val (.ref b41), .val (.int (Int32.ofNat z.2.2.2.2.2.1.length)), .val (.int (Int32.ofNat z.2.2.2.2.1)), z.2.2.2.2.2.2, .unset, .unset, .unset] [])) (P := fun z => Stand p l e room_1 (s.setVm z.2.1) m #[(.int p1), (.long p2), (.int p3), (.int p4)] below meth c z.1 z.2.2.2.1 24 247 ∧ z.1.heap = z.2.2.1 ∧ Z.Warmed39 z.2.1 ∧ z.2.1.findClass "com/example/reservation/reservation/server/TargetRequestPinLaw" = some m.cls ∧ own_Sn s z.2.1 z.2.2.1 ∧ own_CH Z own_EL s.vm h0 z.2.1 z.2.2.1 ∧ h0.size ≤ z.2.2.1.size ∧ Fr n0 z.2.2.2.1 ∧ Ext h0 z.2.2.1 ∧ (own_Bl Z z.2.2.1 hd H) ∧ (own_Fa Z z.2.2.1 b5 .char "[C" (fun _ => True) 4 (fun y_ => .int ((own_f4 c0 c1 c2 c3) y_))) ∧ (own_Bl Z z.2.2.1 rr ((H ++ (own_dg (own_Ec (own_f4 c0 c1 c2 c3) nn 0).length ++ own_crlf)) ++ (own_Ec (own_f4 c0 c1 c2 c3) nn 0))) ∧ (own_Pre Z z.2.2.1 b41 12 z.2.2.2.2.2.1) ∧ (z.2.2.2.2.2.1 ++ own_Ec (own_f4 c0 c1 c2 c3) nn z.2.2.2.2.1 = (own_Ec (own_f4 c0 c1 c2 c3) nn 0)) ∧ (nn ≤ z.2.2.2.2.1 + 4) ∧ (own_s1 z.2.2.2.2.2.2) ∧ (z.2.2.2.2.1 ≤ 0) ∧ (Safe Z own_EL z.2.1 z.2.2.1 b41)) ?_ ?_
    ·rintro ⟨T_c0, vm_c0, h_c0, L_c0, i, out, u22⟩ hP
     dsimp only at hP ⊢
     obtain ⟨Xjc0, ejc0, hZ, hown, SNjc0, CHjc0, szjc0, Njc0, bejc0, V_h, V_c, V_r, VP, hE, hik, hu, hi16, SF_b41⟩ := hP
     refine own_join (α := (State) × (Vm) × (Heap) × (List Loc) × (Nat) × (List Int32) × (Slot)) (F := fun z => z.1.setTop (mkF m 389 #[.val (.int p1), .val (.long p2), .second, .val (.int p3), .val (.int p4), .val (.int (Int32.ofNat H.length)), .val (.int y6), .val (.int y7), .val (.ref hd), .val (.int (Int32.ofNat nn)), .val (.int c0), .val (.int c1), .val (.int c2), .val (.int c3), .val (.ref b5), .val (.ref bd), .val (.int zs), .val (.ref b25), .val (.ref rr), .val (.ref b41), .val (.int (Int32.ofNat z.2.2.2.2.2.1.length)), .val (.int (Int32.ofNat z.2.2.2.2.1)), z.2.2.2.2.2.2, .unset, .unset, .unset] [])) (P := fun z => Stand p l e room_1 (s.setVm z.2.1) m #[(.int p1), (.long p2), (.int p3), (.int p4)] below meth c z.1 z.2.2.2.1 24 247 ∧ z.1.heap = z.2.2.1 ∧ Z.Warmed39 z.2.1 ∧ z.2.1.findClass "com/example/reservation/reservation/server/TargetRequestPinLaw" = some m.cls ∧ own_Sn s z.2.1 z.2.2.1 ∧ own_CH Z own_EL s.vm h0 z.2.1 z.2.2.1 ∧ h0.size ≤ z.2.2.1.size ∧ Fr n0 z.2.2.2.1 ∧ Ext h0 z.2.2.1 ∧ (own_Bl Z z.2.2.1 hd H) ∧ (own_Fa Z z.2.2.1 b5 .char "[C" (fun _ => True) 4 (fun y_ => .int ((own_f4 c0 c1 c2 c3) y_))) ∧ (own_Bl Z z.2.2.1 rr ((H ++ (own_dg (own_Ec (own_f4 c0 c1 c2 c3) nn 0).length ++ own_crlf)) ++ (own_Ec (own_f4 c0 c1 c2 c3) nn 0))) ∧ (own_Pre Z z.2.2.1 b41 12 z.2.2.2.2.2.1) ∧ (z.2.2.2.2.2.1 ++ own_Ec (own_f4 c0 c1 c2 c3) nn z.2.2.2.2.1 = (own_Ec (own_f4 c0 c1 c2 c3) nn 0)) ∧ (nn ≤ z.2.2.2.2.1 + 3) ∧ (own_s1 z.2.2.2.2.2.2) ∧ (z.2.2.2.2.1 ≤ 2) ∧ (Safe Z own_EL z.2.1 z.2.2.1 b41)) ?_ ?_
     ·rintro ⟨T_c1, vm_c1, h_c1, L_c1, i, out, u22⟩ hP
      dsimp only at hP ⊢
      obtain ⟨Xjc1, ejc1, hZ, hown, SNjc1, CHjc1, szjc1, Njc1, bejc1, V_h, V_c, V_r, VP, hE, hik, hu, hi16, SF_b41⟩ := hP
      refine own_join (α := (State) × (Vm) × (Heap) × (List Loc) × (Nat) × (List Int32) × (Slot)) (F := fun z => z.1.setTop (mkF m 435 #[.val (.int p1), .val (.long p2), .second, .val (.int p3), .val (.int p4), .val (.int (Int32.ofNat H.length)), .val (.int y6), .val (.int y7), .val (.ref hd), .val (.int (Int32.ofNat nn)), .val (.int c0), .val (.int c1), .val (.int c2), .val (.int c3), .val (.ref b5), .val (.ref bd), .val (.int zs), .val (.ref b25), .val (.ref rr), .val (.ref b41), .val (.int (Int32.ofNat z.2.2.2.2.2.1.length)), .val (.int (Int32.ofNat z.2.2.2.2.1)), z.2.2.2.2.2.2, .unset, .unset, .unset] [])) (P := fun z => Stand p l e room_1 (s.setVm z.2.1) m #[(.int p1), (.long p2), (.int p3), (.int p4)] below meth c z.1 z.2.2.2.1 24 247 ∧ z.1.heap = z.2.2.1 ∧ Z.Warmed39 z.2.1 ∧ z.2.1.findClass "com/example/reservation/reservation/server/TargetRequestPinLaw" = some m.cls ∧ own_Sn s z.2.1 z.2.2.1 ∧ own_CH Z own_EL s.vm h0 z.2.1 z.2.2.1 ∧ h0.size ≤ z.2.2.1.size ∧ Fr n0 z.2.2.2.1 ∧ Ext h0 z.2.2.1 ∧ (own_Bl Z z.2.2.1 hd H) ∧ (own_Fa Z z.2.2.1 b5 .char "[C" (fun _ => True) 4 (fun y_ => .int ((own_f4 c0 c1 c2 c3) y_))) ∧ (own_Bl Z z.2.2.1 rr ((H ++ (own_dg (own_Ec (own_f4 c0 c1 c2 c3) nn 0).length ++ own_crlf)) ++ (own_Ec (own_f4 c0 c1 c2 c3) nn 0))) ∧ (own_Pre Z z.2.2.1 b41 12 z.2.2.2.2.2.1) ∧ (z.2.2.2.2.2.1 ++ own_Ec (own_f4 c0 c1 c2 c3) nn z.2.2.2.2.1 = (own_Ec (own_f4 c0 c1 c2 c3) nn 0)) ∧ (nn ≤ z.2.2.2.2.1 + 2) ∧ (own_s1 z.2.2.2.2.2.2) ∧ (z.2.2.2.2.1 ≤ 4) ∧ (Safe Z own_EL z.2.1 z.2.2.1 b41)) ?_ ?_
      ·rintro ⟨T_c2, vm_c2, h_c2, L_c2, i, out, u22⟩ hP
       dsimp only at hP ⊢
       obtain ⟨Xjc2, ejc2, hZ, hown, SNjc2, CHjc2, szjc2, Njc2, bejc2, V_h, V_c, V_r, VP, hE, hik, hu, hi16, SF_b41⟩ := hP
       refine own_join (α := (State) × (Vm) × (Heap) × (List Loc) × (Nat) × (List Int32) × (Slot)) (F := fun z => z.1.setTop (mkF m 481 #[.val (.int p1), .val (.long p2), .second, .val (.int p3), .val (.int p4), .val (.int (Int32.ofNat H.length)), .val (.int y6), .val (.int y7), .val (.ref hd), .val (.int (Int32.ofNat nn)), .val (.int c0), .val (.int c1), .val (.int c2), .val (.int c3), .val (.ref b5), .val (.ref bd), .val (.int zs), .val (.ref b25), .val (.ref rr), .val (.ref b41), .val (.int (Int32.ofNat z.2.2.2.2.2.1.length)), .val (.int (Int32.ofNat z.2.2.2.2.1)), z.2.2.2.2.2.2, .unset, .unset, .unset] [])) (P := fun z => Stand p l e room_1 (s.setVm z.2.1) m #[(.int p1), (.long p2), (.int p3), (.int p4)] below meth c z.1 z.2.2.2.1 24 247 ∧ z.1.heap = z.2.2.1 ∧ Z.Warmed39 z.2.1 ∧ z.2.1.findClass "com/example/reservation/reservation/server/TargetRequestPinLaw" = some m.cls ∧ own_Sn s z.2.1 z.2.2.1 ∧ own_CH Z own_EL s.vm h0 z.2.1 z.2.2.1 ∧ h0.size ≤ z.2.2.1.size ∧ Fr n0 z.2.2.2.1 ∧ Ext h0 z.2.2.1 ∧ (own_Bl Z z.2.2.1 hd H) ∧ (own_Fa Z z.2.2.1 b5 .char "[C" (fun _ => True) 4 (fun y_ => .int ((own_f4 c0 c1 c2 c3) y_))) ∧ (own_Bl Z z.2.2.1 rr ((H ++ (own_dg (own_Ec (own_f4 c0 c1 c2 c3) nn 0).length ++ own_crlf)) ++ (own_Ec (own_f4 c0 c1 c2 c3) nn 0))) ∧ (own_Pre Z z.2.2.1 b41 12 z.2.2.2.2.2.1) ∧ (z.2.2.2.2.2.1 ++ own_Ec (own_f4 c0 c1 c2 c3) nn z.2.2.2.2.1 = (own_Ec (own_f4 c0 c1 c2 c3) nn 0)) ∧ (nn ≤ z.2.2.2.2.1 + 1) ∧ (own_s1 z.2.2.2.2.2.2) ∧ (z.2.2.2.2.1 ≤ 6) ∧ (Safe Z own_EL z.2.1 z.2.2.1 b41)) ?_ ?_
       ·rintro ⟨T_c3, vm_c3, h_c3, L_c3, i, out, u22⟩ hP
        dsimp only at hP ⊢
        obtain ⟨Xjc3, ejc3, hZ, hown, SNjc3, CHjc3, szjc3, Njc3, bejc3, V_h, V_c, V_r, VP, hE, hik, hu, hi16, SF_b41⟩ := hP
        refine own_join (α := (State) × (Vm) × (Heap) × (List Loc) × (Nat) × (List Int32) × (Slot)) (F := fun z => z.1.setTop (mkF m 527 #[.val (.int p1), .val (.long p2), .second, .val (.int p3), .val (.int p4), .val (.int (Int32.ofNat H.length)), .val (.int y6), .val (.int y7), .val (.ref hd), .val (.int (Int32.ofNat nn)), .val (.int c0), .val (.int c1), .val (.int c2), .val (.int c3), .val (.ref b5), .val (.ref bd), .val (.int zs), .val (.ref b25), .val (.ref rr), .val (.ref b41), .val (.int (Int32.ofNat z.2.2.2.2.2.1.length)), .val (.int (Int32.ofNat z.2.2.2.2.1)), z.2.2.2.2.2.2, .unset, .unset, .unset] [])) (P := fun z => Stand p l e room_1 (s.setVm z.2.1) m #[(.int p1), (.long p2), (.int p3), (.int p4)] below meth c z.1 z.2.2.2.1 24 247 ∧ z.1.heap = z.2.2.1 ∧ Z.Warmed39 z.2.1 ∧ z.2.1.findClass "com/example/reservation/reservation/server/TargetRequestPinLaw" = some m.cls ∧ own_Sn s z.2.1 z.2.2.1 ∧ own_CH Z own_EL s.vm h0 z.2.1 z.2.2.1 ∧ h0.size ≤ z.2.2.1.size ∧ Fr n0 z.2.2.2.1 ∧ Ext h0 z.2.2.1 ∧ (own_Bl Z z.2.2.1 hd H) ∧ (own_Fa Z z.2.2.1 b5 .char "[C" (fun _ => True) 4 (fun y_ => .int ((own_f4 c0 c1 c2 c3) y_))) ∧ (own_Bl Z z.2.2.1 rr ((H ++ (own_dg (own_Ec (own_f4 c0 c1 c2 c3) nn 0).length ++ own_crlf)) ++ (own_Ec (own_f4 c0 c1 c2 c3) nn 0))) ∧ (own_Pre Z z.2.2.1 b41 12 z.2.2.2.2.2.1) ∧ (z.2.2.2.2.2.1 ++ own_Ec (own_f4 c0 c1 c2 c3) nn z.2.2.2.2.1 = (own_Ec (own_f4 c0 c1 c2 c3) nn 0)) ∧ (nn ≤ z.2.2.2.2.1 + 0) ∧ (own_s1 z.2.2.2.2.2.2) ∧ (z.2.2.2.2.1 ≤ 8) ∧ (Safe Z own_EL z.2.1 z.2.2.1 b41)) ?_ ?_
        ·rintro ⟨T_c4, vm_c4, h_c4, L_c4, i, out, u22⟩ hP
         dsimp only at hP ⊢
         obtain ⟨Xjc4, ejc4, hZ, hown, SNjc4, CHjc4, szjc4, Njc4, bejc4, V_h, V_c, V_r, VP, hE, hik, hu, hi16, SF_b41⟩ := hP
         have hEo : out = (own_Ec (own_f4 c0 c1 c2 c3) nn 0) := by rw [own_Ec_end (by omega), List.append_nil] at hE; exact hE
         have hol : out.length < 13 := by rw [hEo]; exact hEl
         refine own_bipush Xjc4 hx hby at_527 (pc' := 529) rfl (z := 6) rfl ?_
         refine own_nB (N := 6) Xjc4 hx hby hZ (ow_0 hw) ejc4 at_529 (pc' := 531) rfl (cap := 6) (Nat.le_refl _) (by decide) (by decide) (by decide) ?_
         intro T44 h44 b44 g44 X44 e44 E44 V_b44
         have ne_hd_b44 : hd ≠ b44 := own_nl V_h.lt g44
         have ne_b5_b44 : b5 ≠ b44 := own_nl V_c.lt g44
         have ne_rr_b44 : rr ≠ b44 := own_nl V_r.lt g44
         have ne_b41_b44 : b41 ≠ b44 := own_nl VP.lt g44
         have n0_b44 : n0 ≤ b44 := Nat.le_trans (Nat.le_trans Z0 szjc4) (Nat.le_of_eq g44.symm)
         have le0_b44 : h0.size ≤ b44 := Nat.le_trans szjc4 (Nat.le_of_eq g44.symm)
         have SF_b44 : Safe Z own_EL vm_c4 h_c4 b44 := Safe.new (Nat.le_of_eq g44.symm)
         replace SF_b41 := Safe.ext E44 CHjc4.1 SF_b41
         replace SF_b44 := Safe.ext E44 CHjc4.1 SF_b44
         replace SNjc4 := SNjc4.ext E44
         replace CHjc4 := CHjc4.ext E44
         have sz45 := Nat.le_trans szjc4 E44.1
         replace V_h := V_h.ext E44
         replace V_c := V_c.ext E44
         replace V_r := V_r.ext E44
         replace VP := VP.ext E44
         have be46 := own_xt bejc4 E44
         have VM := own_Pre.new V_b44
         refine own_astore X44 hx hby at_531 (pc' := 533) rfl rfl (Ls' := #[.val (.int p1), .val (.long p2), .second, .val (.int p3), .val (.int p4), .val (.int (Int32.ofNat H.length)), .val (.int y6), .val (.int y7), .val (.ref hd), .val (.int (Int32.ofNat nn)), .val (.int c0), .val (.int c1), .val (.int c2), .val (.int c3), .val (.ref b5), .val (.ref bd), .val (.int zs), .val (.ref b25), .val (.ref rr), .val (.ref b41), .val (.int (Int32.ofNat out.length)), .val (.int (Int32.ofNat i)), .val (.ref b44), .unset, .unset, .unset]) (own_s26 hu rfl) ?_
         refine own_iload X44 hx hby at_533 (pc' := 535) rfl rfl ?_
         refine own_bipush X44 hx hby at_535 (pc' := 537) rfl (z := 10) rfl ?_
         refine own_join (α := (State) × (Vm) × (Heap) × (List Loc) × (List Int32)) (F := fun z => z.1.setTop (mkF m 578 #[.val (.int p1), .val (.long p2), .second, .val (.int p3), .val (.int p4), .val (.int (Int32.ofNat H.length)), .val (.int y6), .val (.int y7), .val (.ref hd), .val (.int (Int32.ofNat nn)), .val (.int c0), .val (.int c1), .val (.int c2), .val (.int c3), .val (.ref b5), .val (.ref bd), .val (.int zs), .val (.ref b25), .val (.ref rr), .val (.ref b41), .val (.int (Int32.ofNat out.length)), .val (.int (Int32.ofNat i)), .val (.ref b44), .val (.int (Int32.ofNat z.2.2.2.2.length)), .unset, .unset] [])) (P := fun z => Stand p l e room_1 (s.setVm z.2.1) m #[(.int p1), (.long p2), (.int p3), (.int p4)] below meth c z.1 z.2.2.2.1 25 253 ∧ z.1.heap = z.2.2.1 ∧ Z.Warmed39 z.2.1 ∧ z.2.1.findClass "com/example/reservation/reservation/server/TargetRequestPinLaw" = some m.cls ∧ own_Sn s z.2.1 z.2.2.1 ∧ own_CH Z own_EL s.vm h0 z.2.1 z.2.2.1 ∧ h0.size ≤ z.2.2.1.size ∧ Fr n0 z.2.2.2.1 ∧ Ext h0 z.2.2.1 ∧ (own_Bl Z z.2.2.1 hd H) ∧ (own_Fa Z z.2.2.1 b5 .char "[C" (fun _ => True) 4 (fun y_ => .int ((own_f4 c0 c1 c2 c3) y_))) ∧ (own_Bl Z z.2.2.1 rr ((H ++ (own_dg (own_Ec (own_f4 c0 c1 c2 c3) nn 0).length ++ own_crlf)) ++ (own_Ec (own_f4 c0 c1 c2 c3) nn 0))) ∧ (own_Pre Z z.2.2.1 b41 12 out) ∧ (own_Pre Z z.2.2.1 b44 6 z.2.2.2.2) ∧ (z.2.2.2.2 = own_dg out.length) ∧ (Safe Z own_EL z.2.1 z.2.2.1 b44)) ?_ ?_
         ·rintro ⟨T_m, vm_m, h_m, L_m, M⟩ hP
          dsimp only at hP ⊢
          obtain ⟨Xjm, ejm, hZ, hown, SNjm, CHjm, szjm, Njm, bejm, V_h, V_c, V_r, VP, VM, hM, SF_b44⟩ := hP
          have hM2 : M.length ≤ 2 := by rw [hM]; exact own_dgl
          refine own_aload Xjm hx hby at_578 (pc' := 580) rfl rfl rfl ?_
          refine own_iload Xjm hx hby at_580 (pc' := 582) rfl rfl ?_
          refine own_bipush Xjm hx hby at_582 (pc' := 584) rfl (z := 13) rfl ?_
          refine own_gP Xjm hx hby hZ ejm VM (by omega) (w := (13 : Int32)) rfl rfl at_584 (pc' := 585) rfl ?_
          intro T47 h47 X47 e47 W47 Q47
          have sfw48 := SF_b44
          replace SF_b44 := Safe.wr W47 sfw48 CHjm.1 SF_b44
          replace CHjm := CHjm.wr W47 sfw48
          replace SNjm := SNjm.wr W47
          have sz49 := Nat.le_trans szjm (Keep.of_wr W47).1
          replace V_h := V_h.other W47 ne_hd_b44
          replace V_c := V_c.other W47 ne_b5_b44
          replace V_r := V_r.other W47 ne_rr_b44
          replace VP := VP.other W47 ne_b41_b44
          have be50 := own_xw bejm W47 le0_b44
          replace VM := Q47
          have N47 := own_fr1 (sl := (M : List Int32).length) Njm n0_b44
          refine own_aload X47 hx hby at_585 (pc' := 587) rfl rfl rfl ?_
          refine own_iload X47 hx hby at_587 (pc' := 589) rfl rfl ?_
          refine own_iconst X47 hx hby at_589 (pc' := 590) rfl (z := 1) rfl ?_
          refine own_iadd X47 hx hby at_590 (pc' := 591) rfl ?_
          refine own_bipush X47 hx hby at_591 (pc' := 593) rfl (z := 10) rfl ?_
          refine own_gP X47 hx hby hZ e47 VM (by simp; omega) (w := (10 : Int32)) rfl (own_j (k := 1) (by simp)) at_593 (pc' := 594) rfl ?_
          intro T51 h51 X51 e51 W51 Q51
          have sfw52 := SF_b44
          replace SF_b44 := Safe.wr W51 sfw52 CHjm.1 SF_b44
          replace CHjm := CHjm.wr W51 sfw52
          replace SNjm := SNjm.wr W51
          have sz53 := Nat.le_trans sz49 (Keep.of_wr W51).1
          replace V_h := V_h.other W51 ne_hd_b44
          replace V_c := V_c.other W51 ne_b5_b44
          replace V_r := V_r.other W51 ne_rr_b44
          replace VP := VP.other W51 ne_b41_b44
          have be54 := own_xw be50 W51 le0_b44
          replace VM := Q51
          have N51 := own_fr1 (sl := ((M ++ [(13 : Int32)]) : List Int32).length) N47 n0_b44
          refine own_aload X51 hx hby at_594 (pc' := 596) rfl rfl rfl ?_
          refine own_iload X51 hx hby at_596 (pc' := 598) rfl rfl ?_
          refine own_iconst X51 hx hby at_598 (pc' := 599) rfl (z := 2) rfl ?_
          refine own_iadd X51 hx hby at_599 (pc' := 600) rfl ?_
          refine own_bipush X51 hx hby at_600 (pc' := 602) rfl (z := 13) rfl ?_
          refine own_gP X51 hx hby hZ e51 VM (by simp; omega) (w := (13 : Int32)) rfl (own_j (k := 2) (by simp)) at_602 (pc' := 603) rfl ?_
          intro T55 h55 X55 e55 W55 Q55
          have sfw56 := SF_b44
          replace SF_b44 := Safe.wr W55 sfw56 CHjm.1 SF_b44
          replace CHjm := CHjm.wr W55 sfw56
          replace SNjm := SNjm.wr W55
          have sz57 := Nat.le_trans sz53 (Keep.of_wr W55).1
          replace V_h := V_h.other W55 ne_hd_b44
          replace V_c := V_c.other W55 ne_b5_b44
          replace V_r := V_r.other W55 ne_rr_b44
          replace VP := VP.other W55 ne_b41_b44
          have be58 := own_xw be54 W55 le0_b44
          replace VM := Q55
          have N55 := own_fr1 (sl := (((M ++ [(13 : Int32)]) ++ [(10 : Int32)]) : List Int32).length) N51 n0_b44
          refine own_aload X55 hx hby at_603 (pc' := 605) rfl rfl rfl ?_
          refine own_iload X55 hx hby at_605 (pc' := 607) rfl rfl ?_
          refine own_iconst X55 hx hby at_607 (pc' := 608) rfl (z := 3) rfl ?_
          refine own_iadd X55 hx hby at_608 (pc' := 609) rfl ?_
          refine own_bipush X55 hx hby at_609 (pc' := 611) rfl (z := 10) rfl ?_
          refine own_gP X55 hx hby hZ e55 VM (by simp; omega) (w := (10 : Int32)) rfl (own_j (k := 3) (by simp)) at_611 (pc' := 612) rfl ?_
          intro T59 h59 X59 e59 W59 Q59
          have sfw60 := SF_b44
          replace SF_b44 := Safe.wr W59 sfw60 CHjm.1 SF_b44
          replace CHjm := CHjm.wr W59 sfw60
          replace SNjm := SNjm.wr W59
          have sz61 := Nat.le_trans sz57 (Keep.of_wr W59).1
          replace V_h := V_h.other W59 ne_hd_b44
          replace V_c := V_c.other W59 ne_b5_b44
          replace V_r := V_r.other W59 ne_rr_b44
          replace VP := VP.other W59 ne_b41_b44
          have be62 := own_xw be58 W59 le0_b44
          replace VM := Q59
          have N59 := own_fr1 (sl := ((((M ++ [(13 : Int32)]) ++ [(10 : Int32)]) ++ [(13 : Int32)]) : List Int32).length) N55 n0_b44
          refine own_iload X59 hx hby at_612 (pc' := 614) rfl rfl ?_
          refine own_iconst X59 hx hby at_614 (pc' := 615) rfl (z := 4) rfl ?_
          refine own_iadd X59 hx hby at_615 (pc' := 616) rfl ?_
          rw [show (Int32.ofNat M.length + (4 : Int32)) = Int32.ofNat (M ++ own_crlf).length from own_j (k := 4) (by simp)]
          have VM2 : own_Pre Z h59 b44 6 (M ++ own_crlf) := by simpa [List.append_assoc] using VM
          have V_r2 : own_Bl Z h59 rr ((H ++ (M ++ own_crlf)) ++ out) := by rw [hM, hEo]; exact V_r
          refine own_istore X59 hx hby at_616 (pc' := 618) rfl (Ls' := #[.val (.int p1), .val (.long p2), .second, .val (.int p3), .val (.int p4), .val (.int (Int32.ofNat H.length)), .val (.int y6), .val (.int y7), .val (.ref hd), .val (.int (Int32.ofNat nn)), .val (.int c0), .val (.int c1), .val (.int c2), .val (.int c3), .val (.ref b5), .val (.ref bd), .val (.int zs), .val (.ref b25), .val (.ref rr), .val (.ref b41), .val (.int (Int32.ofNat out.length)), .val (.int (Int32.ofNat i)), .val (.ref b44), .val (.int (Int32.ofNat M.length)), .val (.int (Int32.ofNat (M ++ own_crlf).length)), .unset]) rfl ?_
          refine own_aload X59 hx hby at_618 (pc' := 620) rfl rfl rfl ?_
          refine own_fL X59 hx hby hZ e59 V_r2 at_620 (pc' := 621) rfl ?_
          refine own_iload X59 hx hby at_621 (pc' := 623) rfl rfl ?_
          refine own_iload X59 hx hby at_623 (pc' := 625) rfl rfl ?_
          refine own_iadd X59 hx hby at_625 (pc' := 626) rfl ?_
          refine own_iload X59 hx hby at_626 (pc' := 628) rfl rfl ?_
          refine own_iadd X59 hx hby at_628 (pc' := 629) rfl ?_
          refine own_icmpN X59 hx hby at_629 (pc' := 632) rfl (teq own_len3).2 ?_
          refine own_iconst X59 hx hby at_632 (pc' := 633) rfl (z := 1) rfl ?_
          refine own_goto X59 hx hby at_633 (by decide) (pc' := 637) (by decide) ?_
          refine own_istore X59 hx hby at_637 (pc' := 639) rfl (Ls' := #[.val (.int p1), .val (.long p2), .second, .val (.int p3), .val (.int p4), .val (.int (Int32.ofNat H.length)), .val (.int y6), .val (.int y7), .val (.ref hd), .val (.int (Int32.ofNat nn)), .val (.int c0), .val (.int c1), .val (.int c2), .val (.int c3), .val (.ref b5), .val (.ref bd), .val (.int zs), .val (.ref b25), .val (.ref rr), .val (.ref b41), .val (.int (Int32.ofNat out.length)), .val (.int (Int32.ofNat i)), .val (.ref b44), .val (.int (Int32.ofNat M.length)), .val (.int (Int32.ofNat (M ++ own_crlf).length)), .val (.int (1 : Int32))]) rfl ?_
          refine own_iload X59 hx hby at_639 (pc' := 641) rfl rfl ?_
          refine own_ifN X59 hx hby at_641 (pc' := 644) rfl (feq (by decide)).1 ?_
          refine own_aload X59 hx hby at_644 (pc' := 646) rfl rfl rfl ?_
          refine own_iconst X59 hx hby at_646 (pc' := 647) rfl (z := 0) rfl ?_
          refine own_aload X59 hx hby at_647 (pc' := 649) rfl rfl rfl ?_
          refine own_iload X59 hx hby at_649 (pc' := 651) rfl rfl ?_
          refine own_aload X59 hx hby at_651 (pc' := 653) rfl rfl rfl ?_
          refine own_iload X59 hx hby at_653 (pc' := 655) rfl rfl ?_
          refine own_aload X59 hx hby at_655 (pc' := 657) rfl rfl rfl ?_
          refine own_iload X59 hx hby at_657 (pc' := 659) rfl rfl ?_
          refine own_callM X59 hx hby hml hZ hown (ow_227 hw) (ow_228 hw) (ow_4 hw) (ow_229 hw) (by decide) (cc := 0) (ss := 0) (rm_same l Z a0 hw rr hd b44 b41 H.length 6 12 0 H (M ++ own_crlf) out h59 n0 (Nat.le_trans Z0 sz61) (by decide) (own_Bl.pre V_h) VM2 VP V_r2) 0 rfl rfl (by decide) (by decide) rfl (argsL := [(.ref rr), (.int (0 : Int32)), (.ref hd), (.int (Int32.ofNat H.length)), (.ref b44), (.int (Int32.ofNat (M ++ own_crlf).length)), (.ref b41), (.int (Int32.ofNat out.length))]) (rest := []) opd_42 rfl rfl (Nat.le_refl _) at_659 (pc' := 662) rfl rfl e59 (by decide) (by decide) ?_
          rintro v63 T63 h63 L63 X63 e63 ⟨rfl, Nq63, rfl⟩
          have N63 := N59.app Nq63
          refine own_ifN X63 hx hby at_662 (pc' := 665) rfl (feq (by decide)).1 ?_
          refine own_iconst X63 hx hby at_665 (pc' := 666) rfl (z := 1) rfl ?_
          refine own_goto X63 hx hby at_666 (by decide) (pc' := 670) (by decide) ?_
          refine own_istore X63 hx hby at_670 (pc' := 672) rfl (Ls' := #[.val (.int p1), .val (.long p2), .second, .val (.int p3), .val (.int p4), .val (.int (Int32.ofNat H.length)), .val (.int y6), .val (.int y7), .val (.ref hd), .val (.int (Int32.ofNat nn)), .val (.int c0), .val (.int c1), .val (.int c2), .val (.int c3), .val (.ref b5), .val (.ref bd), .val (.int zs), .val (.ref b25), .val (.ref rr), .val (.ref b41), .val (.int (Int32.ofNat out.length)), .val (.int (Int32.ofNat i)), .val (.ref b44), .val (.int (Int32.ofNat M.length)), .val (.int (Int32.ofNat (M ++ own_crlf).length)), .val (.int (1 : Int32))]) rfl ?_
          refine own_iload X63 hx hby at_672 (pc' := 674) rfl rfl ?_
          refine own_ifN X63 hx hby at_674 (pc' := 677) rfl (feq (by decide)).1 ?_
          refine own_aload X63 hx hby at_677 (pc' := 679) rfl rfl rfl ?_
          refine own_iconst X63 hx hby at_679 (pc' := 680) rfl (z := 1) rfl ?_
          refine own_aload X63 hx hby at_680 (pc' := 682) rfl rfl rfl ?_
          refine own_iload X63 hx hby at_682 (pc' := 684) rfl rfl ?_
          refine own_aload X63 hx hby at_684 (pc' := 686) rfl rfl rfl ?_
          refine own_iload X63 hx hby at_686 (pc' := 688) rfl rfl ?_
          refine own_aload X63 hx hby at_688 (pc' := 690) rfl rfl rfl ?_
          refine own_iload X63 hx hby at_690 (pc' := 692) rfl rfl ?_
          refine own_callM X63 hx hby hml hZ hown (ow_227 hw) (ow_228 hw) (ow_4 hw) (ow_229 hw) (by decide) (cc := 0) (ss := 0) (rm_same l Z a0 hw rr hd b44 b41 H.length 6 12 1 H (M ++ own_crlf) out h59 n0 (Nat.le_trans Z0 sz61) (by decide) (own_Bl.pre V_h) VM2 VP V_r2) 0 rfl rfl (by decide) (by decide) rfl (argsL := [(.ref rr), (.int (1 : Int32)), (.ref hd), (.int (Int32.ofNat H.length)), (.ref b44), (.int (Int32.ofNat (M ++ own_crlf).length)), (.ref b41), (.int (Int32.ofNat out.length))]) (rest := []) opd_42 rfl rfl (Nat.le_refl _) at_692 (pc' := 695) rfl rfl e63 (by decide) (by decide) ?_
          rintro v64 T64 h64 L64 X64 e64 ⟨rfl, Nq64, rfl⟩
          have N64 := N63.app Nq64
          refine own_ifN X64 hx hby at_695 (pc' := 698) rfl (feq (by decide)).1 ?_
          refine own_iconst X64 hx hby at_698 (pc' := 699) rfl (z := 1) rfl ?_
          refine own_goto X64 hx hby at_699 (by decide) (pc' := 703) (by decide) ?_
          refine own_istore X64 hx hby at_703 (pc' := 705) rfl (Ls' := #[.val (.int p1), .val (.long p2), .second, .val (.int p3), .val (.int p4), .val (.int (Int32.ofNat H.length)), .val (.int y6), .val (.int y7), .val (.ref hd), .val (.int (Int32.ofNat nn)), .val (.int c0), .val (.int c1), .val (.int c2), .val (.int c3), .val (.ref b5), .val (.ref bd), .val (.int zs), .val (.ref b25), .val (.ref rr), .val (.ref b41), .val (.int (Int32.ofNat out.length)), .val (.int (Int32.ofNat i)), .val (.ref b44), .val (.int (Int32.ofNat M.length)), .val (.int (Int32.ofNat (M ++ own_crlf).length)), .val (.int (1 : Int32))]) rfl ?_
          refine own_iload X64 hx hby at_705 (pc' := 707) rfl rfl ?_
          refine own_ifN X64 hx hby at_707 (pc' := 710) rfl (feq (by decide)).1 ?_
          refine own_aload X64 hx hby at_710 (pc' := 712) rfl rfl rfl ?_
          refine own_iconst X64 hx hby at_712 (pc' := 713) rfl (z := 2) rfl ?_
          refine own_aload X64 hx hby at_713 (pc' := 715) rfl rfl rfl ?_
          refine own_iload X64 hx hby at_715 (pc' := 717) rfl rfl ?_
          refine own_aload X64 hx hby at_717 (pc' := 719) rfl rfl rfl ?_
          refine own_iload X64 hx hby at_719 (pc' := 721) rfl rfl ?_
          refine own_aload X64 hx hby at_721 (pc' := 723) rfl rfl rfl ?_
          refine own_iload X64 hx hby at_723 (pc' := 725) rfl rfl ?_
          refine own_callM X64 hx hby hml hZ hown (ow_227 hw) (ow_228 hw) (ow_4 hw) (ow_229 hw) (by decide) (cc := 0) (ss := 0) (rm_same l Z a0 hw rr hd b44 b41 H.length 6 12 2 H (M ++ own_crlf) out h59 n0 (Nat.le_trans Z0 sz61) (by decide) (own_Bl.pre V_h) VM2 VP V_r2) 0 rfl rfl (by decide) (by decide) rfl (argsL := [(.ref rr), (.int (2 : Int32)), (.ref hd), (.int (Int32.ofNat H.length)), (.ref b44), (.int (Int32.ofNat (M ++ own_crlf).length)), (.ref b41), (.int (Int32.ofNat out.length))]) (rest := []) opd_42 rfl rfl (Nat.le_refl _) at_725 (pc' := 728) rfl rfl e64 (by decide) (by decide) ?_
          rintro v65 T65 h65 L65 X65 e65 ⟨rfl, Nq65, rfl⟩
          have N65 := N64.app Nq65
          refine own_ifN X65 hx hby at_728 (pc' := 731) rfl (feq (by decide)).1 ?_
          refine own_iconst X65 hx hby at_731 (pc' := 732) rfl (z := 1) rfl ?_
          refine own_goto X65 hx hby at_732 (by decide) (pc' := 736) (by decide) ?_
          refine own_istore X65 hx hby at_736 (pc' := 738) rfl (Ls' := #[.val (.int p1), .val (.long p2), .second, .val (.int p3), .val (.int p4), .val (.int (Int32.ofNat H.length)), .val (.int y6), .val (.int y7), .val (.ref hd), .val (.int (Int32.ofNat nn)), .val (.int c0), .val (.int c1), .val (.int c2), .val (.int c3), .val (.ref b5), .val (.ref bd), .val (.int zs), .val (.ref b25), .val (.ref rr), .val (.ref b41), .val (.int (Int32.ofNat out.length)), .val (.int (Int32.ofNat i)), .val (.ref b44), .val (.int (Int32.ofNat M.length)), .val (.int (Int32.ofNat (M ++ own_crlf).length)), .val (.int (1 : Int32))]) rfl ?_
          refine own_iload X65 hx hby at_738 (pc' := 740) rfl rfl ?_
          refine own_ifN X65 hx hby at_740 (pc' := 743) rfl (feq (by decide)).1 ?_
          refine own_aload X65 hx hby at_743 (pc' := 745) rfl rfl rfl ?_
          refine own_iconst X65 hx hby at_745 (pc' := 746) rfl (z := 3) rfl ?_
          refine own_aload X65 hx hby at_746 (pc' := 748) rfl rfl rfl ?_
          refine own_iload X65 hx hby at_748 (pc' := 750) rfl rfl ?_
          refine own_aload X65 hx hby at_750 (pc' := 752) rfl rfl rfl ?_
          refine own_iload X65 hx hby at_752 (pc' := 754) rfl rfl ?_
          refine own_aload X65 hx hby at_754 (pc' := 756) rfl rfl rfl ?_
          refine own_iload X65 hx hby at_756 (pc' := 758) rfl rfl ?_
          refine own_callM X65 hx hby hml hZ hown (ow_227 hw) (ow_228 hw) (ow_4 hw) (ow_229 hw) (by decide) (cc := 0) (ss := 0) (rm_same l Z a0 hw rr hd b44 b41 H.length 6 12 3 H (M ++ own_crlf) out h59 n0 (Nat.le_trans Z0 sz61) (by decide) (own_Bl.pre V_h) VM2 VP V_r2) 0 rfl rfl (by decide) (by decide) rfl (argsL := [(.ref rr), (.int (3 : Int32)), (.ref hd), (.int (Int32.ofNat H.length)), (.ref b44), (.int (Int32.ofNat (M ++ own_crlf).length)), (.ref b41), (.int (Int32.ofNat out.length))]) (rest := []) opd_42 rfl rfl (Nat.le_refl _) at_758 (pc' := 761) rfl rfl e65 (by decide) (by decide) ?_
          rintro v66 T66 h66 L66 X66 e66 ⟨rfl, Nq66, rfl⟩
          have N66 := N65.app Nq66
          refine own_ifN X66 hx hby at_761 (pc' := 764) rfl (feq (by decide)).1 ?_
          refine own_iconst X66 hx hby at_764 (pc' := 765) rfl (z := 1) rfl ?_
          refine own_goto X66 hx hby at_765 (by decide) (pc' := 769) (by decide) ?_
          refine own_istore X66 hx hby at_769 (pc' := 771) rfl (Ls' := #[.val (.int p1), .val (.long p2), .second, .val (.int p3), .val (.int p4), .val (.int (Int32.ofNat H.length)), .val (.int y6), .val (.int y7), .val (.ref hd), .val (.int (Int32.ofNat nn)), .val (.int c0), .val (.int c1), .val (.int c2), .val (.int c3), .val (.ref b5), .val (.ref bd), .val (.int zs), .val (.ref b25), .val (.ref rr), .val (.ref b41), .val (.int (Int32.ofNat out.length)), .val (.int (Int32.ofNat i)), .val (.ref b44), .val (.int (Int32.ofNat M.length)), .val (.int (Int32.ofNat (M ++ own_crlf).length)), .val (.int (1 : Int32))]) rfl ?_
          refine own_iload X66 hx hby at_771 (pc' := 773) rfl rfl ?_
          refine own_ifN X66 hx hby at_773 (pc' := 776) rfl (feq (by decide)).1 ?_
          refine own_aload X66 hx hby at_776 (pc' := 778) rfl rfl rfl ?_
          refine own_iconst X66 hx hby at_778 (pc' := 779) rfl (z := 4) rfl ?_
          refine own_aload X66 hx hby at_779 (pc' := 781) rfl rfl rfl ?_
          refine own_iload X66 hx hby at_781 (pc' := 783) rfl rfl ?_
          refine own_aload X66 hx hby at_783 (pc' := 785) rfl rfl rfl ?_
          refine own_iload X66 hx hby at_785 (pc' := 787) rfl rfl ?_
          refine own_aload X66 hx hby at_787 (pc' := 789) rfl rfl rfl ?_
          refine own_iload X66 hx hby at_789 (pc' := 791) rfl rfl ?_
          refine own_callM X66 hx hby hml hZ hown (ow_227 hw) (ow_228 hw) (ow_4 hw) (ow_229 hw) (by decide) (cc := 0) (ss := 0) (rm_same l Z a0 hw rr hd b44 b41 H.length 6 12 4 H (M ++ own_crlf) out h59 n0 (Nat.le_trans Z0 sz61) (by decide) (own_Bl.pre V_h) VM2 VP V_r2) 0 rfl rfl (by decide) (by decide) rfl (argsL := [(.ref rr), (.int (4 : Int32)), (.ref hd), (.int (Int32.ofNat H.length)), (.ref b44), (.int (Int32.ofNat (M ++ own_crlf).length)), (.ref b41), (.int (Int32.ofNat out.length))]) (rest := []) opd_42 rfl rfl (Nat.le_refl _) at_791 (pc' := 794) rfl rfl e66 (by decide) (by decide) ?_
          rintro v67 T67 h67 L67 X67 e67 ⟨rfl, Nq67, rfl⟩
          have N67 := N66.app Nq67
          refine own_ifN X67 hx hby at_794 (pc' := 797) rfl (feq (by decide)).1 ?_
          refine own_iconst X67 hx hby at_797 (pc' := 798) rfl (z := 1) rfl ?_
          refine own_goto X67 hx hby at_798 (by decide) (pc' := 802) (by decide) ?_
          refine own_istore X67 hx hby at_802 (pc' := 804) rfl (Ls' := #[.val (.int p1), .val (.long p2), .second, .val (.int p3), .val (.int p4), .val (.int (Int32.ofNat H.length)), .val (.int y6), .val (.int y7), .val (.ref hd), .val (.int (Int32.ofNat nn)), .val (.int c0), .val (.int c1), .val (.int c2), .val (.int c3), .val (.ref b5), .val (.ref bd), .val (.int zs), .val (.ref b25), .val (.ref rr), .val (.ref b41), .val (.int (Int32.ofNat out.length)), .val (.int (Int32.ofNat i)), .val (.ref b44), .val (.int (Int32.ofNat M.length)), .val (.int (Int32.ofNat (M ++ own_crlf).length)), .val (.int (1 : Int32))]) rfl ?_
          refine own_iload X67 hx hby at_804 (pc' := 806) rfl rfl ?_
          refine own_ifN X67 hx hby at_806 (pc' := 809) rfl (feq (by decide)).1 ?_
          refine own_aload X67 hx hby at_809 (pc' := 811) rfl rfl rfl ?_
          refine own_iconst X67 hx hby at_811 (pc' := 812) rfl (z := 5) rfl ?_
          refine own_aload X67 hx hby at_812 (pc' := 814) rfl rfl rfl ?_
          refine own_iload X67 hx hby at_814 (pc' := 816) rfl rfl ?_
          refine own_aload X67 hx hby at_816 (pc' := 818) rfl rfl rfl ?_
          refine own_iload X67 hx hby at_818 (pc' := 820) rfl rfl ?_
          refine own_aload X67 hx hby at_820 (pc' := 822) rfl rfl rfl ?_
          refine own_iload X67 hx hby at_822 (pc' := 824) rfl rfl ?_
          refine own_callM X67 hx hby hml hZ hown (ow_227 hw) (ow_228 hw) (ow_4 hw) (ow_229 hw) (by decide) (cc := 0) (ss := 0) (rm_same l Z a0 hw rr hd b44 b41 H.length 6 12 5 H (M ++ own_crlf) out h59 n0 (Nat.le_trans Z0 sz61) (by decide) (own_Bl.pre V_h) VM2 VP V_r2) 0 rfl rfl (by decide) (by decide) rfl (argsL := [(.ref rr), (.int (5 : Int32)), (.ref hd), (.int (Int32.ofNat H.length)), (.ref b44), (.int (Int32.ofNat (M ++ own_crlf).length)), (.ref b41), (.int (Int32.ofNat out.length))]) (rest := []) opd_42 rfl rfl (Nat.le_refl _) at_824 (pc' := 827) rfl rfl e67 (by decide) (by decide) ?_
          rintro v68 T68 h68 L68 X68 e68 ⟨rfl, Nq68, rfl⟩
          have N68 := N67.app Nq68
          refine own_ifN X68 hx hby at_827 (pc' := 830) rfl (feq (by decide)).1 ?_
          refine own_iconst X68 hx hby at_830 (pc' := 831) rfl (z := 1) rfl ?_
          refine own_goto X68 hx hby at_831 (by decide) (pc' := 835) (by decide) ?_
          refine own_istore X68 hx hby at_835 (pc' := 837) rfl (Ls' := #[.val (.int p1), .val (.long p2), .second, .val (.int p3), .val (.int p4), .val (.int (Int32.ofNat H.length)), .val (.int y6), .val (.int y7), .val (.ref hd), .val (.int (Int32.ofNat nn)), .val (.int c0), .val (.int c1), .val (.int c2), .val (.int c3), .val (.ref b5), .val (.ref bd), .val (.int zs), .val (.ref b25), .val (.ref rr), .val (.ref b41), .val (.int (Int32.ofNat out.length)), .val (.int (Int32.ofNat i)), .val (.ref b44), .val (.int (Int32.ofNat M.length)), .val (.int (Int32.ofNat (M ++ own_crlf).length)), .val (.int (1 : Int32))]) rfl ?_
          refine own_iload X68 hx hby at_837 (pc' := 839) rfl rfl ?_
          refine own_ifN X68 hx hby at_839 (pc' := 842) rfl (feq (by decide)).1 ?_
          refine own_aload X68 hx hby at_842 (pc' := 844) rfl rfl rfl ?_
          refine own_bipush X68 hx hby at_844 (pc' := 846) rfl (z := 6) rfl ?_
          refine own_aload X68 hx hby at_846 (pc' := 848) rfl rfl rfl ?_
          refine own_iload X68 hx hby at_848 (pc' := 850) rfl rfl ?_
          refine own_aload X68 hx hby at_850 (pc' := 852) rfl rfl rfl ?_
          refine own_iload X68 hx hby at_852 (pc' := 854) rfl rfl ?_
          refine own_aload X68 hx hby at_854 (pc' := 856) rfl rfl rfl ?_
          refine own_iload X68 hx hby at_856 (pc' := 858) rfl rfl ?_
          refine own_callM X68 hx hby hml hZ hown (ow_227 hw) (ow_228 hw) (ow_4 hw) (ow_229 hw) (by decide) (cc := 0) (ss := 0) (rm_same l Z a0 hw rr hd b44 b41 H.length 6 12 6 H (M ++ own_crlf) out h59 n0 (Nat.le_trans Z0 sz61) (by decide) (own_Bl.pre V_h) VM2 VP V_r2) 0 rfl rfl (by decide) (by decide) rfl (argsL := [(.ref rr), (.int (6 : Int32)), (.ref hd), (.int (Int32.ofNat H.length)), (.ref b44), (.int (Int32.ofNat (M ++ own_crlf).length)), (.ref b41), (.int (Int32.ofNat out.length))]) (rest := []) opd_42 rfl rfl (Nat.le_refl _) at_858 (pc' := 861) rfl rfl e68 (by decide) (by decide) ?_
          rintro v69 T69 h69 L69 X69 e69 ⟨rfl, Nq69, rfl⟩
          have N69 := N68.app Nq69
          refine own_ifN X69 hx hby at_861 (pc' := 864) rfl (feq (by decide)).1 ?_
          refine own_iconst X69 hx hby at_864 (pc' := 865) rfl (z := 1) rfl ?_
          refine own_goto X69 hx hby at_865 (by decide) (pc' := 869) (by decide) ?_
          refine own_istore X69 hx hby at_869 (pc' := 871) rfl (Ls' := #[.val (.int p1), .val (.long p2), .second, .val (.int p3), .val (.int p4), .val (.int (Int32.ofNat H.length)), .val (.int y6), .val (.int y7), .val (.ref hd), .val (.int (Int32.ofNat nn)), .val (.int c0), .val (.int c1), .val (.int c2), .val (.int c3), .val (.ref b5), .val (.ref bd), .val (.int zs), .val (.ref b25), .val (.ref rr), .val (.ref b41), .val (.int (Int32.ofNat out.length)), .val (.int (Int32.ofNat i)), .val (.ref b44), .val (.int (Int32.ofNat M.length)), .val (.int (Int32.ofNat (M ++ own_crlf).length)), .val (.int (1 : Int32))]) rfl ?_
          refine own_iload X69 hx hby at_871 (pc' := 873) rfl rfl ?_
          refine own_ifN X69 hx hby at_873 (pc' := 876) rfl (feq (by decide)).1 ?_
          refine own_aload X69 hx hby at_876 (pc' := 878) rfl rfl rfl ?_
          refine own_bipush X69 hx hby at_878 (pc' := 880) rfl (z := 7) rfl ?_
          refine own_aload X69 hx hby at_880 (pc' := 882) rfl rfl rfl ?_
          refine own_iload X69 hx hby at_882 (pc' := 884) rfl rfl ?_
          refine own_aload X69 hx hby at_884 (pc' := 886) rfl rfl rfl ?_
          refine own_iload X69 hx hby at_886 (pc' := 888) rfl rfl ?_
          refine own_aload X69 hx hby at_888 (pc' := 890) rfl rfl rfl ?_
          refine own_iload X69 hx hby at_890 (pc' := 892) rfl rfl ?_
          refine own_callM X69 hx hby hml hZ hown (ow_227 hw) (ow_228 hw) (ow_4 hw) (ow_229 hw) (by decide) (cc := 0) (ss := 0) (rm_same l Z a0 hw rr hd b44 b41 H.length 6 12 7 H (M ++ own_crlf) out h59 n0 (Nat.le_trans Z0 sz61) (by decide) (own_Bl.pre V_h) VM2 VP V_r2) 0 rfl rfl (by decide) (by decide) rfl (argsL := [(.ref rr), (.int (7 : Int32)), (.ref hd), (.int (Int32.ofNat H.length)), (.ref b44), (.int (Int32.ofNat (M ++ own_crlf).length)), (.ref b41), (.int (Int32.ofNat out.length))]) (rest := []) opd_42 rfl rfl (Nat.le_refl _) at_892 (pc' := 895) rfl rfl e69 (by decide) (by decide) ?_
          rintro v70 T70 h70 L70 X70 e70 ⟨rfl, Nq70, rfl⟩
          have N70 := N69.app Nq70
          refine own_ifN X70 hx hby at_895 (pc' := 898) rfl (feq (by decide)).1 ?_
          refine own_iconst X70 hx hby at_898 (pc' := 899) rfl (z := 1) rfl ?_
          refine own_goto X70 hx hby at_899 (by decide) (pc' := 903) (by decide) ?_
          refine own_istore X70 hx hby at_903 (pc' := 905) rfl (Ls' := #[.val (.int p1), .val (.long p2), .second, .val (.int p3), .val (.int p4), .val (.int (Int32.ofNat H.length)), .val (.int y6), .val (.int y7), .val (.ref hd), .val (.int (Int32.ofNat nn)), .val (.int c0), .val (.int c1), .val (.int c2), .val (.int c3), .val (.ref b5), .val (.ref bd), .val (.int zs), .val (.ref b25), .val (.ref rr), .val (.ref b41), .val (.int (Int32.ofNat out.length)), .val (.int (Int32.ofNat i)), .val (.ref b44), .val (.int (Int32.ofNat M.length)), .val (.int (Int32.ofNat (M ++ own_crlf).length)), .val (.int (1 : Int32))]) rfl ?_
          refine own_iload X70 hx hby at_905 (pc' := 907) rfl rfl ?_
          refine own_ifN X70 hx hby at_907 (pc' := 910) rfl (feq (by decide)).1 ?_
          refine own_aload X70 hx hby at_910 (pc' := 912) rfl rfl rfl ?_
          refine own_bipush X70 hx hby at_912 (pc' := 914) rfl (z := 8) rfl ?_
          refine own_aload X70 hx hby at_914 (pc' := 916) rfl rfl rfl ?_
          refine own_iload X70 hx hby at_916 (pc' := 918) rfl rfl ?_
          refine own_aload X70 hx hby at_918 (pc' := 920) rfl rfl rfl ?_
          refine own_iload X70 hx hby at_920 (pc' := 922) rfl rfl ?_
          refine own_aload X70 hx hby at_922 (pc' := 924) rfl rfl rfl ?_
          refine own_iload X70 hx hby at_924 (pc' := 926) rfl rfl ?_
          refine own_callM X70 hx hby hml hZ hown (ow_227 hw) (ow_228 hw) (ow_4 hw) (ow_229 hw) (by decide) (cc := 0) (ss := 0) (rm_same l Z a0 hw rr hd b44 b41 H.length 6 12 8 H (M ++ own_crlf) out h59 n0 (Nat.le_trans Z0 sz61) (by decide) (own_Bl.pre V_h) VM2 VP V_r2) 0 rfl rfl (by decide) (by decide) rfl (argsL := [(.ref rr), (.int (8 : Int32)), (.ref hd), (.int (Int32.ofNat H.length)), (.ref b44), (.int (Int32.ofNat (M ++ own_crlf).length)), (.ref b41), (.int (Int32.ofNat out.length))]) (rest := []) opd_42 rfl rfl (Nat.le_refl _) at_926 (pc' := 929) rfl rfl e70 (by decide) (by decide) ?_
          rintro v71 T71 h71 L71 X71 e71 ⟨rfl, Nq71, rfl⟩
          have N71 := N70.app Nq71
          refine own_ifN X71 hx hby at_929 (pc' := 932) rfl (feq (by decide)).1 ?_
          refine own_iconst X71 hx hby at_932 (pc' := 933) rfl (z := 1) rfl ?_
          refine own_goto X71 hx hby at_933 (by decide) (pc' := 937) (by decide) ?_
          refine own_istore X71 hx hby at_937 (pc' := 939) rfl (Ls' := #[.val (.int p1), .val (.long p2), .second, .val (.int p3), .val (.int p4), .val (.int (Int32.ofNat H.length)), .val (.int y6), .val (.int y7), .val (.ref hd), .val (.int (Int32.ofNat nn)), .val (.int c0), .val (.int c1), .val (.int c2), .val (.int c3), .val (.ref b5), .val (.ref bd), .val (.int zs), .val (.ref b25), .val (.ref rr), .val (.ref b41), .val (.int (Int32.ofNat out.length)), .val (.int (Int32.ofNat i)), .val (.ref b44), .val (.int (Int32.ofNat M.length)), .val (.int (Int32.ofNat (M ++ own_crlf).length)), .val (.int (1 : Int32))]) rfl ?_
          refine own_iload X71 hx hby at_939 (pc' := 941) rfl rfl ?_
          refine own_ifN X71 hx hby at_941 (pc' := 944) rfl (feq (by decide)).1 ?_
          refine own_aload X71 hx hby at_944 (pc' := 946) rfl rfl rfl ?_
          refine own_bipush X71 hx hby at_946 (pc' := 948) rfl (z := 9) rfl ?_
          refine own_aload X71 hx hby at_948 (pc' := 950) rfl rfl rfl ?_
          refine own_iload X71 hx hby at_950 (pc' := 952) rfl rfl ?_
          refine own_aload X71 hx hby at_952 (pc' := 954) rfl rfl rfl ?_
          refine own_iload X71 hx hby at_954 (pc' := 956) rfl rfl ?_
          refine own_aload X71 hx hby at_956 (pc' := 958) rfl rfl rfl ?_
          refine own_iload X71 hx hby at_958 (pc' := 960) rfl rfl ?_
          refine own_callM X71 hx hby hml hZ hown (ow_227 hw) (ow_228 hw) (ow_4 hw) (ow_229 hw) (by decide) (cc := 0) (ss := 0) (rm_same l Z a0 hw rr hd b44 b41 H.length 6 12 9 H (M ++ own_crlf) out h59 n0 (Nat.le_trans Z0 sz61) (by decide) (own_Bl.pre V_h) VM2 VP V_r2) 0 rfl rfl (by decide) (by decide) rfl (argsL := [(.ref rr), (.int (9 : Int32)), (.ref hd), (.int (Int32.ofNat H.length)), (.ref b44), (.int (Int32.ofNat (M ++ own_crlf).length)), (.ref b41), (.int (Int32.ofNat out.length))]) (rest := []) opd_42 rfl rfl (Nat.le_refl _) at_960 (pc' := 963) rfl rfl e71 (by decide) (by decide) ?_
          rintro v72 T72 h72 L72 X72 e72 ⟨rfl, Nq72, rfl⟩
          have N72 := N71.app Nq72
          refine own_ifN X72 hx hby at_963 (pc' := 966) rfl (feq (by decide)).1 ?_
          refine own_iconst X72 hx hby at_966 (pc' := 967) rfl (z := 1) rfl ?_
          refine own_goto X72 hx hby at_967 (by decide) (pc' := 971) (by decide) ?_
          refine own_istore X72 hx hby at_971 (pc' := 973) rfl (Ls' := #[.val (.int p1), .val (.long p2), .second, .val (.int p3), .val (.int p4), .val (.int (Int32.ofNat H.length)), .val (.int y6), .val (.int y7), .val (.ref hd), .val (.int (Int32.ofNat nn)), .val (.int c0), .val (.int c1), .val (.int c2), .val (.int c3), .val (.ref b5), .val (.ref bd), .val (.int zs), .val (.ref b25), .val (.ref rr), .val (.ref b41), .val (.int (Int32.ofNat out.length)), .val (.int (Int32.ofNat i)), .val (.ref b44), .val (.int (Int32.ofNat M.length)), .val (.int (Int32.ofNat (M ++ own_crlf).length)), .val (.int (1 : Int32))]) rfl ?_
          refine own_iload X72 hx hby at_973 (pc' := 975) rfl rfl ?_
          refine own_ifN X72 hx hby at_975 (pc' := 978) rfl (feq (by decide)).1 ?_
          refine own_aload X72 hx hby at_978 (pc' := 980) rfl rfl rfl ?_
          refine own_bipush X72 hx hby at_980 (pc' := 982) rfl (z := 10) rfl ?_
          refine own_aload X72 hx hby at_982 (pc' := 984) rfl rfl rfl ?_
          refine own_iload X72 hx hby at_984 (pc' := 986) rfl rfl ?_
          refine own_aload X72 hx hby at_986 (pc' := 988) rfl rfl rfl ?_
          refine own_iload X72 hx hby at_988 (pc' := 990) rfl rfl ?_
          refine own_aload X72 hx hby at_990 (pc' := 992) rfl rfl rfl ?_
          refine own_iload X72 hx hby at_992 (pc' := 994) rfl rfl ?_
          refine own_callM X72 hx hby hml hZ hown (ow_227 hw) (ow_228 hw) (ow_4 hw) (ow_229 hw) (by decide) (cc := 0) (ss := 0) (rm_same l Z a0 hw rr hd b44 b41 H.length 6 12 10 H (M ++ own_crlf) out h59 n0 (Nat.le_trans Z0 sz61) (by decide) (own_Bl.pre V_h) VM2 VP V_r2) 0 rfl rfl (by decide) (by decide) rfl (argsL := [(.ref rr), (.int (10 : Int32)), (.ref hd), (.int (Int32.ofNat H.length)), (.ref b44), (.int (Int32.ofNat (M ++ own_crlf).length)), (.ref b41), (.int (Int32.ofNat out.length))]) (rest := []) opd_42 rfl rfl (Nat.le_refl _) at_994 (pc' := 997) rfl rfl e72 (by decide) (by decide) ?_
          rintro v73 T73 h73 L73 X73 e73 ⟨rfl, Nq73, rfl⟩
          have N73 := N72.app Nq73
          refine own_ifN X73 hx hby at_997 (pc' := 1000) rfl (feq (by decide)).1 ?_
          refine own_iconst X73 hx hby at_1000 (pc' := 1001) rfl (z := 1) rfl ?_
          refine own_goto X73 hx hby at_1001 (by decide) (pc' := 1005) (by decide) ?_
          refine own_istore X73 hx hby at_1005 (pc' := 1007) rfl (Ls' := #[.val (.int p1), .val (.long p2), .second, .val (.int p3), .val (.int p4), .val (.int (Int32.ofNat H.length)), .val (.int y6), .val (.int y7), .val (.ref hd), .val (.int (Int32.ofNat nn)), .val (.int c0), .val (.int c1), .val (.int c2), .val (.int c3), .val (.ref b5), .val (.ref bd), .val (.int zs), .val (.ref b25), .val (.ref rr), .val (.ref b41), .val (.int (Int32.ofNat out.length)), .val (.int (Int32.ofNat i)), .val (.ref b44), .val (.int (Int32.ofNat M.length)), .val (.int (Int32.ofNat (M ++ own_crlf).length)), .val (.int (1 : Int32))]) rfl ?_
          refine own_iload X73 hx hby at_1007 (pc' := 1009) rfl rfl ?_
          refine own_ifN X73 hx hby at_1009 (pc' := 1012) rfl (feq (by decide)).1 ?_
          refine own_aload X73 hx hby at_1012 (pc' := 1014) rfl rfl rfl ?_
          refine own_bipush X73 hx hby at_1014 (pc' := 1016) rfl (z := 11) rfl ?_
          refine own_aload X73 hx hby at_1016 (pc' := 1018) rfl rfl rfl ?_
          refine own_iload X73 hx hby at_1018 (pc' := 1020) rfl rfl ?_
          refine own_aload X73 hx hby at_1020 (pc' := 1022) rfl rfl rfl ?_
          refine own_iload X73 hx hby at_1022 (pc' := 1024) rfl rfl ?_
          refine own_aload X73 hx hby at_1024 (pc' := 1026) rfl rfl rfl ?_
          refine own_iload X73 hx hby at_1026 (pc' := 1028) rfl rfl ?_
          refine own_callM X73 hx hby hml hZ hown (ow_227 hw) (ow_228 hw) (ow_4 hw) (ow_229 hw) (by decide) (cc := 0) (ss := 0) (rm_same l Z a0 hw rr hd b44 b41 H.length 6 12 11 H (M ++ own_crlf) out h59 n0 (Nat.le_trans Z0 sz61) (by decide) (own_Bl.pre V_h) VM2 VP V_r2) 0 rfl rfl (by decide) (by decide) rfl (argsL := [(.ref rr), (.int (11 : Int32)), (.ref hd), (.int (Int32.ofNat H.length)), (.ref b44), (.int (Int32.ofNat (M ++ own_crlf).length)), (.ref b41), (.int (Int32.ofNat out.length))]) (rest := []) opd_42 rfl rfl (Nat.le_refl _) at_1028 (pc' := 1031) rfl rfl e73 (by decide) (by decide) ?_
          rintro v74 T74 h74 L74 X74 e74 ⟨rfl, Nq74, rfl⟩
          have N74 := N73.app Nq74
          refine own_ifN X74 hx hby at_1031 (pc' := 1034) rfl (feq (by decide)).1 ?_
          refine own_iconst X74 hx hby at_1034 (pc' := 1035) rfl (z := 1) rfl ?_
          refine own_goto X74 hx hby at_1035 (by decide) (pc' := 1039) (by decide) ?_
          refine own_istore X74 hx hby at_1039 (pc' := 1041) rfl (Ls' := #[.val (.int p1), .val (.long p2), .second, .val (.int p3), .val (.int p4), .val (.int (Int32.ofNat H.length)), .val (.int y6), .val (.int y7), .val (.ref hd), .val (.int (Int32.ofNat nn)), .val (.int c0), .val (.int c1), .val (.int c2), .val (.int c3), .val (.ref b5), .val (.ref bd), .val (.int zs), .val (.ref b25), .val (.ref rr), .val (.ref b41), .val (.int (Int32.ofNat out.length)), .val (.int (Int32.ofNat i)), .val (.ref b44), .val (.int (Int32.ofNat M.length)), .val (.int (Int32.ofNat (M ++ own_crlf).length)), .val (.int (1 : Int32))]) rfl ?_
          refine own_iload X74 hx hby at_1041 (pc' := 1043) rfl rfl ?_
          refine own_ifN X74 hx hby at_1043 (pc' := 1046) rfl (feq (by decide)).1 ?_
          refine own_aload X74 hx hby at_1046 (pc' := 1048) rfl rfl rfl ?_
          refine own_bipush X74 hx hby at_1048 (pc' := 1050) rfl (z := 12) rfl ?_
          refine own_aload X74 hx hby at_1050 (pc' := 1052) rfl rfl rfl ?_
          refine own_iload X74 hx hby at_1052 (pc' := 1054) rfl rfl ?_
          refine own_aload X74 hx hby at_1054 (pc' := 1056) rfl rfl rfl ?_
          refine own_iload X74 hx hby at_1056 (pc' := 1058) rfl rfl ?_
          refine own_aload X74 hx hby at_1058 (pc' := 1060) rfl rfl rfl ?_
          refine own_iload X74 hx hby at_1060 (pc' := 1062) rfl rfl ?_
          refine own_callM X74 hx hby hml hZ hown (ow_227 hw) (ow_228 hw) (ow_4 hw) (ow_229 hw) (by decide) (cc := 0) (ss := 0) (rm_same l Z a0 hw rr hd b44 b41 H.length 6 12 12 H (M ++ own_crlf) out h59 n0 (Nat.le_trans Z0 sz61) (by decide) (own_Bl.pre V_h) VM2 VP V_r2) 0 rfl rfl (by decide) (by decide) rfl (argsL := [(.ref rr), (.int (12 : Int32)), (.ref hd), (.int (Int32.ofNat H.length)), (.ref b44), (.int (Int32.ofNat (M ++ own_crlf).length)), (.ref b41), (.int (Int32.ofNat out.length))]) (rest := []) opd_42 rfl rfl (Nat.le_refl _) at_1062 (pc' := 1065) rfl rfl e74 (by decide) (by decide) ?_
          rintro v75 T75 h75 L75 X75 e75 ⟨rfl, Nq75, rfl⟩
          have N75 := N74.app Nq75
          refine own_ifN X75 hx hby at_1065 (pc' := 1068) rfl (feq (by decide)).1 ?_
          refine own_iconst X75 hx hby at_1068 (pc' := 1069) rfl (z := 1) rfl ?_
          refine own_goto X75 hx hby at_1069 (by decide) (pc' := 1073) (by decide) ?_
          refine own_istore X75 hx hby at_1073 (pc' := 1075) rfl (Ls' := #[.val (.int p1), .val (.long p2), .second, .val (.int p3), .val (.int p4), .val (.int (Int32.ofNat H.length)), .val (.int y6), .val (.int y7), .val (.ref hd), .val (.int (Int32.ofNat nn)), .val (.int c0), .val (.int c1), .val (.int c2), .val (.int c3), .val (.ref b5), .val (.ref bd), .val (.int zs), .val (.ref b25), .val (.ref rr), .val (.ref b41), .val (.int (Int32.ofNat out.length)), .val (.int (Int32.ofNat i)), .val (.ref b44), .val (.int (Int32.ofNat M.length)), .val (.int (Int32.ofNat (M ++ own_crlf).length)), .val (.int (1 : Int32))]) rfl ?_
          refine own_iload X75 hx hby at_1075 (pc' := 1077) rfl rfl ?_
          refine own_ifN X75 hx hby at_1077 (pc' := 1080) rfl (feq (by decide)).1 ?_
          refine own_aload X75 hx hby at_1080 (pc' := 1082) rfl rfl rfl ?_
          refine own_bipush X75 hx hby at_1082 (pc' := 1084) rfl (z := 13) rfl ?_
          refine own_aload X75 hx hby at_1084 (pc' := 1086) rfl rfl rfl ?_
          refine own_iload X75 hx hby at_1086 (pc' := 1088) rfl rfl ?_
          refine own_aload X75 hx hby at_1088 (pc' := 1090) rfl rfl rfl ?_
          refine own_iload X75 hx hby at_1090 (pc' := 1092) rfl rfl ?_
          refine own_aload X75 hx hby at_1092 (pc' := 1094) rfl rfl rfl ?_
          refine own_iload X75 hx hby at_1094 (pc' := 1096) rfl rfl ?_
          refine own_callM X75 hx hby hml hZ hown (ow_227 hw) (ow_228 hw) (ow_4 hw) (ow_229 hw) (by decide) (cc := 0) (ss := 0) (rm_same l Z a0 hw rr hd b44 b41 H.length 6 12 13 H (M ++ own_crlf) out h59 n0 (Nat.le_trans Z0 sz61) (by decide) (own_Bl.pre V_h) VM2 VP V_r2) 0 rfl rfl (by decide) (by decide) rfl (argsL := [(.ref rr), (.int (13 : Int32)), (.ref hd), (.int (Int32.ofNat H.length)), (.ref b44), (.int (Int32.ofNat (M ++ own_crlf).length)), (.ref b41), (.int (Int32.ofNat out.length))]) (rest := []) opd_42 rfl rfl (Nat.le_refl _) at_1096 (pc' := 1099) rfl rfl e75 (by decide) (by decide) ?_
          rintro v76 T76 h76 L76 X76 e76 ⟨rfl, Nq76, rfl⟩
          have N76 := N75.app Nq76
          refine own_ifN X76 hx hby at_1099 (pc' := 1102) rfl (feq (by decide)).1 ?_
          refine own_iconst X76 hx hby at_1102 (pc' := 1103) rfl (z := 1) rfl ?_
          refine own_goto X76 hx hby at_1103 (by decide) (pc' := 1107) (by decide) ?_
          refine own_istore X76 hx hby at_1107 (pc' := 1109) rfl (Ls' := #[.val (.int p1), .val (.long p2), .second, .val (.int p3), .val (.int p4), .val (.int (Int32.ofNat H.length)), .val (.int y6), .val (.int y7), .val (.ref hd), .val (.int (Int32.ofNat nn)), .val (.int c0), .val (.int c1), .val (.int c2), .val (.int c3), .val (.ref b5), .val (.ref bd), .val (.int zs), .val (.ref b25), .val (.ref rr), .val (.ref b41), .val (.int (Int32.ofNat out.length)), .val (.int (Int32.ofNat i)), .val (.ref b44), .val (.int (Int32.ofNat M.length)), .val (.int (Int32.ofNat (M ++ own_crlf).length)), .val (.int (1 : Int32))]) rfl ?_
          refine own_iload X76 hx hby at_1109 (pc' := 1111) rfl rfl ?_
          refine own_ifN X76 hx hby at_1111 (pc' := 1114) rfl (feq (by decide)).1 ?_
          refine own_aload X76 hx hby at_1114 (pc' := 1116) rfl rfl rfl ?_
          refine own_bipush X76 hx hby at_1116 (pc' := 1118) rfl (z := 14) rfl ?_
          refine own_aload X76 hx hby at_1118 (pc' := 1120) rfl rfl rfl ?_
          refine own_iload X76 hx hby at_1120 (pc' := 1122) rfl rfl ?_
          refine own_aload X76 hx hby at_1122 (pc' := 1124) rfl rfl rfl ?_
          refine own_iload X76 hx hby at_1124 (pc' := 1126) rfl rfl ?_
          refine own_aload X76 hx hby at_1126 (pc' := 1128) rfl rfl rfl ?_
          refine own_iload X76 hx hby at_1128 (pc' := 1130) rfl rfl ?_
          refine own_callM X76 hx hby hml hZ hown (ow_227 hw) (ow_228 hw) (ow_4 hw) (ow_229 hw) (by decide) (cc := 0) (ss := 0) (rm_same l Z a0 hw rr hd b44 b41 H.length 6 12 14 H (M ++ own_crlf) out h59 n0 (Nat.le_trans Z0 sz61) (by decide) (own_Bl.pre V_h) VM2 VP V_r2) 0 rfl rfl (by decide) (by decide) rfl (argsL := [(.ref rr), (.int (14 : Int32)), (.ref hd), (.int (Int32.ofNat H.length)), (.ref b44), (.int (Int32.ofNat (M ++ own_crlf).length)), (.ref b41), (.int (Int32.ofNat out.length))]) (rest := []) opd_42 rfl rfl (Nat.le_refl _) at_1130 (pc' := 1133) rfl rfl e76 (by decide) (by decide) ?_
          rintro v77 T77 h77 L77 X77 e77 ⟨rfl, Nq77, rfl⟩
          have N77 := N76.app Nq77
          refine own_ifN X77 hx hby at_1133 (pc' := 1136) rfl (feq (by decide)).1 ?_
          refine own_iconst X77 hx hby at_1136 (pc' := 1137) rfl (z := 1) rfl ?_
          refine own_goto X77 hx hby at_1137 (by decide) (pc' := 1141) (by decide) ?_
          refine own_istore X77 hx hby at_1141 (pc' := 1143) rfl (Ls' := #[.val (.int p1), .val (.long p2), .second, .val (.int p3), .val (.int p4), .val (.int (Int32.ofNat H.length)), .val (.int y6), .val (.int y7), .val (.ref hd), .val (.int (Int32.ofNat nn)), .val (.int c0), .val (.int c1), .val (.int c2), .val (.int c3), .val (.ref b5), .val (.ref bd), .val (.int zs), .val (.ref b25), .val (.ref rr), .val (.ref b41), .val (.int (Int32.ofNat out.length)), .val (.int (Int32.ofNat i)), .val (.ref b44), .val (.int (Int32.ofNat M.length)), .val (.int (Int32.ofNat (M ++ own_crlf).length)), .val (.int (1 : Int32))]) rfl ?_
          refine own_iload X77 hx hby at_1143 (pc' := 1145) rfl rfl ?_
          refine own_ifN X77 hx hby at_1145 (pc' := 1148) rfl (feq (by decide)).1 ?_
          refine own_aload X77 hx hby at_1148 (pc' := 1150) rfl rfl rfl ?_
          refine own_bipush X77 hx hby at_1150 (pc' := 1152) rfl (z := 15) rfl ?_
          refine own_aload X77 hx hby at_1152 (pc' := 1154) rfl rfl rfl ?_
          refine own_iload X77 hx hby at_1154 (pc' := 1156) rfl rfl ?_
          refine own_aload X77 hx hby at_1156 (pc' := 1158) rfl rfl rfl ?_
          refine own_iload X77 hx hby at_1158 (pc' := 1160) rfl rfl ?_
          refine own_aload X77 hx hby at_1160 (pc' := 1162) rfl rfl rfl ?_
          refine own_iload X77 hx hby at_1162 (pc' := 1164) rfl rfl ?_
          refine own_callM X77 hx hby hml hZ hown (ow_227 hw) (ow_228 hw) (ow_4 hw) (ow_229 hw) (by decide) (cc := 0) (ss := 0) (rm_same l Z a0 hw rr hd b44 b41 H.length 6 12 15 H (M ++ own_crlf) out h59 n0 (Nat.le_trans Z0 sz61) (by decide) (own_Bl.pre V_h) VM2 VP V_r2) 0 rfl rfl (by decide) (by decide) rfl (argsL := [(.ref rr), (.int (15 : Int32)), (.ref hd), (.int (Int32.ofNat H.length)), (.ref b44), (.int (Int32.ofNat (M ++ own_crlf).length)), (.ref b41), (.int (Int32.ofNat out.length))]) (rest := []) opd_42 rfl rfl (Nat.le_refl _) at_1164 (pc' := 1167) rfl rfl e77 (by decide) (by decide) ?_
          rintro v78 T78 h78 L78 X78 e78 ⟨rfl, Nq78, rfl⟩
          have N78 := N77.app Nq78
          refine own_ifN X78 hx hby at_1167 (pc' := 1170) rfl (feq (by decide)).1 ?_
          refine own_iconst X78 hx hby at_1170 (pc' := 1171) rfl (z := 1) rfl ?_
          refine own_goto X78 hx hby at_1171 (by decide) (pc' := 1175) (by decide) ?_
          refine own_istore X78 hx hby at_1175 (pc' := 1177) rfl (Ls' := #[.val (.int p1), .val (.long p2), .second, .val (.int p3), .val (.int p4), .val (.int (Int32.ofNat H.length)), .val (.int y6), .val (.int y7), .val (.ref hd), .val (.int (Int32.ofNat nn)), .val (.int c0), .val (.int c1), .val (.int c2), .val (.int c3), .val (.ref b5), .val (.ref bd), .val (.int zs), .val (.ref b25), .val (.ref rr), .val (.ref b41), .val (.int (Int32.ofNat out.length)), .val (.int (Int32.ofNat i)), .val (.ref b44), .val (.int (Int32.ofNat M.length)), .val (.int (Int32.ofNat (M ++ own_crlf).length)), .val (.int (1 : Int32))]) rfl ?_
          refine own_iload X78 hx hby at_1177 (pc' := 1179) rfl rfl ?_
          refine own_ifN X78 hx hby at_1179 (pc' := 1182) rfl (feq (by decide)).1 ?_
          refine own_aload X78 hx hby at_1182 (pc' := 1184) rfl rfl rfl ?_
          refine own_bipush X78 hx hby at_1184 (pc' := 1186) rfl (z := 16) rfl ?_
          refine own_aload X78 hx hby at_1186 (pc' := 1188) rfl rfl rfl ?_
          refine own_iload X78 hx hby at_1188 (pc' := 1190) rfl rfl ?_
          refine own_aload X78 hx hby at_1190 (pc' := 1192) rfl rfl rfl ?_
          refine own_iload X78 hx hby at_1192 (pc' := 1194) rfl rfl ?_
          refine own_aload X78 hx hby at_1194 (pc' := 1196) rfl rfl rfl ?_
          refine own_iload X78 hx hby at_1196 (pc' := 1198) rfl rfl ?_
          refine own_callM X78 hx hby hml hZ hown (ow_227 hw) (ow_228 hw) (ow_4 hw) (ow_229 hw) (by decide) (cc := 0) (ss := 0) (rm_same l Z a0 hw rr hd b44 b41 H.length 6 12 16 H (M ++ own_crlf) out h59 n0 (Nat.le_trans Z0 sz61) (by decide) (own_Bl.pre V_h) VM2 VP V_r2) 0 rfl rfl (by decide) (by decide) rfl (argsL := [(.ref rr), (.int (16 : Int32)), (.ref hd), (.int (Int32.ofNat H.length)), (.ref b44), (.int (Int32.ofNat (M ++ own_crlf).length)), (.ref b41), (.int (Int32.ofNat out.length))]) (rest := []) opd_42 rfl rfl (Nat.le_refl _) at_1198 (pc' := 1201) rfl rfl e78 (by decide) (by decide) ?_
          rintro v79 T79 h79 L79 X79 e79 ⟨rfl, Nq79, rfl⟩
          have N79 := N78.app Nq79
          refine own_ifN X79 hx hby at_1201 (pc' := 1204) rfl (feq (by decide)).1 ?_
          refine own_iconst X79 hx hby at_1204 (pc' := 1205) rfl (z := 1) rfl ?_
          refine own_goto X79 hx hby at_1205 (by decide) (pc' := 1209) (by decide) ?_
          refine own_istore X79 hx hby at_1209 (pc' := 1211) rfl (Ls' := #[.val (.int p1), .val (.long p2), .second, .val (.int p3), .val (.int p4), .val (.int (Int32.ofNat H.length)), .val (.int y6), .val (.int y7), .val (.ref hd), .val (.int (Int32.ofNat nn)), .val (.int c0), .val (.int c1), .val (.int c2), .val (.int c3), .val (.ref b5), .val (.ref bd), .val (.int zs), .val (.ref b25), .val (.ref rr), .val (.ref b41), .val (.int (Int32.ofNat out.length)), .val (.int (Int32.ofNat i)), .val (.ref b44), .val (.int (Int32.ofNat M.length)), .val (.int (Int32.ofNat (M ++ own_crlf).length)), .val (.int (1 : Int32))]) rfl ?_
          refine own_iload X79 hx hby at_1211 (pc' := 1213) rfl rfl ?_
          refine own_ifN X79 hx hby at_1213 (pc' := 1216) rfl (feq (by decide)).1 ?_
          refine own_aload X79 hx hby at_1216 (pc' := 1218) rfl rfl rfl ?_
          refine own_bipush X79 hx hby at_1218 (pc' := 1220) rfl (z := 17) rfl ?_
          refine own_aload X79 hx hby at_1220 (pc' := 1222) rfl rfl rfl ?_
          refine own_iload X79 hx hby at_1222 (pc' := 1224) rfl rfl ?_
          refine own_aload X79 hx hby at_1224 (pc' := 1226) rfl rfl rfl ?_
          refine own_iload X79 hx hby at_1226 (pc' := 1228) rfl rfl ?_
          refine own_aload X79 hx hby at_1228 (pc' := 1230) rfl rfl rfl ?_
          refine own_iload X79 hx hby at_1230 (pc' := 1232) rfl rfl ?_
          refine own_callM X79 hx hby hml hZ hown (ow_227 hw) (ow_228 hw) (ow_4 hw) (ow_229 hw) (by decide) (cc := 0) (ss := 0) (rm_same l Z a0 hw rr hd b44 b41 H.length 6 12 17 H (M ++ own_crlf) out h59 n0 (Nat.le_trans Z0 sz61) (by decide) (own_Bl.pre V_h) VM2 VP V_r2) 0 rfl rfl (by decide) (by decide) rfl (argsL := [(.ref rr), (.int (17 : Int32)), (.ref hd), (.int (Int32.ofNat H.length)), (.ref b44), (.int (Int32.ofNat (M ++ own_crlf).length)), (.ref b41), (.int (Int32.ofNat out.length))]) (rest := []) opd_42 rfl rfl (Nat.le_refl _) at_1232 (pc' := 1235) rfl rfl e79 (by decide) (by decide) ?_
          rintro v80 T80 h80 L80 X80 e80 ⟨rfl, Nq80, rfl⟩
          have N80 := N79.app Nq80
          refine own_ifN X80 hx hby at_1235 (pc' := 1238) rfl (feq (by decide)).1 ?_
          refine own_iconst X80 hx hby at_1238 (pc' := 1239) rfl (z := 1) rfl ?_
          refine own_goto X80 hx hby at_1239 (by decide) (pc' := 1243) (by decide) ?_
          refine own_istore X80 hx hby at_1243 (pc' := 1245) rfl (Ls' := #[.val (.int p1), .val (.long p2), .second, .val (.int p3), .val (.int p4), .val (.int (Int32.ofNat H.length)), .val (.int y6), .val (.int y7), .val (.ref hd), .val (.int (Int32.ofNat nn)), .val (.int c0), .val (.int c1), .val (.int c2), .val (.int c3), .val (.ref b5), .val (.ref bd), .val (.int zs), .val (.ref b25), .val (.ref rr), .val (.ref b41), .val (.int (Int32.ofNat out.length)), .val (.int (Int32.ofNat i)), .val (.ref b44), .val (.int (Int32.ofNat M.length)), .val (.int (Int32.ofNat (M ++ own_crlf).length)), .val (.int (1 : Int32))]) rfl ?_
          refine own_iload X80 hx hby at_1245 (pc' := 1247) rfl rfl ?_
          refine own_ifN X80 hx hby at_1247 (pc' := 1250) rfl (feq (by decide)).1 ?_
          refine own_aload X80 hx hby at_1250 (pc' := 1252) rfl rfl rfl ?_
          refine own_bipush X80 hx hby at_1252 (pc' := 1254) rfl (z := 18) rfl ?_
          refine own_aload X80 hx hby at_1254 (pc' := 1256) rfl rfl rfl ?_
          refine own_iload X80 hx hby at_1256 (pc' := 1258) rfl rfl ?_
          refine own_aload X80 hx hby at_1258 (pc' := 1260) rfl rfl rfl ?_
          refine own_iload X80 hx hby at_1260 (pc' := 1262) rfl rfl ?_
          refine own_aload X80 hx hby at_1262 (pc' := 1264) rfl rfl rfl ?_
          refine own_iload X80 hx hby at_1264 (pc' := 1266) rfl rfl ?_
          refine own_callM X80 hx hby hml hZ hown (ow_227 hw) (ow_228 hw) (ow_4 hw) (ow_229 hw) (by decide) (cc := 0) (ss := 0) (rm_same l Z a0 hw rr hd b44 b41 H.length 6 12 18 H (M ++ own_crlf) out h59 n0 (Nat.le_trans Z0 sz61) (by decide) (own_Bl.pre V_h) VM2 VP V_r2) 0 rfl rfl (by decide) (by decide) rfl (argsL := [(.ref rr), (.int (18 : Int32)), (.ref hd), (.int (Int32.ofNat H.length)), (.ref b44), (.int (Int32.ofNat (M ++ own_crlf).length)), (.ref b41), (.int (Int32.ofNat out.length))]) (rest := []) opd_42 rfl rfl (Nat.le_refl _) at_1266 (pc' := 1269) rfl rfl e80 (by decide) (by decide) ?_
          rintro v81 T81 h81 L81 X81 e81 ⟨rfl, Nq81, rfl⟩
          have N81 := N80.app Nq81
          refine own_ifN X81 hx hby at_1269 (pc' := 1272) rfl (feq (by decide)).1 ?_
          refine own_iconst X81 hx hby at_1272 (pc' := 1273) rfl (z := 1) rfl ?_
          refine own_goto X81 hx hby at_1273 (by decide) (pc' := 1277) (by decide) ?_
          refine own_istore X81 hx hby at_1277 (pc' := 1279) rfl (Ls' := #[.val (.int p1), .val (.long p2), .second, .val (.int p3), .val (.int p4), .val (.int (Int32.ofNat H.length)), .val (.int y6), .val (.int y7), .val (.ref hd), .val (.int (Int32.ofNat nn)), .val (.int c0), .val (.int c1), .val (.int c2), .val (.int c3), .val (.ref b5), .val (.ref bd), .val (.int zs), .val (.ref b25), .val (.ref rr), .val (.ref b41), .val (.int (Int32.ofNat out.length)), .val (.int (Int32.ofNat i)), .val (.ref b44), .val (.int (Int32.ofNat M.length)), .val (.int (Int32.ofNat (M ++ own_crlf).length)), .val (.int (1 : Int32))]) rfl ?_
          refine own_iload X81 hx hby at_1279 (pc' := 1281) rfl rfl ?_
          refine own_ifN X81 hx hby at_1281 (pc' := 1284) rfl (feq (by decide)).1 ?_
          refine own_aload X81 hx hby at_1284 (pc' := 1286) rfl rfl rfl ?_
          refine own_bipush X81 hx hby at_1286 (pc' := 1288) rfl (z := 19) rfl ?_
          refine own_aload X81 hx hby at_1288 (pc' := 1290) rfl rfl rfl ?_
          refine own_iload X81 hx hby at_1290 (pc' := 1292) rfl rfl ?_
          refine own_aload X81 hx hby at_1292 (pc' := 1294) rfl rfl rfl ?_
          refine own_iload X81 hx hby at_1294 (pc' := 1296) rfl rfl ?_
          refine own_aload X81 hx hby at_1296 (pc' := 1298) rfl rfl rfl ?_
          refine own_iload X81 hx hby at_1298 (pc' := 1300) rfl rfl ?_
          refine own_callM X81 hx hby hml hZ hown (ow_227 hw) (ow_228 hw) (ow_4 hw) (ow_229 hw) (by decide) (cc := 0) (ss := 0) (rm_same l Z a0 hw rr hd b44 b41 H.length 6 12 19 H (M ++ own_crlf) out h59 n0 (Nat.le_trans Z0 sz61) (by decide) (own_Bl.pre V_h) VM2 VP V_r2) 0 rfl rfl (by decide) (by decide) rfl (argsL := [(.ref rr), (.int (19 : Int32)), (.ref hd), (.int (Int32.ofNat H.length)), (.ref b44), (.int (Int32.ofNat (M ++ own_crlf).length)), (.ref b41), (.int (Int32.ofNat out.length))]) (rest := []) opd_42 rfl rfl (Nat.le_refl _) at_1300 (pc' := 1303) rfl rfl e81 (by decide) (by decide) ?_
          rintro v82 T82 h82 L82 X82 e82 ⟨rfl, Nq82, rfl⟩
          have N82 := N81.app Nq82
          refine own_ifN X82 hx hby at_1303 (pc' := 1306) rfl (feq (by decide)).1 ?_
          refine own_iconst X82 hx hby at_1306 (pc' := 1307) rfl (z := 1) rfl ?_
          refine own_goto X82 hx hby at_1307 (by decide) (pc' := 1311) (by decide) ?_
          refine own_istore X82 hx hby at_1311 (pc' := 1313) rfl (Ls' := #[.val (.int p1), .val (.long p2), .second, .val (.int p3), .val (.int p4), .val (.int (Int32.ofNat H.length)), .val (.int y6), .val (.int y7), .val (.ref hd), .val (.int (Int32.ofNat nn)), .val (.int c0), .val (.int c1), .val (.int c2), .val (.int c3), .val (.ref b5), .val (.ref bd), .val (.int zs), .val (.ref b25), .val (.ref rr), .val (.ref b41), .val (.int (Int32.ofNat out.length)), .val (.int (Int32.ofNat i)), .val (.ref b44), .val (.int (Int32.ofNat M.length)), .val (.int (Int32.ofNat (M ++ own_crlf).length)), .val (.int (1 : Int32))]) rfl ?_
          refine own_iload X82 hx hby at_1313 (pc' := 1315) rfl rfl ?_
          exact own_retNW X82 hx hby hZ (own_ew hw) e82 SNjm CHjm hlk hrt (by simp) at_1315 (z' := (1 : Int32)) rfl ⟨rfl, N82⟩ (by decide) (by decide)
         ·intro J83
          by_cases h10 : (Int32.ofNat out.length) < (10 : Int32)
          ·refine own_icmpY X44 hx hby at_537 (by decide) (pc' := 565) (by decide) (tlt h10).1 ?_
           have q := (own_ilt (J := 10) (by omega) (by decide)).mp h10
           refine own_aload X44 hx hby at_565 (pc' := 567) rfl rfl rfl ?_
           refine own_iconst X44 hx hby at_567 (pc' := 568) rfl (z := 0) rfl ?_
           refine own_bipush X44 hx hby at_568 (pc' := 570) rfl (z := 48) rfl ?_
           refine own_iload X44 hx hby at_570 (pc' := 572) rfl rfl ?_
           refine own_iadd X44 hx hby at_572 (pc' := 573) rfl ?_
           refine own_i2b X44 hx hby at_573 (pc' := 574) rfl ?_
           refine own_gP X44 hx hby hZ e44 VM (by decide) (w := (own_b8 ((48 : Int32) + (Int32.ofNat out.length)))) (own_nar8 _) rfl at_574 (pc' := 575) rfl ?_
           intro T84 h84 X84 e84 W84 Q84
           have sfw85 := SF_b44
           replace SF_b41 := Safe.wr W84 sfw85 CHjc4.1 SF_b41
           replace SF_b44 := Safe.wr W84 sfw85 CHjc4.1 SF_b44
           replace CHjc4 := CHjc4.wr W84 sfw85
           replace SNjc4 := SNjc4.wr W84
           have sz86 := Nat.le_trans sz45 (Keep.of_wr W84).1
           replace V_h := V_h.other W84 ne_hd_b44
           replace V_c := V_c.other W84 ne_b5_b44
           replace V_r := V_r.other W84 ne_rr_b44
           replace VP := VP.other W84 ne_b41_b44
           have be87 := own_xw be46 W84 le0_b44
           replace VM := Q84
           have N84 := own_fr1 (sl := ([] : List Int32).length) Njc4 n0_b44
           refine own_iconst X84 hx hby at_575 (pc' := 576) rfl (z := 1) rfl ?_
           refine own_istore X84 hx hby at_576 (pc' := 578) rfl (Ls' := #[.val (.int p1), .val (.long p2), .second, .val (.int p3), .val (.int p4), .val (.int (Int32.ofNat H.length)), .val (.int y6), .val (.int y7), .val (.ref hd), .val (.int (Int32.ofNat nn)), .val (.int c0), .val (.int c1), .val (.int c2), .val (.int c3), .val (.ref b5), .val (.ref bd), .val (.int zs), .val (.ref b25), .val (.ref rr), .val (.ref b41), .val (.int (Int32.ofNat out.length)), .val (.int (Int32.ofNat i)), .val (.ref b44), .val (.int (1 : Int32)), .unset, .unset]) rfl ?_
           exact J83 (T84, vm_c4, h84, _, ([] ++ [(own_b8 ((48 : Int32) + (Int32.ofNat out.length)))])) ⟨X84.mono (by decide) (by decide), e84, hZ, hown, SNjc4, CHjc4, sz86, N84, be87, V_h, V_c, V_r, VP, VM, (by unfold own_dg; rw [if_pos q]; rfl), SF_b44⟩
          ·refine own_icmpN X44 hx hby at_537 (pc' := 540) rfl (flt h10).1 ?_
           have q : ¬ out.length < 10 := fun z_ => h10 ((own_ilt (J := 10) (by omega) (by decide)).mpr z_)
           refine own_aload X44 hx hby at_540 (pc' := 542) rfl rfl rfl ?_
           refine own_iconst X44 hx hby at_542 (pc' := 543) rfl (z := 0) rfl ?_
           refine own_bipush X44 hx hby at_543 (pc' := 545) rfl (z := 49) rfl ?_
           refine own_gP X44 hx hby hZ e44 VM (by decide) (w := (49 : Int32)) rfl rfl at_545 (pc' := 546) rfl ?_
           intro T88 h88 X88 e88 W88 Q88
           have sfw89 := SF_b44
           replace SF_b41 := Safe.wr W88 sfw89 CHjc4.1 SF_b41
           replace SF_b44 := Safe.wr W88 sfw89 CHjc4.1 SF_b44
           replace CHjc4 := CHjc4.wr W88 sfw89
           replace SNjc4 := SNjc4.wr W88
           have sz90 := Nat.le_trans sz45 (Keep.of_wr W88).1
           replace V_h := V_h.other W88 ne_hd_b44
           replace V_c := V_c.other W88 ne_b5_b44
           replace V_r := V_r.other W88 ne_rr_b44
           replace VP := VP.other W88 ne_b41_b44
           have be91 := own_xw be46 W88 le0_b44
           replace VM := Q88
           have N88 := own_fr1 (sl := ([] : List Int32).length) Njc4 n0_b44
           refine own_aload X88 hx hby at_546 (pc' := 548) rfl rfl rfl ?_
           refine own_iconst X88 hx hby at_548 (pc' := 549) rfl (z := 1) rfl ?_
           refine own_bipush X88 hx hby at_549 (pc' := 551) rfl (z := 48) rfl ?_
           refine own_iload X88 hx hby at_551 (pc' := 553) rfl rfl ?_
           refine own_iadd X88 hx hby at_553 (pc' := 554) rfl ?_
           refine own_bipush X88 hx hby at_554 (pc' := 556) rfl (z := 10) rfl ?_
           refine own_isub X88 hx hby at_556 (pc' := 557) rfl ?_
           refine own_i2b X88 hx hby at_557 (pc' := 558) rfl ?_
           refine own_gP X88 hx hby hZ e88 VM (Nat.le_of_ble_eq_true rfl) (w := (own_b8 (((48 : Int32) + (Int32.ofNat out.length)) - (10 : Int32)))) (own_nar8 _) rfl at_558 (pc' := 559) rfl ?_
           intro T92 h92 X92 e92 W92 Q92
           have sfw93 := SF_b44
           replace SF_b41 := Safe.wr W92 sfw93 CHjc4.1 SF_b41
           replace SF_b44 := Safe.wr W92 sfw93 CHjc4.1 SF_b44
           replace CHjc4 := CHjc4.wr W92 sfw93
           replace SNjc4 := SNjc4.wr W92
           have sz94 := Nat.le_trans sz90 (Keep.of_wr W92).1
           replace V_h := V_h.other W92 ne_hd_b44
           replace V_c := V_c.other W92 ne_b5_b44
           replace V_r := V_r.other W92 ne_rr_b44
           replace VP := VP.other W92 ne_b41_b44
           have be95 := own_xw be91 W92 le0_b44
           replace VM := Q92
           have N92 := own_fr1 (sl := (([] ++ [(49 : Int32)]) : List Int32).length) N88 n0_b44
           refine own_iconst X92 hx hby at_559 (pc' := 560) rfl (z := 2) rfl ?_
           refine own_istore X92 hx hby at_560 (pc' := 562) rfl (Ls' := #[.val (.int p1), .val (.long p2), .second, .val (.int p3), .val (.int p4), .val (.int (Int32.ofNat H.length)), .val (.int y6), .val (.int y7), .val (.ref hd), .val (.int (Int32.ofNat nn)), .val (.int c0), .val (.int c1), .val (.int c2), .val (.int c3), .val (.ref b5), .val (.ref bd), .val (.int zs), .val (.ref b25), .val (.ref rr), .val (.ref b41), .val (.int (Int32.ofNat out.length)), .val (.int (Int32.ofNat i)), .val (.ref b44), .val (.int (2 : Int32)), .unset, .unset]) rfl ?_
           refine own_goto X92 hx hby at_562 (by decide) (pc' := 578) (by decide) ?_
           exact J83 (T92, vm_c4, h92, _, (([] ++ [(49 : Int32)]) ++ [(own_b8 (((48 : Int32) + (Int32.ofNat out.length)) - (10 : Int32)))])) ⟨X92.mono (by decide) (by decide), e92, hZ, hown, SNjc4, CHjc4, sz94, N92, be95, V_h, V_c, V_r, VP, VM, (by unfold own_dg; rw [if_neg q]; rfl), SF_b44⟩
        ·intro J96
         refine own_iload Xjc3 hx hby at_481 (pc' := 483) rfl rfl ?_
         refine own_iload Xjc3 hx hby at_483 (pc' := 485) rfl rfl ?_
         have hi9 : out.length ≤ 12 := (own_Pre.len VP)
         have hib := hi16
         by_cases hlt : i < nn
         ·refine own_icmpN Xjc3 hx hby at_485 (pc' := 488) rfl (tlt ((own_ilt (by omega) (by omega)).mpr hlt)).2.1 ?_
          refine own_aload Xjc3 hx hby at_488 (pc' := 490) rfl rfl rfl ?_
          refine own_iload Xjc3 hx hby at_490 (pc' := 492) rfl rfl ?_
          refine own_iload Xjc3 hx hby at_492 (pc' := 494) rfl rfl ?_
          refine own_callM Xjc3 hx hby hml hZ hown (ow_283 hw) (ow_284 hw) (ow_4 hw) (ow_285 hw) (by decide) (cc := 0) (ss := 0) (rm_cpAt l Z a0 hw b5 nn i 4 (own_f4 c0 c1 c2 c3) h_c3 n0 (Nat.le_trans Z0 szjc3) hlt (by omega) V_c) 0 rfl rfl (by decide) (by decide) rfl (argsL := [(.ref b5), (.int (Int32.ofNat nn)), (.int (Int32.ofNat i))]) (rest := []) opd_43 rfl rfl (Nat.le_refl _) at_494 (pc' := 497) rfl rfl ejc3 (by decide) (by decide) ?_
          rintro v97 T97 h97 L97 X97 e97 ⟨rfl, Nq97, rfl⟩
          have N97 := Njc3.app Nq97
          refine own_istore X97 hx hby at_497 (pc' := 499) rfl (Ls' := #[.val (.int p1), .val (.long p2), .second, .val (.int p3), .val (.int p4), .val (.int (Int32.ofNat H.length)), .val (.int y6), .val (.int y7), .val (.ref hd), .val (.int (Int32.ofNat nn)), .val (.int c0), .val (.int c1), .val (.int c2), .val (.int c3), .val (.ref b5), .val (.ref bd), .val (.int zs), .val (.ref b25), .val (.ref rr), .val (.ref b41), .val (.int (Int32.ofNat out.length)), .val (.int (Int32.ofNat i)), .val (.int (own_cpAt (own_f4 c0 c1 c2 c3) nn i)), .unset, .unset, .unset]) (own_s26 hu rfl) ?_
          refine own_aload X97 hx hby at_499 (pc' := 501) rfl rfl rfl ?_
          refine own_iload X97 hx hby at_501 (pc' := 503) rfl rfl ?_
          refine own_iload X97 hx hby at_503 (pc' := 505) rfl rfl ?_
          have hpl : out.length + (own_put (own_cpAt (own_f4 c0 c1 c2 c3) nn i)).length ≤ 12 := by have q := congrArg List.length hE; rw [own_Ec_on hlt, List.length_append, List.length_append] at q; omega
          refine own_callM X97 hx hby hml hZ hown (ow_289 hw) (ow_290 hw) (ow_4 hw) (ow_291 hw) (by decide) (cc := 0) (ss := 0) (rm_put l Z a0 hw b41 (own_cpAt (own_f4 c0 c1 c2 c3) nn i) 12 out h_c3 n0 (Nat.le_trans Z0 szjc3) n0_b41 hpl VP) 0 rfl rfl (by decide) (by decide) rfl (argsL := [(.ref b41), (.int (Int32.ofNat out.length)), (.int (own_cpAt (own_f4 c0 c1 c2 c3) nn i))]) (rest := []) opd_7 rfl rfl (Nat.le_refl _) at_505 (pc' := 508) rfl rfl e97 (by decide) (by decide) ?_
          rintro v98 T98 h98 L98 X98 e98 ⟨rfl, Nq98, Kq98, VP⟩
          have N98 := N97.app Nq98
          have sfk99 := (sfS SF_b41 sf0)
          replace SF_b41 := Safe.keep Kq98 sfk99 CHjc3.1 SF_b41
          replace CHjc3 := CHjc3.keep Kq98 sfk99
          replace SNjc3 := SNjc3.keep Kq98
          have sz100 := Nat.le_trans szjc3 Kq98.1
          replace V_h := V_h.keep Kq98 (own_niS ne_hd_b41 own_ni0)
          replace V_c := V_c.keep Kq98 (own_niS ne_b5_b41 own_ni0)
          replace V_r := V_r.keep Kq98 (own_niS ne_rr_b41 own_ni0)
          have be101 := own_xk bejc3 Kq98 (allS le0_b41 all0)
          refine own_istore X98 hx hby at_508 (pc' := 510) rfl (Ls' := #[.val (.int p1), .val (.long p2), .second, .val (.int p3), .val (.int p4), .val (.int (Int32.ofNat H.length)), .val (.int y6), .val (.int y7), .val (.ref hd), .val (.int (Int32.ofNat nn)), .val (.int c0), .val (.int c1), .val (.int c2), .val (.int c3), .val (.ref b5), .val (.ref bd), .val (.int zs), .val (.ref b25), .val (.ref rr), .val (.ref b41), .val (.int (Int32.ofNat (out ++ own_put (own_cpAt (own_f4 c0 c1 c2 c3) nn i)).length)), .val (.int (Int32.ofNat i)), .val (.int (own_cpAt (own_f4 c0 c1 c2 c3) nn i)), .unset, .unset, .unset]) rfl ?_
          refine own_iload X98 hx hby at_510 (pc' := 512) rfl rfl ?_
          refine own_iload X98 hx hby at_512 (pc' := 514) rfl rfl ?_
          refine own_ldcI X98 hx hby hZ hown (ow_292 hw) at_514 (pc' := 516) rfl ?_
          by_cases h65 : (own_cpAt (own_f4 c0 c1 c2 c3) nn i) < (65536 : Int32)
          ·refine own_icmpY X98 hx hby at_516 (by decide) (pc' := 523) (by decide) (tlt h65).1 ?_
           refine own_iconst X98 hx hby at_523 (pc' := 524) rfl (z := 1) rfl ?_
           refine own_iadd X98 hx hby at_524 (pc' := 525) rfl ?_
           rw [show (Int32.ofNat i + (1 : Int32)) = Int32.ofNat (i + 1) from own_j (k := 1) rfl]
           refine own_istore X98 hx hby at_525 (pc' := 527) rfl (Ls' := #[.val (.int p1), .val (.long p2), .second, .val (.int p3), .val (.int p4), .val (.int (Int32.ofNat H.length)), .val (.int y6), .val (.int y7), .val (.ref hd), .val (.int (Int32.ofNat nn)), .val (.int c0), .val (.int c1), .val (.int c2), .val (.int c3), .val (.ref b5), .val (.ref bd), .val (.int zs), .val (.ref b25), .val (.ref rr), .val (.ref b41), .val (.int (Int32.ofNat (out ++ own_put (own_cpAt (own_f4 c0 c1 c2 c3) nn i)).length)), .val (.int (Int32.ofNat (i + 1))), .val (.int (own_cpAt (own_f4 c0 c1 c2 c3) nn i)), .unset, .unset, .unset]) rfl ?_
           have hk1_ : nn ≤ (i + 1) + 0 := by omega
           have hk2_ : (i + 1) ≤ 8 := by omega
           exact J96 (T98, vm_c3, h98, _, (i + 1), (out ++ own_put (own_cpAt (own_f4 c0 c1 c2 c3) nn i)), (.val (.int (own_cpAt (own_f4 c0 c1 c2 c3) nn i)))) ⟨X98.mono (by decide) (by decide), e98, hZ, hown, SNjc3, CHjc3, sz100, N98, be101, V_h, V_c, V_r, VP, (own_Estep hlt hE rfl (own_stp1 h65) rfl rfl), hk1_, (Or.inr ⟨_, rfl, rfl⟩), hk2_, SF_b41⟩
          ·refine own_icmpN X98 hx hby at_516 (pc' := 519) rfl (flt h65).1 ?_
           refine own_iconst X98 hx hby at_519 (pc' := 520) rfl (z := 2) rfl ?_
           refine own_goto X98 hx hby at_520 (by decide) (pc' := 524) (by decide) ?_
           refine own_iadd X98 hx hby at_524 (pc' := 525) rfl ?_
           rw [show (Int32.ofNat i + (2 : Int32)) = Int32.ofNat (i + 1 + 1) from own_j (k := 2) rfl]
           refine own_istore X98 hx hby at_525 (pc' := 527) rfl (Ls' := #[.val (.int p1), .val (.long p2), .second, .val (.int p3), .val (.int p4), .val (.int (Int32.ofNat H.length)), .val (.int y6), .val (.int y7), .val (.ref hd), .val (.int (Int32.ofNat nn)), .val (.int c0), .val (.int c1), .val (.int c2), .val (.int c3), .val (.ref b5), .val (.ref bd), .val (.int zs), .val (.ref b25), .val (.ref rr), .val (.ref b41), .val (.int (Int32.ofNat (out ++ own_put (own_cpAt (own_f4 c0 c1 c2 c3) nn i)).length)), .val (.int (Int32.ofNat (i + 1 + 1))), .val (.int (own_cpAt (own_f4 c0 c1 c2 c3) nn i)), .unset, .unset, .unset]) rfl ?_
           have hk1_ : nn ≤ (i + 1 + 1) + 0 := by omega
           have hk2_ : (i + 1 + 1) ≤ 8 := by omega
           exact J96 (T98, vm_c3, h98, _, (i + 1 + 1), (out ++ own_put (own_cpAt (own_f4 c0 c1 c2 c3) nn i)), (.val (.int (own_cpAt (own_f4 c0 c1 c2 c3) nn i)))) ⟨X98.mono (by decide) (by decide), e98, hZ, hown, SNjc3, CHjc3, sz100, N98, be101, V_h, V_c, V_r, VP, (own_Estep hlt hE rfl (own_stp2 h65) rfl rfl), hk1_, (Or.inr ⟨_, rfl, rfl⟩), hk2_, SF_b41⟩
         ·refine own_icmpY Xjc3 hx hby at_485 (by decide) (pc' := 527) (by decide) (flt (by rw [own_ilt (by omega) (by omega)]; exact hlt)).2.1 ?_
          have hk1_ : nn ≤ i + 0 := by omega
          have hk2_ : i ≤ 8 := by omega
          exact J96 (T_c3, vm_c3, h_c3, _, i, out, u22) ⟨Xjc3.mono (by decide) (by decide), ejc3, hZ, hown, SNjc3, CHjc3, szjc3, Njc3, bejc3, V_h, V_c, V_r, VP, hE, hk1_, hu, hk2_, SF_b41⟩
       ·intro J102
        refine own_iload Xjc2 hx hby at_435 (pc' := 437) rfl rfl ?_
        refine own_iload Xjc2 hx hby at_437 (pc' := 439) rfl rfl ?_
        have hi9 : out.length ≤ 12 := (own_Pre.len VP)
        have hib := hi16
        by_cases hlt : i < nn
        ·refine own_icmpN Xjc2 hx hby at_439 (pc' := 442) rfl (tlt ((own_ilt (by omega) (by omega)).mpr hlt)).2.1 ?_
         refine own_aload Xjc2 hx hby at_442 (pc' := 444) rfl rfl rfl ?_
         refine own_iload Xjc2 hx hby at_444 (pc' := 446) rfl rfl ?_
         refine own_iload Xjc2 hx hby at_446 (pc' := 448) rfl rfl ?_
         refine own_callM Xjc2 hx hby hml hZ hown (ow_283 hw) (ow_284 hw) (ow_4 hw) (ow_285 hw) (by decide) (cc := 0) (ss := 0) (rm_cpAt l Z a0 hw b5 nn i 4 (own_f4 c0 c1 c2 c3) h_c2 n0 (Nat.le_trans Z0 szjc2) hlt (by omega) V_c) 0 rfl rfl (by decide) (by decide) rfl (argsL := [(.ref b5), (.int (Int32.ofNat nn)), (.int (Int32.ofNat i))]) (rest := []) opd_43 rfl rfl (Nat.le_refl _) at_448 (pc' := 451) rfl rfl ejc2 (by decide) (by decide) ?_
         rintro v103 T103 h103 L103 X103 e103 ⟨rfl, Nq103, rfl⟩
         have N103 := Njc2.app Nq103
         refine own_istore X103 hx hby at_451 (pc' := 453) rfl (Ls' := #[.val (.int p1), .val (.long p2), .second, .val (.int p3), .val (.int p4), .val (.int (Int32.ofNat H.length)), .val (.int y6), .val (.int y7), .val (.ref hd), .val (.int (Int32.ofNat nn)), .val (.int c0), .val (.int c1), .val (.int c2), .val (.int c3), .val (.ref b5), .val (.ref bd), .val (.int zs), .val (.ref b25), .val (.ref rr), .val (.ref b41), .val (.int (Int32.ofNat out.length)), .val (.int (Int32.ofNat i)), .val (.int (own_cpAt (own_f4 c0 c1 c2 c3) nn i)), .unset, .unset, .unset]) (own_s26 hu rfl) ?_
         refine own_aload X103 hx hby at_453 (pc' := 455) rfl rfl rfl ?_
         refine own_iload X103 hx hby at_455 (pc' := 457) rfl rfl ?_
         refine own_iload X103 hx hby at_457 (pc' := 459) rfl rfl ?_
         have hpl : out.length + (own_put (own_cpAt (own_f4 c0 c1 c2 c3) nn i)).length ≤ 12 := by have q := congrArg List.length hE; rw [own_Ec_on hlt, List.length_append, List.length_append] at q; omega
         refine own_callM X103 hx hby hml hZ hown (ow_289 hw) (ow_290 hw) (ow_4 hw) (ow_291 hw) (by decide) (cc := 0) (ss := 0) (rm_put l Z a0 hw b41 (own_cpAt (own_f4 c0 c1 c2 c3) nn i) 12 out h_c2 n0 (Nat.le_trans Z0 szjc2) n0_b41 hpl VP) 0 rfl rfl (by decide) (by decide) rfl (argsL := [(.ref b41), (.int (Int32.ofNat out.length)), (.int (own_cpAt (own_f4 c0 c1 c2 c3) nn i))]) (rest := []) opd_7 rfl rfl (Nat.le_refl _) at_459 (pc' := 462) rfl rfl e103 (by decide) (by decide) ?_
         rintro v104 T104 h104 L104 X104 e104 ⟨rfl, Nq104, Kq104, VP⟩
         have N104 := N103.app Nq104
         have sfk105 := (sfS SF_b41 sf0)
         replace SF_b41 := Safe.keep Kq104 sfk105 CHjc2.1 SF_b41
         replace CHjc2 := CHjc2.keep Kq104 sfk105
         replace SNjc2 := SNjc2.keep Kq104
         have sz106 := Nat.le_trans szjc2 Kq104.1
         replace V_h := V_h.keep Kq104 (own_niS ne_hd_b41 own_ni0)
         replace V_c := V_c.keep Kq104 (own_niS ne_b5_b41 own_ni0)
         replace V_r := V_r.keep Kq104 (own_niS ne_rr_b41 own_ni0)
         have be107 := own_xk bejc2 Kq104 (allS le0_b41 all0)
         refine own_istore X104 hx hby at_462 (pc' := 464) rfl (Ls' := #[.val (.int p1), .val (.long p2), .second, .val (.int p3), .val (.int p4), .val (.int (Int32.ofNat H.length)), .val (.int y6), .val (.int y7), .val (.ref hd), .val (.int (Int32.ofNat nn)), .val (.int c0), .val (.int c1), .val (.int c2), .val (.int c3), .val (.ref b5), .val (.ref bd), .val (.int zs), .val (.ref b25), .val (.ref rr), .val (.ref b41), .val (.int (Int32.ofNat (out ++ own_put (own_cpAt (own_f4 c0 c1 c2 c3) nn i)).length)), .val (.int (Int32.ofNat i)), .val (.int (own_cpAt (own_f4 c0 c1 c2 c3) nn i)), .unset, .unset, .unset]) rfl ?_
         refine own_iload X104 hx hby at_464 (pc' := 466) rfl rfl ?_
         refine own_iload X104 hx hby at_466 (pc' := 468) rfl rfl ?_
         refine own_ldcI X104 hx hby hZ hown (ow_292 hw) at_468 (pc' := 470) rfl ?_
         by_cases h65 : (own_cpAt (own_f4 c0 c1 c2 c3) nn i) < (65536 : Int32)
         ·refine own_icmpY X104 hx hby at_470 (by decide) (pc' := 477) (by decide) (tlt h65).1 ?_
          refine own_iconst X104 hx hby at_477 (pc' := 478) rfl (z := 1) rfl ?_
          refine own_iadd X104 hx hby at_478 (pc' := 479) rfl ?_
          rw [show (Int32.ofNat i + (1 : Int32)) = Int32.ofNat (i + 1) from own_j (k := 1) rfl]
          refine own_istore X104 hx hby at_479 (pc' := 481) rfl (Ls' := #[.val (.int p1), .val (.long p2), .second, .val (.int p3), .val (.int p4), .val (.int (Int32.ofNat H.length)), .val (.int y6), .val (.int y7), .val (.ref hd), .val (.int (Int32.ofNat nn)), .val (.int c0), .val (.int c1), .val (.int c2), .val (.int c3), .val (.ref b5), .val (.ref bd), .val (.int zs), .val (.ref b25), .val (.ref rr), .val (.ref b41), .val (.int (Int32.ofNat (out ++ own_put (own_cpAt (own_f4 c0 c1 c2 c3) nn i)).length)), .val (.int (Int32.ofNat (i + 1))), .val (.int (own_cpAt (own_f4 c0 c1 c2 c3) nn i)), .unset, .unset, .unset]) rfl ?_
          have hk1_ : nn ≤ (i + 1) + 1 := by omega
          have hk2_ : (i + 1) ≤ 6 := by omega
          exact J102 (T104, vm_c2, h104, _, (i + 1), (out ++ own_put (own_cpAt (own_f4 c0 c1 c2 c3) nn i)), (.val (.int (own_cpAt (own_f4 c0 c1 c2 c3) nn i)))) ⟨X104.mono (by decide) (by decide), e104, hZ, hown, SNjc2, CHjc2, sz106, N104, be107, V_h, V_c, V_r, VP, (own_Estep hlt hE rfl (own_stp1 h65) rfl rfl), hk1_, (Or.inr ⟨_, rfl, rfl⟩), hk2_, SF_b41⟩
         ·refine own_icmpN X104 hx hby at_470 (pc' := 473) rfl (flt h65).1 ?_
          refine own_iconst X104 hx hby at_473 (pc' := 474) rfl (z := 2) rfl ?_
          refine own_goto X104 hx hby at_474 (by decide) (pc' := 478) (by decide) ?_
          refine own_iadd X104 hx hby at_478 (pc' := 479) rfl ?_
          rw [show (Int32.ofNat i + (2 : Int32)) = Int32.ofNat (i + 1 + 1) from own_j (k := 2) rfl]
          refine own_istore X104 hx hby at_479 (pc' := 481) rfl (Ls' := #[.val (.int p1), .val (.long p2), .second, .val (.int p3), .val (.int p4), .val (.int (Int32.ofNat H.length)), .val (.int y6), .val (.int y7), .val (.ref hd), .val (.int (Int32.ofNat nn)), .val (.int c0), .val (.int c1), .val (.int c2), .val (.int c3), .val (.ref b5), .val (.ref bd), .val (.int zs), .val (.ref b25), .val (.ref rr), .val (.ref b41), .val (.int (Int32.ofNat (out ++ own_put (own_cpAt (own_f4 c0 c1 c2 c3) nn i)).length)), .val (.int (Int32.ofNat (i + 1 + 1))), .val (.int (own_cpAt (own_f4 c0 c1 c2 c3) nn i)), .unset, .unset, .unset]) rfl ?_
          have hk1_ : nn ≤ (i + 1 + 1) + 1 := by omega
          have hk2_ : (i + 1 + 1) ≤ 6 := by omega
          exact J102 (T104, vm_c2, h104, _, (i + 1 + 1), (out ++ own_put (own_cpAt (own_f4 c0 c1 c2 c3) nn i)), (.val (.int (own_cpAt (own_f4 c0 c1 c2 c3) nn i)))) ⟨X104.mono (by decide) (by decide), e104, hZ, hown, SNjc2, CHjc2, sz106, N104, be107, V_h, V_c, V_r, VP, (own_Estep hlt hE rfl (own_stp2 h65) rfl rfl), hk1_, (Or.inr ⟨_, rfl, rfl⟩), hk2_, SF_b41⟩
        ·refine own_icmpY Xjc2 hx hby at_439 (by decide) (pc' := 481) (by decide) (flt (by rw [own_ilt (by omega) (by omega)]; exact hlt)).2.1 ?_
         have hk1_ : nn ≤ i + 1 := by omega
         have hk2_ : i ≤ 6 := by omega
         exact J102 (T_c2, vm_c2, h_c2, _, i, out, u22) ⟨Xjc2.mono (by decide) (by decide), ejc2, hZ, hown, SNjc2, CHjc2, szjc2, Njc2, bejc2, V_h, V_c, V_r, VP, hE, hk1_, hu, hk2_, SF_b41⟩
      ·intro J108
       refine own_iload Xjc1 hx hby at_389 (pc' := 391) rfl rfl ?_
       refine own_iload Xjc1 hx hby at_391 (pc' := 393) rfl rfl ?_
       have hi9 : out.length ≤ 12 := (own_Pre.len VP)
       have hib := hi16
       by_cases hlt : i < nn
       ·refine own_icmpN Xjc1 hx hby at_393 (pc' := 396) rfl (tlt ((own_ilt (by omega) (by omega)).mpr hlt)).2.1 ?_
        refine own_aload Xjc1 hx hby at_396 (pc' := 398) rfl rfl rfl ?_
        refine own_iload Xjc1 hx hby at_398 (pc' := 400) rfl rfl ?_
        refine own_iload Xjc1 hx hby at_400 (pc' := 402) rfl rfl ?_
        refine own_callM Xjc1 hx hby hml hZ hown (ow_283 hw) (ow_284 hw) (ow_4 hw) (ow_285 hw) (by decide) (cc := 0) (ss := 0) (rm_cpAt l Z a0 hw b5 nn i 4 (own_f4 c0 c1 c2 c3) h_c1 n0 (Nat.le_trans Z0 szjc1) hlt (by omega) V_c) 0 rfl rfl (by decide) (by decide) rfl (argsL := [(.ref b5), (.int (Int32.ofNat nn)), (.int (Int32.ofNat i))]) (rest := []) opd_43 rfl rfl (Nat.le_refl _) at_402 (pc' := 405) rfl rfl ejc1 (by decide) (by decide) ?_
        rintro v109 T109 h109 L109 X109 e109 ⟨rfl, Nq109, rfl⟩
        have N109 := Njc1.app Nq109
        refine own_istore X109 hx hby at_405 (pc' := 407) rfl (Ls' := #[.val (.int p1), .val (.long p2), .second, .val (.int p3), .val (.int p4), .val (.int (Int32.ofNat H.length)), .val (.int y6), .val (.int y7), .val (.ref hd), .val (.int (Int32.ofNat nn)), .val (.int c0), .val (.int c1), .val (.int c2), .val (.int c3), .val (.ref b5), .val (.ref bd), .val (.int zs), .val (.ref b25), .val (.ref rr), .val (.ref b41), .val (.int (Int32.ofNat out.length)), .val (.int (Int32.ofNat i)), .val (.int (own_cpAt (own_f4 c0 c1 c2 c3) nn i)), .unset, .unset, .unset]) (own_s26 hu rfl) ?_
        refine own_aload X109 hx hby at_407 (pc' := 409) rfl rfl rfl ?_
        refine own_iload X109 hx hby at_409 (pc' := 411) rfl rfl ?_
        refine own_iload X109 hx hby at_411 (pc' := 413) rfl rfl ?_
        have hpl : out.length + (own_put (own_cpAt (own_f4 c0 c1 c2 c3) nn i)).length ≤ 12 := by have q := congrArg List.length hE; rw [own_Ec_on hlt, List.length_append, List.length_append] at q; omega
        refine own_callM X109 hx hby hml hZ hown (ow_289 hw) (ow_290 hw) (ow_4 hw) (ow_291 hw) (by decide) (cc := 0) (ss := 0) (rm_put l Z a0 hw b41 (own_cpAt (own_f4 c0 c1 c2 c3) nn i) 12 out h_c1 n0 (Nat.le_trans Z0 szjc1) n0_b41 hpl VP) 0 rfl rfl (by decide) (by decide) rfl (argsL := [(.ref b41), (.int (Int32.ofNat out.length)), (.int (own_cpAt (own_f4 c0 c1 c2 c3) nn i))]) (rest := []) opd_7 rfl rfl (Nat.le_refl _) at_413 (pc' := 416) rfl rfl e109 (by decide) (by decide) ?_
        rintro v110 T110 h110 L110 X110 e110 ⟨rfl, Nq110, Kq110, VP⟩
        have N110 := N109.app Nq110
        have sfk111 := (sfS SF_b41 sf0)
        replace SF_b41 := Safe.keep Kq110 sfk111 CHjc1.1 SF_b41
        replace CHjc1 := CHjc1.keep Kq110 sfk111
        replace SNjc1 := SNjc1.keep Kq110
        have sz112 := Nat.le_trans szjc1 Kq110.1
        replace V_h := V_h.keep Kq110 (own_niS ne_hd_b41 own_ni0)
        replace V_c := V_c.keep Kq110 (own_niS ne_b5_b41 own_ni0)
        replace V_r := V_r.keep Kq110 (own_niS ne_rr_b41 own_ni0)
        have be113 := own_xk bejc1 Kq110 (allS le0_b41 all0)
        refine own_istore X110 hx hby at_416 (pc' := 418) rfl (Ls' := #[.val (.int p1), .val (.long p2), .second, .val (.int p3), .val (.int p4), .val (.int (Int32.ofNat H.length)), .val (.int y6), .val (.int y7), .val (.ref hd), .val (.int (Int32.ofNat nn)), .val (.int c0), .val (.int c1), .val (.int c2), .val (.int c3), .val (.ref b5), .val (.ref bd), .val (.int zs), .val (.ref b25), .val (.ref rr), .val (.ref b41), .val (.int (Int32.ofNat (out ++ own_put (own_cpAt (own_f4 c0 c1 c2 c3) nn i)).length)), .val (.int (Int32.ofNat i)), .val (.int (own_cpAt (own_f4 c0 c1 c2 c3) nn i)), .unset, .unset, .unset]) rfl ?_
        refine own_iload X110 hx hby at_418 (pc' := 420) rfl rfl ?_
        refine own_iload X110 hx hby at_420 (pc' := 422) rfl rfl ?_
        refine own_ldcI X110 hx hby hZ hown (ow_292 hw) at_422 (pc' := 424) rfl ?_
        by_cases h65 : (own_cpAt (own_f4 c0 c1 c2 c3) nn i) < (65536 : Int32)
        ·refine own_icmpY X110 hx hby at_424 (by decide) (pc' := 431) (by decide) (tlt h65).1 ?_
         refine own_iconst X110 hx hby at_431 (pc' := 432) rfl (z := 1) rfl ?_
         refine own_iadd X110 hx hby at_432 (pc' := 433) rfl ?_
         rw [show (Int32.ofNat i + (1 : Int32)) = Int32.ofNat (i + 1) from own_j (k := 1) rfl]
         refine own_istore X110 hx hby at_433 (pc' := 435) rfl (Ls' := #[.val (.int p1), .val (.long p2), .second, .val (.int p3), .val (.int p4), .val (.int (Int32.ofNat H.length)), .val (.int y6), .val (.int y7), .val (.ref hd), .val (.int (Int32.ofNat nn)), .val (.int c0), .val (.int c1), .val (.int c2), .val (.int c3), .val (.ref b5), .val (.ref bd), .val (.int zs), .val (.ref b25), .val (.ref rr), .val (.ref b41), .val (.int (Int32.ofNat (out ++ own_put (own_cpAt (own_f4 c0 c1 c2 c3) nn i)).length)), .val (.int (Int32.ofNat (i + 1))), .val (.int (own_cpAt (own_f4 c0 c1 c2 c3) nn i)), .unset, .unset, .unset]) rfl ?_
         have hk1_ : nn ≤ (i + 1) + 2 := by omega
         have hk2_ : (i + 1) ≤ 4 := by omega
         exact J108 (T110, vm_c1, h110, _, (i + 1), (out ++ own_put (own_cpAt (own_f4 c0 c1 c2 c3) nn i)), (.val (.int (own_cpAt (own_f4 c0 c1 c2 c3) nn i)))) ⟨X110.mono (by decide) (by decide), e110, hZ, hown, SNjc1, CHjc1, sz112, N110, be113, V_h, V_c, V_r, VP, (own_Estep hlt hE rfl (own_stp1 h65) rfl rfl), hk1_, (Or.inr ⟨_, rfl, rfl⟩), hk2_, SF_b41⟩
        ·refine own_icmpN X110 hx hby at_424 (pc' := 427) rfl (flt h65).1 ?_
         refine own_iconst X110 hx hby at_427 (pc' := 428) rfl (z := 2) rfl ?_
         refine own_goto X110 hx hby at_428 (by decide) (pc' := 432) (by decide) ?_
         refine own_iadd X110 hx hby at_432 (pc' := 433) rfl ?_
         rw [show (Int32.ofNat i + (2 : Int32)) = Int32.ofNat (i + 1 + 1) from own_j (k := 2) rfl]
         refine own_istore X110 hx hby at_433 (pc' := 435) rfl (Ls' := #[.val (.int p1), .val (.long p2), .second, .val (.int p3), .val (.int p4), .val (.int (Int32.ofNat H.length)), .val (.int y6), .val (.int y7), .val (.ref hd), .val (.int (Int32.ofNat nn)), .val (.int c0), .val (.int c1), .val (.int c2), .val (.int c3), .val (.ref b5), .val (.ref bd), .val (.int zs), .val (.ref b25), .val (.ref rr), .val (.ref b41), .val (.int (Int32.ofNat (out ++ own_put (own_cpAt (own_f4 c0 c1 c2 c3) nn i)).length)), .val (.int (Int32.ofNat (i + 1 + 1))), .val (.int (own_cpAt (own_f4 c0 c1 c2 c3) nn i)), .unset, .unset, .unset]) rfl ?_
         have hk1_ : nn ≤ (i + 1 + 1) + 2 := by omega
         have hk2_ : (i + 1 + 1) ≤ 4 := by omega
         exact J108 (T110, vm_c1, h110, _, (i + 1 + 1), (out ++ own_put (own_cpAt (own_f4 c0 c1 c2 c3) nn i)), (.val (.int (own_cpAt (own_f4 c0 c1 c2 c3) nn i)))) ⟨X110.mono (by decide) (by decide), e110, hZ, hown, SNjc1, CHjc1, sz112, N110, be113, V_h, V_c, V_r, VP, (own_Estep hlt hE rfl (own_stp2 h65) rfl rfl), hk1_, (Or.inr ⟨_, rfl, rfl⟩), hk2_, SF_b41⟩
       ·refine own_icmpY Xjc1 hx hby at_393 (by decide) (pc' := 435) (by decide) (flt (by rw [own_ilt (by omega) (by omega)]; exact hlt)).2.1 ?_
        have hk1_ : nn ≤ i + 2 := by omega
        have hk2_ : i ≤ 4 := by omega
        exact J108 (T_c1, vm_c1, h_c1, _, i, out, u22) ⟨Xjc1.mono (by decide) (by decide), ejc1, hZ, hown, SNjc1, CHjc1, szjc1, Njc1, bejc1, V_h, V_c, V_r, VP, hE, hk1_, hu, hk2_, SF_b41⟩
     ·intro J114
      refine own_iload Xjc0 hx hby at_343 (pc' := 345) rfl rfl ?_
      refine own_iload Xjc0 hx hby at_345 (pc' := 347) rfl rfl ?_
      have hi9 : out.length ≤ 12 := (own_Pre.len VP)
      have hib := hi16
      by_cases hlt : i < nn
      ·refine own_icmpN Xjc0 hx hby at_347 (pc' := 350) rfl (tlt ((own_ilt (by omega) (by omega)).mpr hlt)).2.1 ?_
       refine own_aload Xjc0 hx hby at_350 (pc' := 352) rfl rfl rfl ?_
       refine own_iload Xjc0 hx hby at_352 (pc' := 354) rfl rfl ?_
       refine own_iload Xjc0 hx hby at_354 (pc' := 356) rfl rfl ?_
       refine own_callM Xjc0 hx hby hml hZ hown (ow_283 hw) (ow_284 hw) (ow_4 hw) (ow_285 hw) (by decide) (cc := 0) (ss := 0) (rm_cpAt l Z a0 hw b5 nn i 4 (own_f4 c0 c1 c2 c3) h_c0 n0 (Nat.le_trans Z0 szjc0) hlt (by omega) V_c) 0 rfl rfl (by decide) (by decide) rfl (argsL := [(.ref b5), (.int (Int32.ofNat nn)), (.int (Int32.ofNat i))]) (rest := []) opd_43 rfl rfl (Nat.le_refl _) at_356 (pc' := 359) rfl rfl ejc0 (by decide) (by decide) ?_
       rintro v115 T115 h115 L115 X115 e115 ⟨rfl, Nq115, rfl⟩
       have N115 := Njc0.app Nq115
       refine own_istore X115 hx hby at_359 (pc' := 361) rfl (Ls' := #[.val (.int p1), .val (.long p2), .second, .val (.int p3), .val (.int p4), .val (.int (Int32.ofNat H.length)), .val (.int y6), .val (.int y7), .val (.ref hd), .val (.int (Int32.ofNat nn)), .val (.int c0), .val (.int c1), .val (.int c2), .val (.int c3), .val (.ref b5), .val (.ref bd), .val (.int zs), .val (.ref b25), .val (.ref rr), .val (.ref b41), .val (.int (Int32.ofNat out.length)), .val (.int (Int32.ofNat i)), .val (.int (own_cpAt (own_f4 c0 c1 c2 c3) nn i)), .unset, .unset, .unset]) (own_s26 hu rfl) ?_
       refine own_aload X115 hx hby at_361 (pc' := 363) rfl rfl rfl ?_
       refine own_iload X115 hx hby at_363 (pc' := 365) rfl rfl ?_
       refine own_iload X115 hx hby at_365 (pc' := 367) rfl rfl ?_
       have hpl : out.length + (own_put (own_cpAt (own_f4 c0 c1 c2 c3) nn i)).length ≤ 12 := by have q := congrArg List.length hE; rw [own_Ec_on hlt, List.length_append, List.length_append] at q; omega
       refine own_callM X115 hx hby hml hZ hown (ow_289 hw) (ow_290 hw) (ow_4 hw) (ow_291 hw) (by decide) (cc := 0) (ss := 0) (rm_put l Z a0 hw b41 (own_cpAt (own_f4 c0 c1 c2 c3) nn i) 12 out h_c0 n0 (Nat.le_trans Z0 szjc0) n0_b41 hpl VP) 0 rfl rfl (by decide) (by decide) rfl (argsL := [(.ref b41), (.int (Int32.ofNat out.length)), (.int (own_cpAt (own_f4 c0 c1 c2 c3) nn i))]) (rest := []) opd_7 rfl rfl (Nat.le_refl _) at_367 (pc' := 370) rfl rfl e115 (by decide) (by decide) ?_
       rintro v116 T116 h116 L116 X116 e116 ⟨rfl, Nq116, Kq116, VP⟩
       have N116 := N115.app Nq116
       have sfk117 := (sfS SF_b41 sf0)
       replace SF_b41 := Safe.keep Kq116 sfk117 CHjc0.1 SF_b41
       replace CHjc0 := CHjc0.keep Kq116 sfk117
       replace SNjc0 := SNjc0.keep Kq116
       have sz118 := Nat.le_trans szjc0 Kq116.1
       replace V_h := V_h.keep Kq116 (own_niS ne_hd_b41 own_ni0)
       replace V_c := V_c.keep Kq116 (own_niS ne_b5_b41 own_ni0)
       replace V_r := V_r.keep Kq116 (own_niS ne_rr_b41 own_ni0)
       have be119 := own_xk bejc0 Kq116 (allS le0_b41 all0)
       refine own_istore X116 hx hby at_370 (pc' := 372) rfl (Ls' := #[.val (.int p1), .val (.long p2), .second, .val (.int p3), .val (.int p4), .val (.int (Int32.ofNat H.length)), .val (.int y6), .val (.int y7), .val (.ref hd), .val (.int (Int32.ofNat nn)), .val (.int c0), .val (.int c1), .val (.int c2), .val (.int c3), .val (.ref b5), .val (.ref bd), .val (.int zs), .val (.ref b25), .val (.ref rr), .val (.ref b41), .val (.int (Int32.ofNat (out ++ own_put (own_cpAt (own_f4 c0 c1 c2 c3) nn i)).length)), .val (.int (Int32.ofNat i)), .val (.int (own_cpAt (own_f4 c0 c1 c2 c3) nn i)), .unset, .unset, .unset]) rfl ?_
       refine own_iload X116 hx hby at_372 (pc' := 374) rfl rfl ?_
       refine own_iload X116 hx hby at_374 (pc' := 376) rfl rfl ?_
       refine own_ldcI X116 hx hby hZ hown (ow_292 hw) at_376 (pc' := 378) rfl ?_
       by_cases h65 : (own_cpAt (own_f4 c0 c1 c2 c3) nn i) < (65536 : Int32)
       ·refine own_icmpY X116 hx hby at_378 (by decide) (pc' := 385) (by decide) (tlt h65).1 ?_
        refine own_iconst X116 hx hby at_385 (pc' := 386) rfl (z := 1) rfl ?_
        refine own_iadd X116 hx hby at_386 (pc' := 387) rfl ?_
        rw [show (Int32.ofNat i + (1 : Int32)) = Int32.ofNat (i + 1) from own_j (k := 1) rfl]
        refine own_istore X116 hx hby at_387 (pc' := 389) rfl (Ls' := #[.val (.int p1), .val (.long p2), .second, .val (.int p3), .val (.int p4), .val (.int (Int32.ofNat H.length)), .val (.int y6), .val (.int y7), .val (.ref hd), .val (.int (Int32.ofNat nn)), .val (.int c0), .val (.int c1), .val (.int c2), .val (.int c3), .val (.ref b5), .val (.ref bd), .val (.int zs), .val (.ref b25), .val (.ref rr), .val (.ref b41), .val (.int (Int32.ofNat (out ++ own_put (own_cpAt (own_f4 c0 c1 c2 c3) nn i)).length)), .val (.int (Int32.ofNat (i + 1))), .val (.int (own_cpAt (own_f4 c0 c1 c2 c3) nn i)), .unset, .unset, .unset]) rfl ?_
        have hk1_ : nn ≤ (i + 1) + 3 := by omega
        have hk2_ : (i + 1) ≤ 2 := by omega
        exact J114 (T116, vm_c0, h116, _, (i + 1), (out ++ own_put (own_cpAt (own_f4 c0 c1 c2 c3) nn i)), (.val (.int (own_cpAt (own_f4 c0 c1 c2 c3) nn i)))) ⟨X116.mono (by decide) (by decide), e116, hZ, hown, SNjc0, CHjc0, sz118, N116, be119, V_h, V_c, V_r, VP, (own_Estep hlt hE rfl (own_stp1 h65) rfl rfl), hk1_, (Or.inr ⟨_, rfl, rfl⟩), hk2_, SF_b41⟩
       ·refine own_icmpN X116 hx hby at_378 (pc' := 381) rfl (flt h65).1 ?_
        refine own_iconst X116 hx hby at_381 (pc' := 382) rfl (z := 2) rfl ?_
        refine own_goto X116 hx hby at_382 (by decide) (pc' := 386) (by decide) ?_
        refine own_iadd X116 hx hby at_386 (pc' := 387) rfl ?_
        rw [show (Int32.ofNat i + (2 : Int32)) = Int32.ofNat (i + 1 + 1) from own_j (k := 2) rfl]
        refine own_istore X116 hx hby at_387 (pc' := 389) rfl (Ls' := #[.val (.int p1), .val (.long p2), .second, .val (.int p3), .val (.int p4), .val (.int (Int32.ofNat H.length)), .val (.int y6), .val (.int y7), .val (.ref hd), .val (.int (Int32.ofNat nn)), .val (.int c0), .val (.int c1), .val (.int c2), .val (.int c3), .val (.ref b5), .val (.ref bd), .val (.int zs), .val (.ref b25), .val (.ref rr), .val (.ref b41), .val (.int (Int32.ofNat (out ++ own_put (own_cpAt (own_f4 c0 c1 c2 c3) nn i)).length)), .val (.int (Int32.ofNat (i + 1 + 1))), .val (.int (own_cpAt (own_f4 c0 c1 c2 c3) nn i)), .unset, .unset, .unset]) rfl ?_
        have hk1_ : nn ≤ (i + 1 + 1) + 3 := by omega
        have hk2_ : (i + 1 + 1) ≤ 2 := by omega
        exact J114 (T116, vm_c0, h116, _, (i + 1 + 1), (out ++ own_put (own_cpAt (own_f4 c0 c1 c2 c3) nn i)), (.val (.int (own_cpAt (own_f4 c0 c1 c2 c3) nn i)))) ⟨X116.mono (by decide) (by decide), e116, hZ, hown, SNjc0, CHjc0, sz118, N116, be119, V_h, V_c, V_r, VP, (own_Estep hlt hE rfl (own_stp2 h65) rfl rfl), hk1_, (Or.inr ⟨_, rfl, rfl⟩), hk2_, SF_b41⟩
      ·refine own_icmpY Xjc0 hx hby at_347 (by decide) (pc' := 389) (by decide) (flt (by rw [own_ilt (by omega) (by omega)]; exact hlt)).2.1 ?_
       have hk1_ : nn ≤ i + 3 := by omega
       have hk2_ : i ≤ 2 := by omega
       exact J114 (T_c0, vm_c0, h_c0, _, i, out, u22) ⟨Xjc0.mono (by decide) (by decide), ejc0, hZ, hown, SNjc0, CHjc0, szjc0, Njc0, bejc0, V_h, V_c, V_r, VP, hE, hk1_, hu, hk2_, SF_b41⟩
    ·intro J120
     have hk1_ : nn ≤ 0 + 4 := by omega
     have hk2_ : 0 ≤ 0 := by omega
     exact J120 (T41, vm38, h41, _, 0, [], .unset) ⟨X41.mono (by decide) (by decide), e41, hZ, hown, SN38, CHt38, sz42, N38, be43, V_h, V_c, V_r, VP, rfl, hk1_, (Or.inl rfl), hk2_, SF_b41⟩
   ·intro J24
    by_cases hse : (((p3.toUInt32 >>> ((8 : Int32) &&& 31).toUInt32).toInt32) &&& (1 : Int32)) = (0 : Int32)
    ·refine own_ifY Xjb hx hby at_293 (by decide) (pc' := 300) (by decide) (teq hse).1 ?_
     refine own_iconst Xjb hx hby at_300 (pc' := 301) rfl (z := 0) rfl ?_
     exact J24 _ trivial
    ·refine own_ifN Xjb hx hby at_293 (pc' := 296) rfl (feq hse).1 ?_
     refine own_iconst Xjb hx hby at_296 (pc' := 297) rfl (z := 1) rfl ?_
     refine own_goto Xjb hx hby at_297 (by decide) (pc' := 301) (by decide) ?_
     exact J24 _ trivial
  ·intro J121
   have h01 : nn = 0 ∨ nn = 1 ∨ nn = 2 ∨ nn = 3 ∨ nn = 4 := by omega
   rcases h01 with rfl | rfl | rfl | rfl | rfl
   ·refine own_ifN X20 hx hby at_152 (pc' := 155) rfl (teq rfl).2 ?_
    refine own_newO X20 hx hby hZ hown (ow_7 hw) (ow_8 hw) (ow_9 hw) e20 at_155 (pc' := 158) rfl (by decide) (by decide) ?_
    intro T122 h122 b122 g122 X122 e122 E122 AX122 D122
    have ne_hd_b122 : hd ≠ b122 := own_nl V_h.lt g122
    have ne_b5_b122 : b5 ≠ b122 := own_nl C_b5.lt g122
    have n0_b122 : n0 ≤ b122 := Nat.le_trans (Nat.le_trans Z0 sz22) (Nat.le_of_eq g122.symm)
    have le0_b122 : h0.size ≤ b122 := Nat.le_trans sz22 (Nat.le_of_eq g122.symm)
    have SF_b122 : Safe Z own_EL vm_a h20 b122 := Safe.new (Nat.le_of_eq g122.symm)
    replace SF_b122 := Safe.ext E122 CHja.1 SF_b122
    replace SNja := SNja.ext E122
    replace CHja := CHja.ext E122
    have sz123 := Nat.le_trans sz22 E122.1
    replace V_h := V_h.ext E122
    replace C_b5 := C_b5.ext E122
    have be124 := own_xt be23 E122
    have F_value_b122 : Fld Z h122 b122 "java/lang/String" "value" "[B" .null := D122 (Or.inr (ow_21 hw)) (ty := (.array .byte)) (by decide)
    have F_coder_b122 : Fld Z h122 b122 "java/lang/String" "coder" "B" (.int (0 : Int32)) := D122 (Or.inr (ow_22 hw)) (ty := .byte) (by decide)
    refine own_dup X122 hx hby at_158 (pc' := 159) rfl rfl ?_
    refine own_iconst X122 hx hby at_159 (pc' := 160) rfl (z := 0) rfl ?_
    refine own_nC (N := 0) X122 hx hby hZ (ow_6 hw) e122 at_160 (pc' := 162) rfl (cap := 0) (Nat.le_refl _) (by decide) (by decide) (by decide) ?_
    intro T125 h125 b125 g125 X125 e125 E125 V_b125
    have ne_hd_b125 : hd ≠ b125 := own_nl V_h.lt g125
    have ne_b5_b125 : b5 ≠ b125 := own_nl C_b5.lt g125
    have ne_b122_b125 : b122 ≠ b125 := own_nl AX122.lt g125
    have n0_b125 : n0 ≤ b125 := Nat.le_trans (Nat.le_trans Z0 sz123) (Nat.le_of_eq g125.symm)
    have le0_b125 : h0.size ≤ b125 := Nat.le_trans sz123 (Nat.le_of_eq g125.symm)
    have SF_b125 : Safe Z own_EL vm_a h122 b125 := Safe.new (Nat.le_of_eq g125.symm)
    replace SF_b122 := Safe.ext E125 CHja.1 SF_b122
    replace SF_b125 := Safe.ext E125 CHja.1 SF_b125
    replace SNja := SNja.ext E125
    replace CHja := CHja.ext E125
    have sz126 := Nat.le_trans sz123 E125.1
    replace V_h := V_h.ext E125
    replace C_b5 := C_b5.ext E125
    replace AX122 := AX122.ext E125
    replace F_value_b122 := F_value_b122.ext E125
    replace F_coder_b122 := F_coder_b122.ext E125
    have be127 := own_xt be124 E125
    have C_b125 : own_Fa Z h125 b125 .char "[C" (fun _ => True) 0 (fun y_ => .int ((own_f4 c0 c1 c2 c3) y_)) := V_b125.congr (fun i hi => absurd hi (Nat.not_lt_zero i))
    refine own_specMW X125 hx hby hml hZ hown SNja (CHr.refl CHja.1) rfl (ow_10 hw) (ow_11 hw) (ow_9 hw) (ow_12 hw) (by decide) (cc := 4) (ss := 8) (own_ew hw) (rm_str0 l Z a0 hw b122 b125 (own_f4 c0 c1 c2 c3) (own_f4 c0 c1 c2 c3) h125 n0 (Nat.le_trans Z0 sz126) n0_b122 AX122 F_value_b122 F_coder_b122 C_b125) 1 rfl rfl (by decide) (by decide) rfl (argsL := [(.ref b125)]) (rest := [(.ref b122)]) opd_44 rfl rfl (Nat.le_refl _) at_162 (pc' := 165) rfl rfl e125 (by decide) (by decide) ?_
    rintro v128 T128 vm128 h128 L128 X128 e128 hZ hown SN128 CH128 gr128 ⟨rfl, Nq128, Kq128, S_b⟩
    have N128 := N20.app Nq128
    replace SF_b122 := CHr.safe CH128 AX122.lt SF_b122
    have sz129 := Nat.le_trans sz126 Kq128.1
    replace V_h := V_h.keep Kq128 (own_niS ne_hd_b122 own_ni0)
    replace C_b5 := C_b5.keep Kq128 (own_niS ne_b5_b122 own_ni0)
    replace AX122 := AX122.keep Kq128
    replace C_b125 := C_b125.keep Kq128 (own_niS (Ne.symm ne_b122_b125) own_ni0)
    have be130 := own_xk be127 Kq128 (allS le0_b122 all0)
    have CHt128 := CHr.trans CHja CH128
    replace CHt128 : own_CH Z own_EL s.vm h0 vm128 h128 := CHt128
    refine own_goto X128 hx hby at_165 (by decide) (pc' := 285) (by decide) ?_
    exact J121 (T128, vm128, h128, _, b122) ⟨X128.mono (by decide) (by decide), e128, hZ, hown, SN128, CHt128, sz129, N128, be130, S_b, V_h, C_b5⟩
   ·refine own_ifY X20 hx hby at_152 (by decide) (pc' := 168) (by decide) (feq (by decide)).2 ?_
    refine own_iload X20 hx hby at_168 (pc' := 170) rfl rfl ?_
    refine own_iconst X20 hx hby at_170 (pc' := 171) rfl (z := 1) rfl ?_
    refine own_icmpN X20 hx hby at_171 (pc' := 174) rfl (teq rfl).2 ?_
    refine own_newO X20 hx hby hZ hown (ow_7 hw) (ow_8 hw) (ow_9 hw) e20 at_174 (pc' := 177) rfl (by decide) (by decide) ?_
    intro T131 h131 b131 g131 X131 e131 E131 AX131 D131
    have ne_hd_b131 : hd ≠ b131 := own_nl V_h.lt g131
    have ne_b5_b131 : b5 ≠ b131 := own_nl C_b5.lt g131
    have n0_b131 : n0 ≤ b131 := Nat.le_trans (Nat.le_trans Z0 sz22) (Nat.le_of_eq g131.symm)
    have le0_b131 : h0.size ≤ b131 := Nat.le_trans sz22 (Nat.le_of_eq g131.symm)
    have SF_b131 : Safe Z own_EL vm_a h20 b131 := Safe.new (Nat.le_of_eq g131.symm)
    replace SF_b131 := Safe.ext E131 CHja.1 SF_b131
    replace SNja := SNja.ext E131
    replace CHja := CHja.ext E131
    have sz132 := Nat.le_trans sz22 E131.1
    replace V_h := V_h.ext E131
    replace C_b5 := C_b5.ext E131
    have be133 := own_xt be23 E131
    have F_value_b131 : Fld Z h131 b131 "java/lang/String" "value" "[B" .null := D131 (Or.inr (ow_21 hw)) (ty := (.array .byte)) (by decide)
    have F_coder_b131 : Fld Z h131 b131 "java/lang/String" "coder" "B" (.int (0 : Int32)) := D131 (Or.inr (ow_22 hw)) (ty := .byte) (by decide)
    refine own_dup X131 hx hby at_177 (pc' := 178) rfl rfl ?_
    refine own_iconst X131 hx hby at_178 (pc' := 179) rfl (z := 1) rfl ?_
    refine own_nC (N := 1) X131 hx hby hZ (ow_6 hw) e131 at_179 (pc' := 181) rfl (cap := 1) (Nat.le_refl _) (by decide) (by decide) (by decide) ?_
    intro T134 h134 b134 g134 X134 e134 E134 V_b134
    have ne_hd_b134 : hd ≠ b134 := own_nl V_h.lt g134
    have ne_b5_b134 : b5 ≠ b134 := own_nl C_b5.lt g134
    have ne_b131_b134 : b131 ≠ b134 := own_nl AX131.lt g134
    have n0_b134 : n0 ≤ b134 := Nat.le_trans (Nat.le_trans Z0 sz132) (Nat.le_of_eq g134.symm)
    have le0_b134 : h0.size ≤ b134 := Nat.le_trans sz132 (Nat.le_of_eq g134.symm)
    have SF_b134 : Safe Z own_EL vm_a h131 b134 := Safe.new (Nat.le_of_eq g134.symm)
    replace SF_b131 := Safe.ext E134 CHja.1 SF_b131
    replace SF_b134 := Safe.ext E134 CHja.1 SF_b134
    replace SNja := SNja.ext E134
    replace CHja := CHja.ext E134
    have sz135 := Nat.le_trans sz132 E134.1
    replace V_h := V_h.ext E134
    replace C_b5 := C_b5.ext E134
    replace AX131 := AX131.ext E134
    replace F_value_b131 := F_value_b131.ext E134
    replace F_coder_b131 := F_coder_b131.ext E134
    have be136 := own_xt be133 E134
    refine own_dup X134 hx hby at_181 (pc' := 182) rfl rfl ?_
    refine own_iconst X134 hx hby at_182 (pc' := 183) rfl (z := 0) rfl ?_
    refine own_iload X134 hx hby at_183 (pc' := 185) rfl rfl ?_
    refine own_gC X134 hx hby hZ e134 V_b134 (J := 0) (by decide) (w := c0) (own_narC hc0) at_185 (pc' := 186) rfl ?_
    intro T137 h137 X137 e137 W137 Qb134_0
    have sfw138 := SF_b134
    replace SF_b131 := Safe.wr W137 sfw138 CHja.1 SF_b131
    replace SF_b134 := Safe.wr W137 sfw138 CHja.1 SF_b134
    replace CHja := CHja.wr W137 sfw138
    replace SNja := SNja.wr W137
    have sz139 := Nat.le_trans sz135 (Keep.of_wr W137).1
    replace V_h := V_h.other W137 ne_hd_b134
    replace C_b5 := C_b5.other W137 ne_b5_b134
    replace AX131 := AX131.wr W137
    replace F_value_b131 := F_value_b131.other W137 (Or.inl ne_b131_b134)
    replace F_coder_b131 := F_coder_b131.other W137 (Or.inl ne_b131_b134)
    have be140 := own_xw be136 W137 le0_b134
    have N137 := own_fr1 (sl := 0) N20 n0_b134
    have C_b134 : own_Fa Z h137 b134 .char "[C" (fun _ => True) 1 (fun y_ => .int ((own_f4 c0 c1 c2 c3) y_)) := Qb134_0.congr (fun i hi => by rcases (show i = 0 by omega) with rfl <;> rfl)
    refine own_specM X137 hx hby hml hZ hown rfl (ow_10 hw) (ow_11 hw) (ow_9 hw) (ow_12 hw) (by decide) (cc := 2) (ss := 24) (rm_str l Z a0 hw b131 b134 1 (own_f4 c0 c1 c2 c3) G1 h137 n0 (Nat.le_trans Z0 sz139) n0_b131 ne_b131_b134 (by decide) (by decide) hcb (S_as.ext be140) (S_hi.ext be140) (S_lo.ext be140) (S_cs.ext be140) P5 AX131 F_value_b131 F_coder_b131 C_b134) 1 rfl rfl (by decide) (by decide) rfl (argsL := [(.ref b134)]) (rest := [(.ref b131)]) opd_44 rfl rfl (Nat.le_refl _) at_186 (pc' := 189) rfl rfl e137 (by decide) (by decide) ?_
    rintro v141 T141 h141 L141 X141 e141 ⟨rfl, Nq141, Kq141, S_b⟩
    have N141 := N137.app Nq141
    have sfk142 := (sfS SF_b131 sf0)
    replace SF_b131 := Safe.keep Kq141 sfk142 CHja.1 SF_b131
    replace CHja := CHja.keep Kq141 sfk142
    replace SNja := SNja.keep Kq141
    have sz143 := Nat.le_trans sz139 Kq141.1
    replace V_h := V_h.keep Kq141 (own_niS ne_hd_b131 own_ni0)
    replace C_b5 := C_b5.keep Kq141 (own_niS ne_b5_b131 own_ni0)
    replace AX131 := AX131.keep Kq141
    replace C_b134 := C_b134.keep Kq141 (own_niS (Ne.symm ne_b131_b134) own_ni0)
    have be144 := own_xk be140 Kq141 (allS le0_b131 all0)
    refine own_goto X141 hx hby at_189 (by decide) (pc' := 285) (by decide) ?_
    exact J121 (T141, vm_a, h141, _, b131) ⟨X141.mono (by decide) (by decide), e141, hZ, hown, SNja, CHja, sz143, N141, be144, S_b, V_h, C_b5⟩
   ·refine own_ifY X20 hx hby at_152 (by decide) (pc' := 168) (by decide) (feq (by decide)).2 ?_
    refine own_iload X20 hx hby at_168 (pc' := 170) rfl rfl ?_
    refine own_iconst X20 hx hby at_170 (pc' := 171) rfl (z := 1) rfl ?_
    refine own_icmpY X20 hx hby at_171 (by decide) (pc' := 192) (by decide) (feq (by decide)).2 ?_
    refine own_iload X20 hx hby at_192 (pc' := 194) rfl rfl ?_
    refine own_iconst X20 hx hby at_194 (pc' := 195) rfl (z := 2) rfl ?_
    refine own_icmpN X20 hx hby at_195 (pc' := 198) rfl (teq rfl).2 ?_
    refine own_newO X20 hx hby hZ hown (ow_7 hw) (ow_8 hw) (ow_9 hw) e20 at_198 (pc' := 201) rfl (by decide) (by decide) ?_
    intro T145 h145 b145 g145 X145 e145 E145 AX145 D145
    have ne_hd_b145 : hd ≠ b145 := own_nl V_h.lt g145
    have ne_b5_b145 : b5 ≠ b145 := own_nl C_b5.lt g145
    have n0_b145 : n0 ≤ b145 := Nat.le_trans (Nat.le_trans Z0 sz22) (Nat.le_of_eq g145.symm)
    have le0_b145 : h0.size ≤ b145 := Nat.le_trans sz22 (Nat.le_of_eq g145.symm)
    have SF_b145 : Safe Z own_EL vm_a h20 b145 := Safe.new (Nat.le_of_eq g145.symm)
    replace SF_b145 := Safe.ext E145 CHja.1 SF_b145
    replace SNja := SNja.ext E145
    replace CHja := CHja.ext E145
    have sz146 := Nat.le_trans sz22 E145.1
    replace V_h := V_h.ext E145
    replace C_b5 := C_b5.ext E145
    have be147 := own_xt be23 E145
    have F_value_b145 : Fld Z h145 b145 "java/lang/String" "value" "[B" .null := D145 (Or.inr (ow_21 hw)) (ty := (.array .byte)) (by decide)
    have F_coder_b145 : Fld Z h145 b145 "java/lang/String" "coder" "B" (.int (0 : Int32)) := D145 (Or.inr (ow_22 hw)) (ty := .byte) (by decide)
    refine own_dup X145 hx hby at_201 (pc' := 202) rfl rfl ?_
    refine own_iconst X145 hx hby at_202 (pc' := 203) rfl (z := 2) rfl ?_
    refine own_nC (N := 2) X145 hx hby hZ (ow_6 hw) e145 at_203 (pc' := 205) rfl (cap := 2) (Nat.le_refl _) (by decide) (by decide) (by decide) ?_
    intro T148 h148 b148 g148 X148 e148 E148 V_b148
    have ne_hd_b148 : hd ≠ b148 := own_nl V_h.lt g148
    have ne_b5_b148 : b5 ≠ b148 := own_nl C_b5.lt g148
    have ne_b145_b148 : b145 ≠ b148 := own_nl AX145.lt g148
    have n0_b148 : n0 ≤ b148 := Nat.le_trans (Nat.le_trans Z0 sz146) (Nat.le_of_eq g148.symm)
    have le0_b148 : h0.size ≤ b148 := Nat.le_trans sz146 (Nat.le_of_eq g148.symm)
    have SF_b148 : Safe Z own_EL vm_a h145 b148 := Safe.new (Nat.le_of_eq g148.symm)
    replace SF_b145 := Safe.ext E148 CHja.1 SF_b145
    replace SF_b148 := Safe.ext E148 CHja.1 SF_b148
    replace SNja := SNja.ext E148
    replace CHja := CHja.ext E148
    have sz149 := Nat.le_trans sz146 E148.1
    replace V_h := V_h.ext E148
    replace C_b5 := C_b5.ext E148
    replace AX145 := AX145.ext E148
    replace F_value_b145 := F_value_b145.ext E148
    replace F_coder_b145 := F_coder_b145.ext E148
    have be150 := own_xt be147 E148
    refine own_dup X148 hx hby at_205 (pc' := 206) rfl rfl ?_
    refine own_iconst X148 hx hby at_206 (pc' := 207) rfl (z := 0) rfl ?_
    refine own_iload X148 hx hby at_207 (pc' := 209) rfl rfl ?_
    refine own_gC X148 hx hby hZ e148 V_b148 (J := 0) (by decide) (w := c0) (own_narC hc0) at_209 (pc' := 210) rfl ?_
    intro T151 h151 X151 e151 W151 Qb148_0
    have sfw152 := SF_b148
    replace SF_b145 := Safe.wr W151 sfw152 CHja.1 SF_b145
    replace SF_b148 := Safe.wr W151 sfw152 CHja.1 SF_b148
    replace CHja := CHja.wr W151 sfw152
    replace SNja := SNja.wr W151
    have sz153 := Nat.le_trans sz149 (Keep.of_wr W151).1
    replace V_h := V_h.other W151 ne_hd_b148
    replace C_b5 := C_b5.other W151 ne_b5_b148
    replace AX145 := AX145.wr W151
    replace F_value_b145 := F_value_b145.other W151 (Or.inl ne_b145_b148)
    replace F_coder_b145 := F_coder_b145.other W151 (Or.inl ne_b145_b148)
    have be154 := own_xw be150 W151 le0_b148
    have N151 := own_fr1 (sl := 0) N20 n0_b148
    refine own_dup X151 hx hby at_210 (pc' := 211) rfl rfl ?_
    refine own_iconst X151 hx hby at_211 (pc' := 212) rfl (z := 1) rfl ?_
    refine own_iload X151 hx hby at_212 (pc' := 214) rfl rfl ?_
    refine own_gC X151 hx hby hZ e151 Qb148_0 (J := 1) (by decide) (w := c1) (own_narC hc1) at_214 (pc' := 215) rfl ?_
    intro T155 h155 X155 e155 W155 Qb148_1
    have sfw156 := SF_b148
    replace SF_b145 := Safe.wr W155 sfw156 CHja.1 SF_b145
    replace SF_b148 := Safe.wr W155 sfw156 CHja.1 SF_b148
    replace CHja := CHja.wr W155 sfw156
    replace SNja := SNja.wr W155
    have sz157 := Nat.le_trans sz153 (Keep.of_wr W155).1
    replace V_h := V_h.other W155 ne_hd_b148
    replace C_b5 := C_b5.other W155 ne_b5_b148
    replace AX145 := AX145.wr W155
    replace F_value_b145 := F_value_b145.other W155 (Or.inl ne_b145_b148)
    replace F_coder_b145 := F_coder_b145.other W155 (Or.inl ne_b145_b148)
    have be158 := own_xw be154 W155 le0_b148
    have N155 := own_fr1 (sl := 1) N151 n0_b148
    have C_b148 : own_Fa Z h155 b148 .char "[C" (fun _ => True) 2 (fun y_ => .int ((own_f4 c0 c1 c2 c3) y_)) := Qb148_1.congr (fun i hi => by rcases (show i = 0 ∨ i = 1 by omega) with rfl | rfl <;> rfl)
    refine own_specM X155 hx hby hml hZ hown rfl (ow_10 hw) (ow_11 hw) (ow_9 hw) (ow_12 hw) (by decide) (cc := 2) (ss := 24) (rm_str l Z a0 hw b145 b148 2 (own_f4 c0 c1 c2 c3) G1 h155 n0 (Nat.le_trans Z0 sz157) n0_b145 ne_b145_b148 (by decide) (by decide) hcb (S_as.ext be158) (S_hi.ext be158) (S_lo.ext be158) (S_cs.ext be158) P5 AX145 F_value_b145 F_coder_b145 C_b148) 1 rfl rfl (by decide) (by decide) rfl (argsL := [(.ref b148)]) (rest := [(.ref b145)]) opd_44 rfl rfl (Nat.le_refl _) at_215 (pc' := 218) rfl rfl e155 (by decide) (by decide) ?_
    rintro v159 T159 h159 L159 X159 e159 ⟨rfl, Nq159, Kq159, S_b⟩
    have N159 := N155.app Nq159
    have sfk160 := (sfS SF_b145 sf0)
    replace SF_b145 := Safe.keep Kq159 sfk160 CHja.1 SF_b145
    replace CHja := CHja.keep Kq159 sfk160
    replace SNja := SNja.keep Kq159
    have sz161 := Nat.le_trans sz157 Kq159.1
    replace V_h := V_h.keep Kq159 (own_niS ne_hd_b145 own_ni0)
    replace C_b5 := C_b5.keep Kq159 (own_niS ne_b5_b145 own_ni0)
    replace AX145 := AX145.keep Kq159
    replace C_b148 := C_b148.keep Kq159 (own_niS (Ne.symm ne_b145_b148) own_ni0)
    have be162 := own_xk be158 Kq159 (allS le0_b145 all0)
    refine own_goto X159 hx hby at_218 (by decide) (pc' := 285) (by decide) ?_
    exact J121 (T159, vm_a, h159, _, b145) ⟨X159.mono (by decide) (by decide), e159, hZ, hown, SNja, CHja, sz161, N159, be162, S_b, V_h, C_b5⟩
   ·refine own_ifY X20 hx hby at_152 (by decide) (pc' := 168) (by decide) (feq (by decide)).2 ?_
    refine own_iload X20 hx hby at_168 (pc' := 170) rfl rfl ?_
    refine own_iconst X20 hx hby at_170 (pc' := 171) rfl (z := 1) rfl ?_
    refine own_icmpY X20 hx hby at_171 (by decide) (pc' := 192) (by decide) (feq (by decide)).2 ?_
    refine own_iload X20 hx hby at_192 (pc' := 194) rfl rfl ?_
    refine own_iconst X20 hx hby at_194 (pc' := 195) rfl (z := 2) rfl ?_
    refine own_icmpY X20 hx hby at_195 (by decide) (pc' := 221) (by decide) (feq (by decide)).2 ?_
    refine own_iload X20 hx hby at_221 (pc' := 223) rfl rfl ?_
    refine own_iconst X20 hx hby at_223 (pc' := 224) rfl (z := 3) rfl ?_
    refine own_icmpN X20 hx hby at_224 (pc' := 227) rfl (teq rfl).2 ?_
    refine own_newO X20 hx hby hZ hown (ow_7 hw) (ow_8 hw) (ow_9 hw) e20 at_227 (pc' := 230) rfl (by decide) (by decide) ?_
    intro T163 h163 b163 g163 X163 e163 E163 AX163 D163
    have ne_hd_b163 : hd ≠ b163 := own_nl V_h.lt g163
    have ne_b5_b163 : b5 ≠ b163 := own_nl C_b5.lt g163
    have n0_b163 : n0 ≤ b163 := Nat.le_trans (Nat.le_trans Z0 sz22) (Nat.le_of_eq g163.symm)
    have le0_b163 : h0.size ≤ b163 := Nat.le_trans sz22 (Nat.le_of_eq g163.symm)
    have SF_b163 : Safe Z own_EL vm_a h20 b163 := Safe.new (Nat.le_of_eq g163.symm)
    replace SF_b163 := Safe.ext E163 CHja.1 SF_b163
    replace SNja := SNja.ext E163
    replace CHja := CHja.ext E163
    have sz164 := Nat.le_trans sz22 E163.1
    replace V_h := V_h.ext E163
    replace C_b5 := C_b5.ext E163
    have be165 := own_xt be23 E163
    have F_value_b163 : Fld Z h163 b163 "java/lang/String" "value" "[B" .null := D163 (Or.inr (ow_21 hw)) (ty := (.array .byte)) (by decide)
    have F_coder_b163 : Fld Z h163 b163 "java/lang/String" "coder" "B" (.int (0 : Int32)) := D163 (Or.inr (ow_22 hw)) (ty := .byte) (by decide)
    refine own_dup X163 hx hby at_230 (pc' := 231) rfl rfl ?_
    refine own_iconst X163 hx hby at_231 (pc' := 232) rfl (z := 3) rfl ?_
    refine own_nC (N := 3) X163 hx hby hZ (ow_6 hw) e163 at_232 (pc' := 234) rfl (cap := 3) (Nat.le_refl _) (by decide) (by decide) (by decide) ?_
    intro T166 h166 b166 g166 X166 e166 E166 V_b166
    have ne_hd_b166 : hd ≠ b166 := own_nl V_h.lt g166
    have ne_b5_b166 : b5 ≠ b166 := own_nl C_b5.lt g166
    have ne_b163_b166 : b163 ≠ b166 := own_nl AX163.lt g166
    have n0_b166 : n0 ≤ b166 := Nat.le_trans (Nat.le_trans Z0 sz164) (Nat.le_of_eq g166.symm)
    have le0_b166 : h0.size ≤ b166 := Nat.le_trans sz164 (Nat.le_of_eq g166.symm)
    have SF_b166 : Safe Z own_EL vm_a h163 b166 := Safe.new (Nat.le_of_eq g166.symm)
    replace SF_b163 := Safe.ext E166 CHja.1 SF_b163
    replace SF_b166 := Safe.ext E166 CHja.1 SF_b166
    replace SNja := SNja.ext E166
    replace CHja := CHja.ext E166
    have sz167 := Nat.le_trans sz164 E166.1
    replace V_h := V_h.ext E166
    replace C_b5 := C_b5.ext E166
    replace AX163 := AX163.ext E166
    replace F_value_b163 := F_value_b163.ext E166
    replace F_coder_b163 := F_coder_b163.ext E166
    have be168 := own_xt be165 E166
    refine own_dup X166 hx hby at_234 (pc' := 235) rfl rfl ?_
    refine own_iconst X166 hx hby at_235 (pc' := 236) rfl (z := 0) rfl ?_
    refine own_iload X166 hx hby at_236 (pc' := 238) rfl rfl ?_
    refine own_gC X166 hx hby hZ e166 V_b166 (J := 0) (by decide) (w := c0) (own_narC hc0) at_238 (pc' := 239) rfl ?_
    intro T169 h169 X169 e169 W169 Qb166_0
    have sfw170 := SF_b166
    replace SF_b163 := Safe.wr W169 sfw170 CHja.1 SF_b163
    replace SF_b166 := Safe.wr W169 sfw170 CHja.1 SF_b166
    replace CHja := CHja.wr W169 sfw170
    replace SNja := SNja.wr W169
    have sz171 := Nat.le_trans sz167 (Keep.of_wr W169).1
    replace V_h := V_h.other W169 ne_hd_b166
    replace C_b5 := C_b5.other W169 ne_b5_b166
    replace AX163 := AX163.wr W169
    replace F_value_b163 := F_value_b163.other W169 (Or.inl ne_b163_b166)
    replace F_coder_b163 := F_coder_b163.other W169 (Or.inl ne_b163_b166)
    have be172 := own_xw be168 W169 le0_b166
    have N169 := own_fr1 (sl := 0) N20 n0_b166
    refine own_dup X169 hx hby at_239 (pc' := 240) rfl rfl ?_
    refine own_iconst X169 hx hby at_240 (pc' := 241) rfl (z := 1) rfl ?_
    refine own_iload X169 hx hby at_241 (pc' := 243) rfl rfl ?_
    refine own_gC X169 hx hby hZ e169 Qb166_0 (J := 1) (by decide) (w := c1) (own_narC hc1) at_243 (pc' := 244) rfl ?_
    intro T173 h173 X173 e173 W173 Qb166_1
    have sfw174 := SF_b166
    replace SF_b163 := Safe.wr W173 sfw174 CHja.1 SF_b163
    replace SF_b166 := Safe.wr W173 sfw174 CHja.1 SF_b166
    replace CHja := CHja.wr W173 sfw174
    replace SNja := SNja.wr W173
    have sz175 := Nat.le_trans sz171 (Keep.of_wr W173).1
    replace V_h := V_h.other W173 ne_hd_b166
    replace C_b5 := C_b5.other W173 ne_b5_b166
    replace AX163 := AX163.wr W173
    replace F_value_b163 := F_value_b163.other W173 (Or.inl ne_b163_b166)
    replace F_coder_b163 := F_coder_b163.other W173 (Or.inl ne_b163_b166)
    have be176 := own_xw be172 W173 le0_b166
    have N173 := own_fr1 (sl := 1) N169 n0_b166
    refine own_dup X173 hx hby at_244 (pc' := 245) rfl rfl ?_
    refine own_iconst X173 hx hby at_245 (pc' := 246) rfl (z := 2) rfl ?_
    refine own_iload X173 hx hby at_246 (pc' := 248) rfl rfl ?_
    refine own_gC X173 hx hby hZ e173 Qb166_1 (J := 2) (by decide) (w := c2) (own_narC hc2) at_248 (pc' := 249) rfl ?_
    intro T177 h177 X177 e177 W177 Qb166_2
    have sfw178 := SF_b166
    replace SF_b163 := Safe.wr W177 sfw178 CHja.1 SF_b163
    replace SF_b166 := Safe.wr W177 sfw178 CHja.1 SF_b166
    replace CHja := CHja.wr W177 sfw178
    replace SNja := SNja.wr W177
    have sz179 := Nat.le_trans sz175 (Keep.of_wr W177).1
    replace V_h := V_h.other W177 ne_hd_b166
    replace C_b5 := C_b5.other W177 ne_b5_b166
    replace AX163 := AX163.wr W177
    replace F_value_b163 := F_value_b163.other W177 (Or.inl ne_b163_b166)
    replace F_coder_b163 := F_coder_b163.other W177 (Or.inl ne_b163_b166)
    have be180 := own_xw be176 W177 le0_b166
    have N177 := own_fr1 (sl := 2) N173 n0_b166
    have C_b166 : own_Fa Z h177 b166 .char "[C" (fun _ => True) 3 (fun y_ => .int ((own_f4 c0 c1 c2 c3) y_)) := Qb166_2.congr (fun i hi => by rcases (show i = 0 ∨ i = 1 ∨ i = 2 by omega) with rfl | rfl | rfl <;> rfl)
    refine own_specM X177 hx hby hml hZ hown rfl (ow_10 hw) (ow_11 hw) (ow_9 hw) (ow_12 hw) (by decide) (cc := 2) (ss := 24) (rm_str l Z a0 hw b163 b166 3 (own_f4 c0 c1 c2 c3) G1 h177 n0 (Nat.le_trans Z0 sz179) n0_b163 ne_b163_b166 (by decide) (by decide) hcb (S_as.ext be180) (S_hi.ext be180) (S_lo.ext be180) (S_cs.ext be180) P5 AX163 F_value_b163 F_coder_b163 C_b166) 1 rfl rfl (by decide) (by decide) rfl (argsL := [(.ref b166)]) (rest := [(.ref b163)]) opd_44 rfl rfl (Nat.le_refl _) at_249 (pc' := 252) rfl rfl e177 (by decide) (by decide) ?_
    rintro v181 T181 h181 L181 X181 e181 ⟨rfl, Nq181, Kq181, S_b⟩
    have N181 := N177.app Nq181
    have sfk182 := (sfS SF_b163 sf0)
    replace SF_b163 := Safe.keep Kq181 sfk182 CHja.1 SF_b163
    replace CHja := CHja.keep Kq181 sfk182
    replace SNja := SNja.keep Kq181
    have sz183 := Nat.le_trans sz179 Kq181.1
    replace V_h := V_h.keep Kq181 (own_niS ne_hd_b163 own_ni0)
    replace C_b5 := C_b5.keep Kq181 (own_niS ne_b5_b163 own_ni0)
    replace AX163 := AX163.keep Kq181
    replace C_b166 := C_b166.keep Kq181 (own_niS (Ne.symm ne_b163_b166) own_ni0)
    have be184 := own_xk be180 Kq181 (allS le0_b163 all0)
    refine own_goto X181 hx hby at_252 (by decide) (pc' := 285) (by decide) ?_
    exact J121 (T181, vm_a, h181, _, b163) ⟨X181.mono (by decide) (by decide), e181, hZ, hown, SNja, CHja, sz183, N181, be184, S_b, V_h, C_b5⟩
   ·refine own_ifY X20 hx hby at_152 (by decide) (pc' := 168) (by decide) (feq (by decide)).2 ?_
    refine own_iload X20 hx hby at_168 (pc' := 170) rfl rfl ?_
    refine own_iconst X20 hx hby at_170 (pc' := 171) rfl (z := 1) rfl ?_
    refine own_icmpY X20 hx hby at_171 (by decide) (pc' := 192) (by decide) (feq (by decide)).2 ?_
    refine own_iload X20 hx hby at_192 (pc' := 194) rfl rfl ?_
    refine own_iconst X20 hx hby at_194 (pc' := 195) rfl (z := 2) rfl ?_
    refine own_icmpY X20 hx hby at_195 (by decide) (pc' := 221) (by decide) (feq (by decide)).2 ?_
    refine own_iload X20 hx hby at_221 (pc' := 223) rfl rfl ?_
    refine own_iconst X20 hx hby at_223 (pc' := 224) rfl (z := 3) rfl ?_
    refine own_icmpY X20 hx hby at_224 (by decide) (pc' := 255) (by decide) (feq (by decide)).2 ?_
    refine own_newO X20 hx hby hZ hown (ow_7 hw) (ow_8 hw) (ow_9 hw) e20 at_255 (pc' := 258) rfl (by decide) (by decide) ?_
    intro T185 h185 b185 g185 X185 e185 E185 AX185 D185
    have ne_hd_b185 : hd ≠ b185 := own_nl V_h.lt g185
    have ne_b5_b185 : b5 ≠ b185 := own_nl C_b5.lt g185
    have n0_b185 : n0 ≤ b185 := Nat.le_trans (Nat.le_trans Z0 sz22) (Nat.le_of_eq g185.symm)
    have le0_b185 : h0.size ≤ b185 := Nat.le_trans sz22 (Nat.le_of_eq g185.symm)
    have SF_b185 : Safe Z own_EL vm_a h20 b185 := Safe.new (Nat.le_of_eq g185.symm)
    replace SF_b185 := Safe.ext E185 CHja.1 SF_b185
    replace SNja := SNja.ext E185
    replace CHja := CHja.ext E185
    have sz186 := Nat.le_trans sz22 E185.1
    replace V_h := V_h.ext E185
    replace C_b5 := C_b5.ext E185
    have be187 := own_xt be23 E185
    have F_value_b185 : Fld Z h185 b185 "java/lang/String" "value" "[B" .null := D185 (Or.inr (ow_21 hw)) (ty := (.array .byte)) (by decide)
    have F_coder_b185 : Fld Z h185 b185 "java/lang/String" "coder" "B" (.int (0 : Int32)) := D185 (Or.inr (ow_22 hw)) (ty := .byte) (by decide)
    refine own_dup X185 hx hby at_258 (pc' := 259) rfl rfl ?_
    refine own_iconst X185 hx hby at_259 (pc' := 260) rfl (z := 4) rfl ?_
    refine own_nC (N := 4) X185 hx hby hZ (ow_6 hw) e185 at_260 (pc' := 262) rfl (cap := 4) (Nat.le_refl _) (by decide) (by decide) (by decide) ?_
    intro T188 h188 b188 g188 X188 e188 E188 V_b188
    have ne_hd_b188 : hd ≠ b188 := own_nl V_h.lt g188
    have ne_b5_b188 : b5 ≠ b188 := own_nl C_b5.lt g188
    have ne_b185_b188 : b185 ≠ b188 := own_nl AX185.lt g188
    have n0_b188 : n0 ≤ b188 := Nat.le_trans (Nat.le_trans Z0 sz186) (Nat.le_of_eq g188.symm)
    have le0_b188 : h0.size ≤ b188 := Nat.le_trans sz186 (Nat.le_of_eq g188.symm)
    have SF_b188 : Safe Z own_EL vm_a h185 b188 := Safe.new (Nat.le_of_eq g188.symm)
    replace SF_b185 := Safe.ext E188 CHja.1 SF_b185
    replace SF_b188 := Safe.ext E188 CHja.1 SF_b188
    replace SNja := SNja.ext E188
    replace CHja := CHja.ext E188
    have sz189 := Nat.le_trans sz186 E188.1
    replace V_h := V_h.ext E188
    replace C_b5 := C_b5.ext E188
    replace AX185 := AX185.ext E188
    replace F_value_b185 := F_value_b185.ext E188
    replace F_coder_b185 := F_coder_b185.ext E188
    have be190 := own_xt be187 E188
    refine own_dup X188 hx hby at_262 (pc' := 263) rfl rfl ?_
    refine own_iconst X188 hx hby at_263 (pc' := 264) rfl (z := 0) rfl ?_
    refine own_iload X188 hx hby at_264 (pc' := 266) rfl rfl ?_
    refine own_gC X188 hx hby hZ e188 V_b188 (J := 0) (by decide) (w := c0) (own_narC hc0) at_266 (pc' := 267) rfl ?_
    intro T191 h191 X191 e191 W191 Qb188_0
    have sfw192 := SF_b188
    replace SF_b185 := Safe.wr W191 sfw192 CHja.1 SF_b185
    replace SF_b188 := Safe.wr W191 sfw192 CHja.1 SF_b188
    replace CHja := CHja.wr W191 sfw192
    replace SNja := SNja.wr W191
    have sz193 := Nat.le_trans sz189 (Keep.of_wr W191).1
    replace V_h := V_h.other W191 ne_hd_b188
    replace C_b5 := C_b5.other W191 ne_b5_b188
    replace AX185 := AX185.wr W191
    replace F_value_b185 := F_value_b185.other W191 (Or.inl ne_b185_b188)
    replace F_coder_b185 := F_coder_b185.other W191 (Or.inl ne_b185_b188)
    have be194 := own_xw be190 W191 le0_b188
    have N191 := own_fr1 (sl := 0) N20 n0_b188
    refine own_dup X191 hx hby at_267 (pc' := 268) rfl rfl ?_
    refine own_iconst X191 hx hby at_268 (pc' := 269) rfl (z := 1) rfl ?_
    refine own_iload X191 hx hby at_269 (pc' := 271) rfl rfl ?_
    refine own_gC X191 hx hby hZ e191 Qb188_0 (J := 1) (by decide) (w := c1) (own_narC hc1) at_271 (pc' := 272) rfl ?_
    intro T195 h195 X195 e195 W195 Qb188_1
    have sfw196 := SF_b188
    replace SF_b185 := Safe.wr W195 sfw196 CHja.1 SF_b185
    replace SF_b188 := Safe.wr W195 sfw196 CHja.1 SF_b188
    replace CHja := CHja.wr W195 sfw196
    replace SNja := SNja.wr W195
    have sz197 := Nat.le_trans sz193 (Keep.of_wr W195).1
    replace V_h := V_h.other W195 ne_hd_b188
    replace C_b5 := C_b5.other W195 ne_b5_b188
    replace AX185 := AX185.wr W195
    replace F_value_b185 := F_value_b185.other W195 (Or.inl ne_b185_b188)
    replace F_coder_b185 := F_coder_b185.other W195 (Or.inl ne_b185_b188)
    have be198 := own_xw be194 W195 le0_b188
    have N195 := own_fr1 (sl := 1) N191 n0_b188
    refine own_dup X195 hx hby at_272 (pc' := 273) rfl rfl ?_
    refine own_iconst X195 hx hby at_273 (pc' := 274) rfl (z := 2) rfl ?_
    refine own_iload X195 hx hby at_274 (pc' := 276) rfl rfl ?_
    refine own_gC X195 hx hby hZ e195 Qb188_1 (J := 2) (by decide) (w := c2) (own_narC hc2) at_276 (pc' := 277) rfl ?_
    intro T199 h199 X199 e199 W199 Qb188_2
    have sfw200 := SF_b188
    replace SF_b185 := Safe.wr W199 sfw200 CHja.1 SF_b185
    replace SF_b188 := Safe.wr W199 sfw200 CHja.1 SF_b188
    replace CHja := CHja.wr W199 sfw200
    replace SNja := SNja.wr W199
    have sz201 := Nat.le_trans sz197 (Keep.of_wr W199).1
    replace V_h := V_h.other W199 ne_hd_b188
    replace C_b5 := C_b5.other W199 ne_b5_b188
    replace AX185 := AX185.wr W199
    replace F_value_b185 := F_value_b185.other W199 (Or.inl ne_b185_b188)
    replace F_coder_b185 := F_coder_b185.other W199 (Or.inl ne_b185_b188)
    have be202 := own_xw be198 W199 le0_b188
    have N199 := own_fr1 (sl := 2) N195 n0_b188
    refine own_dup X199 hx hby at_277 (pc' := 278) rfl rfl ?_
    refine own_iconst X199 hx hby at_278 (pc' := 279) rfl (z := 3) rfl ?_
    refine own_iload X199 hx hby at_279 (pc' := 281) rfl rfl ?_
    refine own_gC X199 hx hby hZ e199 Qb188_2 (J := 3) (by decide) (w := c3) (own_narC hc3) at_281 (pc' := 282) rfl ?_
    intro T203 h203 X203 e203 W203 Qb188_3
    have sfw204 := SF_b188
    replace SF_b185 := Safe.wr W203 sfw204 CHja.1 SF_b185
    replace SF_b188 := Safe.wr W203 sfw204 CHja.1 SF_b188
    replace CHja := CHja.wr W203 sfw204
    replace SNja := SNja.wr W203
    have sz205 := Nat.le_trans sz201 (Keep.of_wr W203).1
    replace V_h := V_h.other W203 ne_hd_b188
    replace C_b5 := C_b5.other W203 ne_b5_b188
    replace AX185 := AX185.wr W203
    replace F_value_b185 := F_value_b185.other W203 (Or.inl ne_b185_b188)
    replace F_coder_b185 := F_coder_b185.other W203 (Or.inl ne_b185_b188)
    have be206 := own_xw be202 W203 le0_b188
    have N203 := own_fr1 (sl := 3) N199 n0_b188
    have C_b188 : own_Fa Z h203 b188 .char "[C" (fun _ => True) 4 (fun y_ => .int ((own_f4 c0 c1 c2 c3) y_)) := Qb188_3.congr (fun i hi => by rcases (show i = 0 ∨ i = 1 ∨ i = 2 ∨ i = 3 by omega) with rfl | rfl | rfl | rfl <;> rfl)
    refine own_specM X203 hx hby hml hZ hown rfl (ow_10 hw) (ow_11 hw) (ow_9 hw) (ow_12 hw) (by decide) (cc := 2) (ss := 24) (rm_str l Z a0 hw b185 b188 4 (own_f4 c0 c1 c2 c3) G1 h203 n0 (Nat.le_trans Z0 sz205) n0_b185 ne_b185_b188 (by decide) (by decide) hcb (S_as.ext be206) (S_hi.ext be206) (S_lo.ext be206) (S_cs.ext be206) P5 AX185 F_value_b185 F_coder_b185 C_b188) 1 rfl rfl (by decide) (by decide) rfl (argsL := [(.ref b188)]) (rest := [(.ref b185)]) opd_44 rfl rfl (Nat.le_refl _) at_282 (pc' := 285) rfl rfl e203 (by decide) (by decide) ?_
    rintro v207 T207 h207 L207 X207 e207 ⟨rfl, Nq207, Kq207, S_b⟩
    have N207 := N203.app Nq207
    have sfk208 := (sfS SF_b185 sf0)
    replace SF_b185 := Safe.keep Kq207 sfk208 CHja.1 SF_b185
    replace CHja := CHja.keep Kq207 sfk208
    replace SNja := SNja.keep Kq207
    have sz209 := Nat.le_trans sz205 Kq207.1
    replace V_h := V_h.keep Kq207 (own_niS ne_hd_b185 own_ni0)
    replace C_b5 := C_b5.keep Kq207 (own_niS ne_b5_b185 own_ni0)
    replace AX185 := AX185.keep Kq207
    replace C_b188 := C_b188.keep Kq207 (own_niS (Ne.symm ne_b185_b188) own_ni0)
    have be210 := own_xk be206 Kq207 (allS le0_b185 all0)
    exact J121 (T207, vm_a, h207, _, b185) ⟨X207.mono (by decide) (by decide), e207, hZ, hown, SNja, CHja, sz209, N207, be210, S_b, V_h, C_b5⟩
 ·intro J211
  have h012 : hh = 0 ∨ hh = 1 ∨ hh = 2 := by omega
  rcases h012 with rfl | rfl | rfl
  ·refine own_ifN X0 hx hby at_23 (pc' := 26) rfl (teq rfl).2 ?_
   refine own_iconst X0 hx hby at_26 (pc' := 27) rfl (z := 0) rfl ?_
   refine own_nB (N := 0) X0 hx hby hZ (ow_0 hw) e0 at_27 (pc' := 29) rfl (cap := 2) (by decide) (by decide) (by decide) (by decide) ?_
   intro T212 h212 b212 g212 X212 e212 E212 V_b212
   have n0_b212 : n0 ≤ b212 := Nat.le_trans Z0 (Nat.le_of_eq g212.symm)
   have le0_b212 : h0.size ≤ b212 := Nat.le_trans (Nat.le_refl _) (Nat.le_of_eq g212.symm)
   have SF_b212 : Safe Z own_EL vm0 h0 b212 := Safe.new (Nat.le_of_eq g212.symm)
   replace SF_b212 := Safe.ext E212 CH.1 SF_b212
   replace SN := SN.ext E212
   replace CH := CH.ext E212
   have sz213 := Nat.le_trans (Nat.le_refl _) E212.1
   have be214 := own_xt own_xr E212
   have VP := own_Pre.new V_b212
   refine own_goto X212 hx hby at_29 (by decide) (pc' := 62) (by decide) ?_
   have V_h : own_Bl Z h212 b212 [] := own_Pre.full (show own_Pre Z h212 b212 0 [] from VP)
   exact J211 (T212, vm0, h212, _, b212, [], (((p1.toUInt32 >>> ((8 : Int32) &&& 31).toUInt32).toInt32).toInt8.toInt32), (((p1.toUInt32 >>> ((16 : Int32) &&& 31).toUInt32).toInt32).toInt8.toInt32)) ⟨X212.mono (by decide) (by decide), e212, hZ, hown, SN, CH, sz213, N0, be214, le0_b212, V_h, Nat.le_of_ble_eq_true rfl⟩
  ·refine own_ifY X0 hx hby at_23 (by decide) (pc' := 32) (by decide) (feq (by decide)).2 ?_
   refine own_iload X0 hx hby at_32 (pc' := 34) rfl rfl ?_
   refine own_iconst X0 hx hby at_34 (pc' := 35) rfl (z := 1) rfl ?_
   refine own_icmpN X0 hx hby at_35 (pc' := 38) rfl (teq rfl).2 ?_
   refine own_iconst X0 hx hby at_38 (pc' := 39) rfl (z := 1) rfl ?_
   refine own_nB (N := 1) X0 hx hby hZ (ow_0 hw) e0 at_39 (pc' := 41) rfl (cap := 2) (by decide) (by decide) (by decide) (by decide) ?_
   intro T215 h215 b215 g215 X215 e215 E215 V_b215
   have n0_b215 : n0 ≤ b215 := Nat.le_trans Z0 (Nat.le_of_eq g215.symm)
   have le0_b215 : h0.size ≤ b215 := Nat.le_trans (Nat.le_refl _) (Nat.le_of_eq g215.symm)
   have SF_b215 : Safe Z own_EL vm0 h0 b215 := Safe.new (Nat.le_of_eq g215.symm)
   replace SF_b215 := Safe.ext E215 CH.1 SF_b215
   replace SN := SN.ext E215
   replace CH := CH.ext E215
   have sz216 := Nat.le_trans (Nat.le_refl _) E215.1
   have be217 := own_xt own_xr E215
   have VP := own_Pre.new V_b215
   refine own_dup X215 hx hby at_41 (pc' := 42) rfl rfl ?_
   refine own_iconst X215 hx hby at_42 (pc' := 43) rfl (z := 0) rfl ?_
   refine own_iload X215 hx hby at_43 (pc' := 45) rfl rfl ?_
   refine own_gP X215 hx hby hZ e215 VP (Nat.le_of_ble_eq_true rfl) (w := (own_b8 ((p1.toUInt32 >>> ((8 : Int32) &&& 31).toUInt32).toInt32))) (own_nar8 _) rfl at_45 (pc' := 46) rfl ?_
   intro T218 h218 X218 e218 W218 Q218
   have sfw219 := SF_b215
   replace SF_b215 := Safe.wr W218 sfw219 CH.1 SF_b215
   replace CH := CH.wr W218 sfw219
   replace SN := SN.wr W218
   have sz220 := Nat.le_trans sz216 (Keep.of_wr W218).1
   have be221 := own_xw be217 W218 le0_b215
   replace VP := Q218
   have N218 := own_fr1 (sl := ([] : List Int32).length) N0 n0_b215
   refine own_goto X218 hx hby at_46 (by decide) (pc' := 62) (by decide) ?_
   have V_h : own_Bl Z h218 b215 ([] ++ [(own_b8 ((p1.toUInt32 >>> ((8 : Int32) &&& 31).toUInt32).toInt32))]) := own_Pre.full (show own_Pre Z h218 b215 1 ([] ++ [(own_b8 ((p1.toUInt32 >>> ((8 : Int32) &&& 31).toUInt32).toInt32))]) from VP)
   exact J211 (T218, vm0, h218, _, b215, ([] ++ [(own_b8 ((p1.toUInt32 >>> ((8 : Int32) &&& 31).toUInt32).toInt32))]), (((p1.toUInt32 >>> ((8 : Int32) &&& 31).toUInt32).toInt32).toInt8.toInt32), (((p1.toUInt32 >>> ((16 : Int32) &&& 31).toUInt32).toInt32).toInt8.toInt32)) ⟨X218.mono (by decide) (by decide), e218, hZ, hown, SN, CH, sz220, N218, be221, le0_b215, V_h, Nat.le_of_ble_eq_true rfl⟩
  ·refine own_ifY X0 hx hby at_23 (by decide) (pc' := 32) (by decide) (feq (by decide)).2 ?_
   refine own_iload X0 hx hby at_32 (pc' := 34) rfl rfl ?_
   refine own_iconst X0 hx hby at_34 (pc' := 35) rfl (z := 1) rfl ?_
   refine own_icmpY X0 hx hby at_35 (by decide) (pc' := 49) (by decide) (feq (by decide)).2 ?_
   refine own_iconst X0 hx hby at_49 (pc' := 50) rfl (z := 2) rfl ?_
   refine own_nB (N := 2) X0 hx hby hZ (ow_0 hw) e0 at_50 (pc' := 52) rfl (cap := 2) (by decide) (by decide) (by decide) (by decide) ?_
   intro T222 h222 b222 g222 X222 e222 E222 V_b222
   have n0_b222 : n0 ≤ b222 := Nat.le_trans Z0 (Nat.le_of_eq g222.symm)
   have le0_b222 : h0.size ≤ b222 := Nat.le_trans (Nat.le_refl _) (Nat.le_of_eq g222.symm)
   have SF_b222 : Safe Z own_EL vm0 h0 b222 := Safe.new (Nat.le_of_eq g222.symm)
   replace SF_b222 := Safe.ext E222 CH.1 SF_b222
   replace SN := SN.ext E222
   replace CH := CH.ext E222
   have sz223 := Nat.le_trans (Nat.le_refl _) E222.1
   have be224 := own_xt own_xr E222
   have VP := own_Pre.new V_b222
   refine own_dup X222 hx hby at_52 (pc' := 53) rfl rfl ?_
   refine own_iconst X222 hx hby at_53 (pc' := 54) rfl (z := 0) rfl ?_
   refine own_iload X222 hx hby at_54 (pc' := 56) rfl rfl ?_
   refine own_gP X222 hx hby hZ e222 VP (Nat.le_of_ble_eq_true rfl) (w := (own_b8 ((p1.toUInt32 >>> ((8 : Int32) &&& 31).toUInt32).toInt32))) (own_nar8 _) rfl at_56 (pc' := 57) rfl ?_
   intro T225 h225 X225 e225 W225 Q225
   have sfw226 := SF_b222
   replace SF_b222 := Safe.wr W225 sfw226 CH.1 SF_b222
   replace CH := CH.wr W225 sfw226
   replace SN := SN.wr W225
   have sz227 := Nat.le_trans sz223 (Keep.of_wr W225).1
   have be228 := own_xw be224 W225 le0_b222
   replace VP := Q225
   have N225 := own_fr1 (sl := ([] : List Int32).length) N0 n0_b222
   refine own_dup X225 hx hby at_57 (pc' := 58) rfl rfl ?_
   refine own_iconst X225 hx hby at_58 (pc' := 59) rfl (z := 1) rfl ?_
   refine own_iload X225 hx hby at_59 (pc' := 61) rfl rfl ?_
   refine own_gP X225 hx hby hZ e225 VP (Nat.le_of_ble_eq_true rfl) (w := (own_b8 ((p1.toUInt32 >>> ((16 : Int32) &&& 31).toUInt32).toInt32))) (own_nar8 _) rfl at_61 (pc' := 62) rfl ?_
   intro T229 h229 X229 e229 W229 Q229
   have sfw230 := SF_b222
   replace SF_b222 := Safe.wr W229 sfw230 CH.1 SF_b222
   replace CH := CH.wr W229 sfw230
   replace SN := SN.wr W229
   have sz231 := Nat.le_trans sz227 (Keep.of_wr W229).1
   have be232 := own_xw be228 W229 le0_b222
   replace VP := Q229
   have N229 := own_fr1 (sl := (([] ++ [(own_b8 ((p1.toUInt32 >>> ((8 : Int32) &&& 31).toUInt32).toInt32))]) : List Int32).length) N225 n0_b222
   have V_h : own_Bl Z h229 b222 (([] ++ [(own_b8 ((p1.toUInt32 >>> ((8 : Int32) &&& 31).toUInt32).toInt32))]) ++ [(own_b8 ((p1.toUInt32 >>> ((16 : Int32) &&& 31).toUInt32).toInt32))]) := own_Pre.full (show own_Pre Z h229 b222 2 (([] ++ [(own_b8 ((p1.toUInt32 >>> ((8 : Int32) &&& 31).toUInt32).toInt32))]) ++ [(own_b8 ((p1.toUInt32 >>> ((16 : Int32) &&& 31).toUInt32).toInt32))]) from VP)
   exact J211 (T229, vm0, h229, _, b222, (([] ++ [(own_b8 ((p1.toUInt32 >>> ((8 : Int32) &&& 31).toUInt32).toInt32))]) ++ [(own_b8 ((p1.toUInt32 >>> ((16 : Int32) &&& 31).toUInt32).toInt32))]), (((p1.toUInt32 >>> ((8 : Int32) &&& 31).toUInt32).toInt32).toInt8.toInt32), (((p1.toUInt32 >>> ((16 : Int32) &&& 31).toUInt32).toInt32).toInt8.toInt32)) ⟨X229.mono (by decide) (by decide), e229, hZ, hown, SN, CH, sz231, N229, be232, le0_b222, V_h, Nat.le_of_ble_eq_true rfl⟩
set_option maxRecDepth 65536 in
set_option maxHeartbeats 40000000 in
theorem comes_1 {Post : Tables → Env → Array Value → State → Outcome → State → Prop} (hpost : ∀ tb e args s v u, (limb_1_1.after args s (.returned v) u = true ∧ limb_1_2.after args s (.returned v) u = true ∧ True) → ReturnedEndW s (.returned v) u (Jvm.fieldLocs frame_1_writes args s ++ Jvm.arrayLocs frame_1_arrays args s ++ Jvm.staticLocs frame_1_statics s) 56 4480 → Post tb e args s (.returned v) u) :
    ArmFor flags0 classFile x code maxLocals ret World_1 tables_1 room_1 Calls_1 rest_1 Pre_1 Post := by
  intro l hfl _ _ p e ha hc hk s m args below hf hA hF happ hP
  obtain ⟨hcalls, hrest, hpre⟩ := hP
  obtain ⟨-, -, -, hnamed, -, -, -, hat⟩ := (Spec.applies_iff hf).mp happ
  obtain ⟨hg, hn⟩ := and_e (Cond.before_iff.mp (show (Jvm.Cond.and given_1 narrow_1).before args s = true from hpre))
  obtain ⟨g1, g2⟩ := and_e hg
  obtain ⟨g3, g4⟩ := and_e g2
  obtain ⟨g5, g6⟩ := and_e g4
  obtain ⟨g7, g8⟩ := and_e g6
  obtain ⟨w0, w1, w2, w3, rfl⟩ : ∃ w0 w1 w2 w3 : Value, args = #[w0, w1, w2, w3] := by
    have hs : args.size = 4 := by simpa [Cond.value, given_1] using g1
    obtain ⟨L⟩ := args
    match L, hs with
    | [w0, w1, w2, w3], _ => exact ⟨w0, w1, w2, w3, rfl⟩
  have hw := fun d (hd : d ∈ tables_1) => atoms_spec (ws := Jvm.Cond.code x code maxLocals ret :: tables_1) hat d (List.mem_cons_of_mem _ hd)
  have hfit : Fit s := fun {y c} hc i hi => by
    obtain ⟨ha, rfl⟩ := Array.getElem?_eq_some_iff.mp hc
    have q := List.all_eq_true.mp ((Array.all_eq_true_iff_forall_mem.mp hF) _ (Array.getElem_mem ha)) i (List.mem_range.mpr hi)
    simpa [Array.getElem?_eq_getElem hi] using q
  obtain ⟨hsets, hown0⟩ := atoms_of _ (rest_1_c_eq ▸ (show rest_1_c.before _ s = true from hrest))
  have hr0 := Cond.before_iff.mp hown0
  obtain ⟨i0, ei0⟩ := is_v g3
  obtain rfl : w0 = (.int i0) := Option.some.inj ei0
  obtain ⟨i1, ei1⟩ := isL_v g5
  obtain rfl : w1 = (.long i1) := Option.some.inj ei1
  obtain ⟨i2, ei2⟩ := is_v g7
  obtain rfl : w2 = (.int i2) := Option.some.inj ei2
  obtain ⟨i3, ei3⟩ := is_v g8
  obtain rfl : w3 = (.int i3) := Option.some.inj ei3
  obtain ⟨G1, eG1⟩ := is_v (Cond.before_iff.mp (hsets _ (List.mem_of_getElem? (i := 7) rfl)))
  have S_cs := Sta.start eG1 (Or.inl (hsets _ (List.mem_of_getElem? (i := 6) rfl)))
  have P5 : ¬ (G1 = (0 : Int32)) := own_not0 eG1 (hsets _ (List.mem_of_getElem? (i := 8) rfl))
  obtain ⟨u8, eu8⟩ := exa_v (Cond.before_iff.mp (hsets _ (List.mem_of_getElem? (i := 17) rfl)))
  have S_u8 := Sta.start eu8 (Or.inl (hsets _ (List.mem_of_getElem? (i := 3) rfl)))
  have E_u8 := Exa.start eu8 (Cond.before_iff.mp (hsets _ (List.mem_of_getElem? (i := 17) rfl)))
  obtain ⟨ua, eua⟩ := exa_v (Cond.before_iff.mp (hsets _ (List.mem_of_getElem? (i := 40) rfl)))
  have S_ua := Sta.start eua (Or.inl (hsets _ (List.mem_of_getElem? (i := 32) rfl)))
  have E_ua := Exa.start eua (Cond.before_iff.mp (hsets _ (List.mem_of_getElem? (i := 40) rfl)))
  obtain ⟨ui, eui⟩ := exa_v (Cond.before_iff.mp (hsets _ (List.mem_of_getElem? (i := 37) rfl)))
  have S_ui := Sta.start eui (Or.inl (hsets _ (List.mem_of_getElem? (i := 36) rfl)))
  have E_ui := Exa.start eui (Cond.before_iff.mp (hsets _ (List.mem_of_getElem? (i := 37) rfl)))
  have S_s8 := Sta.start (own_eqr eu8 (Cond.before_iff.mp (hsets _ (List.mem_of_getElem? (i := 4) rfl)))) (Or.inl (hsets _ (List.mem_of_getElem? (i := 1) rfl)))
  have S_sa := Sta.start (own_eqr eua (Cond.before_iff.mp (hsets _ (List.mem_of_getElem? (i := 33) rfl)))) (Or.inl (hsets _ (List.mem_of_getElem? (i := 30) rfl)))
  have ne8 := Exa.ne E_ua E_u8 (by decide)
  have neI := Exa.ne E_ua E_ui (by decide)
  obtain ⟨d1, ed1⟩ := exa_v (Cond.before_iff.mp (hsets _ (List.mem_of_getElem? (i := 21) rfl)))
  have S_d1 := Sta.start ed1 (Or.inl (hsets _ (List.mem_of_getElem? (i := 20) rfl)))
  have V_d1 := own_dig (ow_0 hw) ed1 (Cond.before_iff.mp (hsets _ (List.mem_of_getElem? (i := 21) rfl))) (Cond.before_iff.mp (hsets _ (List.mem_of_getElem? (i := 22) rfl))) own_onv own_ond (Cond.before_iff.mp (hsets _ (List.mem_of_getElem? (i := 23) rfl)))
  obtain ⟨d2, ed2⟩ := exa_v (Cond.before_iff.mp (hsets _ (List.mem_of_getElem? (i := 26) rfl)))
  have S_d2 := Sta.start ed2 (Or.inl (hsets _ (List.mem_of_getElem? (i := 25) rfl)))
  have V_d2 := own_dig (ow_0 hw) ed2 (Cond.before_iff.mp (hsets _ (List.mem_of_getElem? (i := 26) rfl))) (Cond.before_iff.mp (hsets _ (List.mem_of_getElem? (i := 27) rfl))) own_tev own_ted (Cond.before_iff.mp (hsets _ (List.mem_of_getElem? (i := 28) rfl)))
  have S_as := Sta.start (eqv_i (Term.int_eval (1)) (Cond.before_iff.mp (hsets _ (List.mem_of_getElem? (i := 44) rfl)))) (Or.inl (hsets _ (List.mem_of_getElem? (i := 43) rfl)))
  have S_hi := Sta.start (eqv_i (Term.int_eval (0)) (Cond.before_iff.mp (hsets _ (List.mem_of_getElem? (i := 47) rfl)))) (Or.inl (hsets _ (List.mem_of_getElem? (i := 46) rfl)))
  have S_lo := Sta.start (eqv_i (Term.int_eval (8)) (Cond.before_iff.mp (hsets _ (List.mem_of_getElem? (i := 50) rfl)))) (Or.inl (hsets _ (List.mem_of_getElem? (i := 49) rfl)))
  have hCH : CHv s own_EL s.vm s.heap := CHv.start (own_ew hw) (fun p hp => hcalls.1 p hp) (hsets _ (List.mem_of_getElem? (i := 8) rfl)) (ow_0 hw) (ow_8 hw)
  obtain ⟨n, o, h1, h2, h3, _, L, rfl, ⟨rfl, N⟩, -, hq⟩ := rm_law l s _ hw i0 i1 i2 i3 u8 ua ui d1 d2 G1 s.heap s.heap.size (Nat.le_refl _) S_s8 S_sa S_u8 S_ua S_ui ne8 neI S_as S_hi S_lo S_cs P5 S_d1 S_d2 V_d1 V_d2 tables_1 p e ha hc hk s m _ below hf ((Spec.applies_iff_loose hf).mp happ).1 ⟨rfl, State.Warmed39.refl s, rfl, hCH⟩ trivial
  refine ⟨n, _, h1, h2, h3, hpost _ _ _ _ _ _ ⟨Cond.after_iff.mpr rfl, Cond.after_iff.mpr (eq_i res_at (Term.int_eval (1)) rfl), trivial⟩ ⟨hq.1, hq.2.1, hq.2.2.1, (hq.2.2.2.sift fun y hy => Or.inr (N y hy)).mono (by decide) (by decide)⟩⟩
theorem main_1_1 : Claimed_1_1 := comes_1 fun _ _ _ _ _ _ h hF => ⟨h.1, hF⟩
theorem main_1_2 : Claimed_1_2 := comes_1 fun _ _ _ _ _ _ h hF => ⟨h.2.1, hF⟩
end Jvm.Pilot.@@N@@
namespace Jvm.Pilot.@@N@@
open Jvm Jvm.ClassFile Sem Op Lib Jvm.Free Jvm.Stand Jvm.Pilot.@@N@@.Jvm.D
/-! MADE BY PROGRAM (witnessworld.py) out of the Statement's table words and the real class files: 38 classes; the members and pool entries that the words name. The judged class is class 1, her method 1. -/
namespace start1
open Jvm.ClassFile
def u (s : String) : CpInfo := .utf8 (stringToUtf16 s)
/-- a pool by its gaps: so many unusable entries, then the entry; so many at the end -/
def gap : Nat → List CpInfo → List CpInfo
  | 0, r => r
  | n + 1, r => .unusable :: gap n r
def poolList (es : List (Nat × CpInfo)) (last : Nat) : List CpInfo := es.foldr (fun e r => gap e.1 (e.2 :: r)) (gap last [])
def pool (es : List (Nat × CpInfo)) (last : Nat) : Array CpInfo := ⟨poolList es last⟩
def fileOf (pool : Array CpInfo) (this : Nat) (attrs : Array Attribute := #[]) (ms : Array MethodInfo := #[]) (fl : Nat := 33) (sup : Nat := 0) (ifs : Array Nat := #[]) (fds : Array FieldInfo := #[]) : ClassFile where
  minorVersion := 0
  majorVersion := 65
  constantPool := pool
  accessFlags := fl
  thisClass := this
  superClass := sup
  interfaces := ifs
  fields := fds
  methods := ms
  attributes := attrs
def plain (name : String) (sup : Option ClassId) : Class where
  name := name
  kind := .ordinary
  loader := none
  accessFlags := 33
  super := sup
  interfaces := #[]
  cf := none
  fields := #[]
  methods := #[]
  instanceTypes := #[]
  staticTypes := #[]
  resolved := #[]
  callSites := []
  init := .initialized
  statics := none
  mirror := none

def pool0 : Array CpInfo := pool [(5, u "<init>"), (0, u "()V"), (1, .class_ 10), (1, u "java/lang/Object"), (85, u "clone"), (0, u "()Ljava/lang/Object;")] 26

def k0c0 : Code := { maxStack := 0, maxLocals := 1, code := object_method_1_code, exceptionTable := #[], attributes := #[] }
def k0m0 : Method := { name := "<init>", desc := "()V", sig := { parameters := [], returnType := none }, accessFlags := 1, code := some k0c0 }
def k0m1 : Method := { name := "clone", desc := "()Ljava/lang/Object;", sig := { parameters := [], returnType := some (.object "java/lang/Object") }, accessFlags := 260, code := none }
/-- java/lang/Object -/
def k0 : Class := { plain "java/lang/Object" none with
  accessFlags := 33
  interfaces := #[]
  cf := some (fileOf pool0 8 #[] #[{ accessFlags := 1, nameIndex := 5, descriptorIndex := 6, attributes := #[] }, { accessFlags := 260, nameIndex := 96, descriptorIndex := 97, attributes := #[] }] 33 0 #[] #[])
  fields := #[]
  methods := #[k0m0, k0m1]
  instanceTypes := #[]
  staticTypes := #[]
  resolved := Array.replicate 124 none
  statics := none }

def pool1 : Array CpInfo := pool [(2, .class_ 4), (1, u "java/lang/Object"), (0, u "<init>"), (0, u "()V"), (0, .integer 2147483647), (0, .methodref 9 10), (0, .class_ 11), (0, .nameAndType 12 13), (0, u "com/example/reservation/reservation/server/TargetRequestPinLaw"), (0, u "shape"), (0, u "(CI)C"), (0, .class_ 15), (0, u "java/lang/String"), (0, .methodref 14 17), (0, .nameAndType 5 18), (0, u "([C)V"), (0, .class_ 20), (0, u "com/example/reservation/reservation/server/CallbackConnection$Target"), (0, .string 22), (0, u "http://a:80"), (0, .string 24), (0, u "a"), (0, .methodref 19 26), (0, .nameAndType 5 27), (0, u "(Ljava/lang/String;Ljava/lang/String;IZ[B)V"), (0, .methodref 19 29), (0, .nameAndType 30 31), (0, u "request"), (0, u "(Ljava/lang/String;)[B"), (0, .methodref 9 33), (0, .nameAndType 34 35), (0, u "cpAt"), (0, u "([CII)I"), (0, .methodref 9 37), (0, .nameAndType 38 39), (0, u "put"), (0, u "([BII)I"), (0, .integer 65536), (0, .methodref 9 42), (0, .nameAndType 43 44), (0, u "same"), (0, u "([BI[BI[BI[BI)Z"), (0, .integer 55296), (0, .integer 56319), (0, .integer 56320), (0, .integer 57343), (0, .methodref 9 50), (0, .nameAndType 51 52), (0, u "ex"), (0, u "([BI[BI[BII)I"), (2, u "law"), (0, u "(IJII)Z")] 11

def k1m0 : Method := { name := "<init>", desc := "()V", sig := { parameters := [], returnType := none }, accessFlags := 1, code := none }
def k1c1 : Code := { maxStack := 8, maxLocals := 26, code := code, exceptionTable := #[], attributes := #[] }
def k1m1 : Method := { name := "law", desc := "(IJII)Z", sig := { parameters := [.int, .long, .int, .int], returnType := some .boolean }, accessFlags := 9, code := some k1c1 }
def k1c2 : Code := { maxStack := 3, maxLocals := 3, code := method_3_code, exceptionTable := #[], attributes := #[] }
def k1m2 : Method := { name := "shape", desc := "(CI)C", sig := { parameters := [.char, .int], returnType := some .char }, accessFlags := 10, code := some k1c2 }
def k1c3 : Code := { maxStack := 3, maxLocals := 5, code := method_4_code, exceptionTable := #[], attributes := #[] }
def k1m3 : Method := { name := "cpAt", desc := "([CII)I", sig := { parameters := [(.array .char), .int, .int], returnType := some .int }, accessFlags := 10, code := some k1c3 }
def k1c4 : Code := { maxStack := 5, maxLocals := 3, code := method_5_code, exceptionTable := #[], attributes := #[] }
def k1m4 : Method := { name := "put", desc := "([BII)I", sig := { parameters := [(.array .byte), .int, .int], returnType := some .int }, accessFlags := 10, code := some k1c4 }
def k1c5 : Code := { maxStack := 2, maxLocals := 8, code := method_6_code, exceptionTable := #[], attributes := #[] }
def k1m5 : Method := { name := "ex", desc := "([BI[BI[BII)I", sig := { parameters := [(.array .byte), .int, (.array .byte), .int, (.array .byte), .int, .int], returnType := some .int }, accessFlags := 10, code := some k1c5 }
def k1c6 : Code := { maxStack := 8, maxLocals := 9, code := method_7_code, exceptionTable := #[], attributes := #[] }
def k1m6 : Method := { name := "same", desc := "([BI[BI[BI[BI)Z", sig := { parameters := [(.array .byte), .int, (.array .byte), .int, (.array .byte), .int, (.array .byte), .int], returnType := some .boolean }, accessFlags := 10, code := some k1c6 }
/-- com/example/reservation/reservation/server/TargetRequestPinLaw -/
def k1 : Class := { plain "com/example/reservation/reservation/server/TargetRequestPinLaw" (some 0) with
  accessFlags := 49
  interfaces := #[]
  cf := some (fileOf pool1 9 #[] #[{ accessFlags := 1, nameIndex := 5, descriptorIndex := 6, attributes := #[] }, { accessFlags := 9, nameIndex := 55, descriptorIndex := 56, attributes := #[] }, { accessFlags := 10, nameIndex := 12, descriptorIndex := 13, attributes := #[] }, { accessFlags := 10, nameIndex := 34, descriptorIndex := 35, attributes := #[] }, { accessFlags := 10, nameIndex := 38, descriptorIndex := 39, attributes := #[] }, { accessFlags := 10, nameIndex := 51, descriptorIndex := 52, attributes := #[] }, { accessFlags := 10, nameIndex := 43, descriptorIndex := 44, attributes := #[] }] 49 2 #[] #[])
  fields := #[]
  methods := #[k1m0, k1m1, k1m2, k1m3, k1m4, k1m5, k1m6]
  instanceTypes := #[]
  staticTypes := #[]
  resolved := Array.replicate 68 none
  statics := none }

def pool2 : Array CpInfo := pool [(1, .class_ 2), (0, u "java/io/Serializable"), (0, .class_ 4), (0, u "java/lang/Object")] 2

/-- java/io/Serializable -/
def k2 : Class := { plain "java/io/Serializable" (some 0) with
  accessFlags := 1537
  interfaces := #[]
  cf := some (fileOf pool2 1 #[] #[] 1537 3 #[] #[])
  fields := #[]
  methods := #[]
  instanceTypes := #[]
  staticTypes := #[]
  resolved := Array.replicate 7 none
  statics := none }

def pool3 : Array CpInfo := pool [(1, .class_ 2), (0, u "java/lang/Comparable"), (0, .class_ 4), (0, u "java/lang/Object")] 7

/-- java/lang/Comparable -/
def k3 : Class := { plain "java/lang/Comparable" (some 0) with
  accessFlags := 1537
  interfaces := #[]
  cf := some (fileOf pool3 1 #[] #[] 1537 3 #[] #[])
  fields := #[]
  methods := #[]
  instanceTypes := #[]
  staticTypes := #[]
  resolved := Array.replicate 12 none
  statics := none }

def pool4 : Array CpInfo := pool [(2, .class_ 4), (1, u "java/lang/CharSequence"), (42, .class_ 48), (0, u "java/lang/CharSequence$1CodePointIterator"), (10, .class_ 60), (0, u "java/lang/CharSequence$1CharIterator"), (5, .class_ 67), (0, u "java/lang/Object")] 63

/-- java/lang/CharSequence -/
def k4 : Class := { plain "java/lang/CharSequence" (some 0) with
  accessFlags := 1537
  interfaces := #[]
  cf := some (fileOf pool4 2 #[.nestMembers #[47, 59]] #[] 1537 66 #[] #[])
  fields := #[]
  methods := #[]
  instanceTypes := #[]
  staticTypes := #[]
  resolved := Array.replicate 131 none
  statics := none }

def pool5 : Array CpInfo := pool [(1, .class_ 2), (0, u "java/lang/constant/Constable"), (0, .class_ 4), (0, u "java/lang/Object")] 6

/-- java/lang/constant/Constable -/
def k5 : Class := { plain "java/lang/constant/Constable" (some 0) with
  accessFlags := 1537
  interfaces := #[]
  cf := some (fileOf pool5 1 #[] #[] 1537 3 #[] #[])
  fields := #[]
  methods := #[]
  instanceTypes := #[]
  staticTypes := #[]
  resolved := Array.replicate 11 none
  statics := none }

def pool6 : Array CpInfo := pool [(1, .class_ 2), (0, u "java/lang/constant/ConstantDesc"), (0, .class_ 4), (0, u "java/lang/Object")] 32

/-- java/lang/constant/ConstantDesc -/
def k6 : Class := { plain "java/lang/constant/ConstantDesc" (some 0) with
  accessFlags := 1537
  interfaces := #[]
  cf := some (fileOf pool6 1 #[] #[] 1537 3 #[] #[])
  fields := #[]
  methods := #[]
  instanceTypes := #[]
  staticTypes := #[]
  resolved := Array.replicate 37 none
  statics := none }

def pool7 : Array CpInfo := pool [(1, .methodref 2 3), (0, .class_ 4), (0, .nameAndType 5 6), (0, u "java/lang/Object"), (0, u "<init>"), (0, u "()V"), (0, .string 8), (0, u ""), (0, .fieldref 10 11), (0, .class_ 12), (0, .nameAndType 13 14), (0, u "java/lang/String"), (0, u "value"), (0, u "[B"), (0, .fieldref 10 16), (0, .nameAndType 17 18), (0, u "coder"), (0, u "B"), (2, u "hash"), (0, u "I"), (2, u "hashIsZero"), (0, u "Z"), (0, .methodref 10 28), (0, .nameAndType 5 29), (0, u "([CIILjava/lang/Void;)V"), (8, .fieldref 10 39), (0, .nameAndType 40 26), (0, u "COMPACT_STRINGS"), (1, .class_ 44), (1, u "java/lang/StringUTF16"), (0, u "compress"), (1, .methodref 42 48), (0, .nameAndType 49 50), (0, u "coderFromArrayLen"), (0, u "([BI)B"), (3, .methodref 55 56), (0, .class_ 57), (0, .nameAndType 58 59), (0, u "java/util/Arrays"), (0, u "copyOfRange"), (0, u "([BII)[B"), (0, .methodref 42 61), (0, .nameAndType 62 63), (0, u "newBytesFor"), (0, u "(I)[B"), (22, .fieldref 87 88), (0, .class_ 89), (0, .nameAndType 90 91), (0, u "sun/nio/cs/UTF_8"), (0, u "INSTANCE"), (0, u "Lsun/nio/cs/UTF_8;"), (0, .methodref 93 94), (0, .class_ 95), (0, .nameAndType 96 97), (0, u "java/lang/StringCoding"), (0, u "countPositives"), (0, u "([BII)I"), (4, .methodref 55 103), (0, .nameAndType 104 105), (0, u "copyOf"), (0, u "([BI)[B"), (10, .fieldref 117 118), (0, .class_ 119), (0, .nameAndType 90 120), (0, u "sun/nio/cs/ISO_8859_1"), (0, u "Lsun/nio/cs/ISO_8859_1;"), (2, .fieldref 124 125), (0, .class_ 126), (0, .nameAndType 90 127), (0, u "sun/nio/cs/US_ASCII"), (0, u "Lsun/nio/cs/US_ASCII;"), (0, .methodref 93 129), (0, .nameAndType 130 131), (0, u "hasNegatives"), (0, u "([BII)Z"), (10, u "()Z"), (34, .methodref 42 178), (0, .nameAndType 45 179), (0, u "([CII)[B"), (13, .class_ 195), (1, u "java/lang/System"), (16, .methodref 193 213), (0, .nameAndType 214 215), (0, u "arraycopy"), (0, u "(Ljava/lang/Object;ILjava/lang/Object;II)V"), (36, .methodref 10 253), (0, .nameAndType 254 255), (0, u "encodeUTF8"), (0, u "(B[BZ)[B"), (3, u "(B[B)[B"), (0, .methodref 10 261), (0, .nameAndType 262 259), (0, u "encodeASCII"), (16, .methodref 280 281), (0, .class_ 14), (0, .nameAndType 282 283), (0, u "clone"), (0, u "()Ljava/lang/Object;"), (33, u "encode"), (16, u "()I"), (0, .methodref 10 336), (0, .nameAndType 17 337), (0, u "()B"), (2, u "()[B"), (19, .methodref 42 361), (0, .nameAndType 362 363), (0, u "getChar"), (0, u "([BI)C"), (0, .methodref 365 366), (0, .class_ 367), (0, .nameAndType 368 369), (0, u "java/lang/Character"), (0, u "isHighSurrogate"), (0, u "(C)Z"), (0, .methodref 365 371), (0, .nameAndType 372 369), (0, u "isLowSurrogate"), (31, .methodref 365 405), (0, .nameAndType 406 369), (0, u "isSurrogate"), (66, .methodref 10 474), (0, .nameAndType 475 476), (0, u "encodeUTF8_UTF16"), (0, u "([BZ)[B"), (0, .methodref 365 478), (0, .nameAndType 479 480), (0, u "toCodePoint"), (0, u "(CC)I"), (8, .methodref 10 490), (0, .nameAndType 5 491), (0, u "(Ljava/lang/AbstractStringBuilder;Ljava/lang/Void;)V"), (1, .nameAndType 494 142), (0, u "isLatin1"), (11, .nameAndType 507 334), (0, u "length"), (24, u "getBytes"), (2, .methodref 10 536), (0, .nameAndType 317 537), (0, u "(Ljava/nio/charset/Charset;B[B)[B"), (11, .methodref 550 506), (0, .class_ 551), (0, u "java/lang/AbstractStringBuilder"), (0, .methodref 550 553), (0, .nameAndType 554 340), (0, u "getValue"), (20, .class_ 576), (0, u "java/lang/CharSequence"), (22, u "CASE_INSENSITIVE_ORDER"), (0, u "Ljava/util/Comparator;"), (220, u "([BIB)V"), (188, u "([C)V"), (36, .methodref 550 493), (53, u "serialPersistentFields"), (0, u "[Ljava/io/ObjectStreamField;"), (0, .class_ 1104), (0, u "java/lang/String$CaseInsensitiveComparator"), (1, .class_ 1107), (0, u "java/io/Serializable"), (0, .class_ 1109), (0, u "java/lang/Comparable"), (0, .class_ 1111), (0, u "java/lang/constant/Constable"), (0, .class_ 1113), (0, u "java/lang/constant/ConstantDesc"), (2, u "serialVersionUID"), (0, u "J"), (3, u "REPL"), (0, u "C"), (2, u "LATIN1"), (1, u "UTF16"), (105, u "(Ljava/lang/StringBuilder;)V"), (11, u "(Ljava/nio/charset/Charset;)[B")] 205

def k7m0 : Method := { name := "<init>", desc := "()V", sig := { parameters := [], returnType := none }, accessFlags := 1, code := none }
def k7c1 : Code := { maxStack := 5, maxLocals := 2, code := jdk_42_method_3_code, exceptionTable := #[], attributes := #[] }
def k7m1 : Method := { name := "<init>", desc := "([C)V", sig := { parameters := [(.array .char)], returnType := none }, accessFlags := 1, code := some k7c1 }
def k7c2 : Code := { maxStack := 4, maxLocals := 3, code := jdk_42_method_18_code, exceptionTable := #[], attributes := #[] }
def k7m2 : Method := { name := "encode", desc := "(Ljava/nio/charset/Charset;B[B)[B", sig := { parameters := [(.object "java/nio/charset/Charset"), .byte, (.array .byte)], returnType := some (.array .byte) }, accessFlags := 10, code := some k7c2 }
def k7c3 : Code := { maxStack := 3, maxLocals := 7, code := jdk_42_method_24_code, exceptionTable := #[], attributes := #[] }
def k7m3 : Method := { name := "encodeASCII", desc := "(B[B)[B", sig := { parameters := [.byte, (.array .byte)], returnType := some (.array .byte) }, accessFlags := 10, code := some k7c3 }
def k7c4 : Code := { maxStack := 5, maxLocals := 9, code := jdk_42_method_46_code, exceptionTable := #[], attributes := #[] }
def k7m4 : Method := { name := "encodeUTF8", desc := "(B[BZ)[B", sig := { parameters := [.byte, (.array .byte), .boolean], returnType := some (.array .byte) }, accessFlags := 10, code := some k7c4 }
def k7c5 : Code := { maxStack := 5, maxLocals := 9, code := jdk_42_method_47_code, exceptionTable := #[], attributes := #[] }
def k7m5 : Method := { name := "encodeUTF8_UTF16", desc := "([BZ)[B", sig := { parameters := [(.array .byte), .boolean], returnType := some (.array .byte) }, accessFlags := 10, code := some k7c5 }
def k7c6 : Code := { maxStack := 3, maxLocals := 2, code := jdk_42_method_53_code, exceptionTable := #[], attributes := #[] }
def k7m6 : Method := { name := "<init>", desc := "(Ljava/lang/StringBuilder;)V", sig := { parameters := [(.object "java/lang/StringBuilder")], returnType := none }, accessFlags := 1, code := some k7c6 }
def k7c7 : Code := { maxStack := 2, maxLocals := 1, code := jdk_42_method_54_code, exceptionTable := #[], attributes := #[] }
def k7m7 : Method := { name := "length", desc := "()I", sig := { parameters := [], returnType := some .int }, accessFlags := 1, code := some k7c7 }
def k7c8 : Code := { maxStack := 3, maxLocals := 2, code := jdk_42_method_64_code, exceptionTable := #[], attributes := #[] }
def k7m8 : Method := { name := "getBytes", desc := "(Ljava/nio/charset/Charset;)[B", sig := { parameters := [(.object "java/nio/charset/Charset")], returnType := some (.array .byte) }, accessFlags := 1, code := some k7c8 }
def k7c9 : Code := { maxStack := 5, maxLocals := 4, code := jdk_42_method_147_code, exceptionTable := #[], attributes := #[] }
def k7m9 : Method := { name := "getBytes", desc := "([BIB)V", sig := { parameters := [(.array .byte), .int, .byte], returnType := none }, accessFlags := 0, code := some k7c9 }
def k7c10 : Code := { maxStack := 4, maxLocals := 6, code := jdk_42_method_149_code, exceptionTable := #[], attributes := #[] }
def k7m10 : Method := { name := "<init>", desc := "([CIILjava/lang/Void;)V", sig := { parameters := [(.array .char), .int, .int, (.object "java/lang/Void")], returnType := none }, accessFlags := 2, code := some k7c10 }
def k7c11 : Code := { maxStack := 5, maxLocals := 5, code := jdk_42_method_150_code, exceptionTable := #[], attributes := #[] }
def k7m11 : Method := { name := "<init>", desc := "(Ljava/lang/AbstractStringBuilder;Ljava/lang/Void;)V", sig := { parameters := [(.object "java/lang/AbstractStringBuilder"), (.object "java/lang/Void")], returnType := none }, accessFlags := 0, code := some k7c11 }
def k7c12 : Code := { maxStack := 1, maxLocals := 1, code := jdk_42_method_152_code, exceptionTable := #[], attributes := #[] }
def k7m12 : Method := { name := "coder", desc := "()B", sig := { parameters := [], returnType := some .byte }, accessFlags := 0, code := some k7c12 }
/-- java/lang/String -/
def k7 : Class := { plain "java/lang/String" (some 0) with
  accessFlags := 49
  interfaces := #[2, 3, 4, 5, 6]
  cf := some (fileOf pool7 10 #[.nestMembers #[1103]] #[{ accessFlags := 1, nameIndex := 5, descriptorIndex := 6, attributes := #[] }, { accessFlags := 1, nameIndex := 5, descriptorIndex := 1010, attributes := #[] }, { accessFlags := 10, nameIndex := 317, descriptorIndex := 537, attributes := #[] }, { accessFlags := 10, nameIndex := 262, descriptorIndex := 259, attributes := #[] }, { accessFlags := 10, nameIndex := 254, descriptorIndex := 255, attributes := #[] }, { accessFlags := 10, nameIndex := 475, descriptorIndex := 476, attributes := #[] }, { accessFlags := 1, nameIndex := 5, descriptorIndex := 1233, attributes := #[] }, { accessFlags := 1, nameIndex := 507, descriptorIndex := 334, attributes := #[] }, { accessFlags := 1, nameIndex := 532, descriptorIndex := 1245, attributes := #[] }, { accessFlags := 0, nameIndex := 532, descriptorIndex := 821, attributes := #[] }, { accessFlags := 2, nameIndex := 5, descriptorIndex := 29, attributes := #[] }, { accessFlags := 0, nameIndex := 5, descriptorIndex := 491, attributes := #[] }, { accessFlags := 0, nameIndex := 17, descriptorIndex := 337, attributes := #[] }] 49 2 #[1106, 1108, 575, 1110, 1112] #[{ accessFlags := 18, nameIndex := 13, descriptorIndex := 14, attributes := #[] }, { accessFlags := 18, nameIndex := 17, descriptorIndex := 18, attributes := #[] }, { accessFlags := 2, nameIndex := 21, descriptorIndex := 22, attributes := #[] }, { accessFlags := 2, nameIndex := 25, descriptorIndex := 26, attributes := #[] }, { accessFlags := 26, nameIndex := 1116, descriptorIndex := 1117, attributes := #[] }, { accessFlags := 24, nameIndex := 40, descriptorIndex := 26, attributes := #[] }, { accessFlags := 26, nameIndex := 1101, descriptorIndex := 1102, attributes := #[] }, { accessFlags := 26, nameIndex := 1121, descriptorIndex := 1122, attributes := #[] }, { accessFlags := 25, nameIndex := 599, descriptorIndex := 600, attributes := #[] }, { accessFlags := 24, nameIndex := 1125, descriptorIndex := 18, attributes := #[] }, { accessFlags := 24, nameIndex := 1127, descriptorIndex := 18, attributes := #[] }])
  fields := #[{ name := "value", type := (.array .byte), accessFlags := 18, slot := 0, constantValue := 0 }, { name := "coder", type := .byte, accessFlags := 18, slot := 1, constantValue := 0 }, { name := "hash", type := .int, accessFlags := 2, slot := 2, constantValue := 0 }, { name := "hashIsZero", type := .boolean, accessFlags := 2, slot := 3, constantValue := 0 }, { name := "serialVersionUID", type := .long, accessFlags := 26, slot := 0, constantValue := 0 }, { name := "COMPACT_STRINGS", type := .boolean, accessFlags := 24, slot := 1, constantValue := 0 }, { name := "serialPersistentFields", type := (.array (.object "java/io/ObjectStreamField")), accessFlags := 26, slot := 2, constantValue := 0 }, { name := "REPL", type := .char, accessFlags := 26, slot := 3, constantValue := 0 }, { name := "CASE_INSENSITIVE_ORDER", type := (.object "java/util/Comparator"), accessFlags := 25, slot := 4, constantValue := 0 }, { name := "LATIN1", type := .byte, accessFlags := 24, slot := 5, constantValue := 0 }, { name := "UTF16", type := .byte, accessFlags := 24, slot := 6, constantValue := 0 }]
  methods := #[k7m0, k7m1, k7m2, k7m3, k7m4, k7m5, k7m6, k7m7, k7m8, k7m9, k7m10, k7m11, k7m12]
  instanceTypes := #[(.array .byte), .byte, .int, .boolean]
  staticTypes := #[.long, .boolean, (.array (.object "java/io/ObjectStreamField")), .char, (.object "java/util/Comparator"), .byte, .byte]
  resolved := Array.replicate 1451 none
  statics := some 0 }

def pool8 : Array CpInfo := pool [(1, .methodref 2 3), (0, .class_ 4), (0, .nameAndType 5 6), (0, u "java/lang/Object"), (0, u "<init>"), (0, u "()V"), (0, .class_ 8), (0, u "java/lang/Record")] 13

def k8c0 : Code := { maxStack := 1, maxLocals := 1, code := jdk_30_method_1_code, exceptionTable := #[], attributes := #[] }
def k8m0 : Method := { name := "<init>", desc := "()V", sig := { parameters := [], returnType := none }, accessFlags := 4, code := some k8c0 }
/-- java/lang/Record -/
def k8 : Class := { plain "java/lang/Record" (some 0) with
  accessFlags := 1057
  interfaces := #[]
  cf := some (fileOf pool8 7 #[] #[{ accessFlags := 4, nameIndex := 5, descriptorIndex := 6, attributes := #[] }] 1057 2 #[] #[])
  fields := #[]
  methods := #[k8m0]
  instanceTypes := #[]
  staticTypes := #[]
  resolved := Array.replicate 22 none
  statics := none }

def pool9 : Array CpInfo := pool [(1, .methodref 2 3), (0, .class_ 4), (0, .nameAndType 5 6), (0, u "java/lang/Record"), (0, u "<init>"), (0, u "()V"), (0, .fieldref 8 9), (0, .class_ 10), (0, .nameAndType 11 12), (0, u "com/example/reservation/reservation/server/CallbackConnection$Target"), (0, u "endpoint"), (0, u "Ljava/lang/String;"), (0, .fieldref 8 14), (0, .nameAndType 15 12), (0, u "host"), (0, .fieldref 8 17), (0, .nameAndType 18 19), (0, u "port"), (0, u "I"), (0, .fieldref 8 21), (0, .nameAndType 22 23), (0, u "secure"), (0, u "Z"), (0, .fieldref 8 25), (0, .nameAndType 26 27), (0, u "head"), (0, u "[B"), (9, u "()Ljava/lang/String;"), (1, .class_ 41), (1, u "java/lang/String"), (25, .class_ 68), (0, u "java/lang/StringBuilder"), (0, .methodref 67 3), (2, .methodref 67 73), (0, .nameAndType 74 75), (0, u "append"), (0, u "(Ljava/lang/String;)Ljava/lang/StringBuilder;"), (0, .methodref 67 77), (0, .nameAndType 78 37), (0, u "toString"), (29, .methodref 67 109), (0, .nameAndType 74 110), (0, u "(I)Ljava/lang/StringBuilder;"), (17, .fieldref 129 130), (0, .class_ 131), (0, .nameAndType 132 133), (0, u "java/nio/charset/StandardCharsets"), (0, u "US_ASCII"), (0, u "Ljava/nio/charset/Charset;"), (0, .methodref 39 135), (0, .nameAndType 136 137), (0, u "getBytes"), (0, u "(Ljava/nio/charset/Charset;)[B"), (2, u "(Ljava/lang/String;Ljava/lang/String;IZ[B)V"), (0, .fieldref 129 142), (0, .nameAndType 143 133), (0, u "UTF_8"), (0, .string 145), (0, u "\r\n\r\n"), (0, .methodref 147 148), (0, .class_ 149), (0, .nameAndType 150 151), (0, u "java/lang/System"), (0, u "arraycopy"), (0, u "(Ljava/lang/Object;ILjava/lang/Object;II)V"), (16, u "request"), (0, u "(Ljava/lang/String;)[B"), (4, .class_ 175), (0, u "com/example/reservation/reservation/server/CallbackConnection")] 23

def k9c0 : Code := { maxStack := 2, maxLocals := 6, code := prog_65_method_1_code, exceptionTable := #[], attributes := #[] }
def k9m0 : Method := { name := "<init>", desc := "(Ljava/lang/String;Ljava/lang/String;IZ[B)V", sig := { parameters := [(.object "java/lang/String"), (.object "java/lang/String"), .int, .boolean, (.array .byte)], returnType := none }, accessFlags := 0, code := some k9c0 }
def k9c1 : Code := { maxStack := 5, maxLocals := 5, code := prog_65_method_3_code, exceptionTable := #[], attributes := #[] }
def k9m1 : Method := { name := "request", desc := "(Ljava/lang/String;)[B", sig := { parameters := [(.object "java/lang/String")], returnType := some (.array .byte) }, accessFlags := 0, code := some k9c1 }
/-- com/example/reservation/reservation/server/CallbackConnection$Target -/
def k9 : Class := { plain "com/example/reservation/reservation/server/CallbackConnection$Target" (some 8) with
  accessFlags := 48
  interfaces := #[]
  cf := some (fileOf pool9 8 #[.nestHost 174] #[{ accessFlags := 0, nameIndex := 5, descriptorIndex := 140, attributes := #[] }, { accessFlags := 0, nameIndex := 168, descriptorIndex := 169, attributes := #[] }] 48 2 #[] #[{ accessFlags := 18, nameIndex := 11, descriptorIndex := 12, attributes := #[] }, { accessFlags := 18, nameIndex := 15, descriptorIndex := 12, attributes := #[] }, { accessFlags := 18, nameIndex := 18, descriptorIndex := 19, attributes := #[] }, { accessFlags := 18, nameIndex := 22, descriptorIndex := 23, attributes := #[] }, { accessFlags := 18, nameIndex := 26, descriptorIndex := 27, attributes := #[] }])
  fields := #[{ name := "endpoint", type := (.object "java/lang/String"), accessFlags := 18, slot := 0, constantValue := 0 }, { name := "host", type := (.object "java/lang/String"), accessFlags := 18, slot := 1, constantValue := 0 }, { name := "port", type := .int, accessFlags := 18, slot := 2, constantValue := 0 }, { name := "secure", type := .boolean, accessFlags := 18, slot := 3, constantValue := 0 }, { name := "head", type := (.array .byte), accessFlags := 18, slot := 4, constantValue := 0 }]
  methods := #[k9m0, k9m1]
  instanceTypes := #[(.object "java/lang/String"), (.object "java/lang/String"), .int, .boolean, (.array .byte)]
  staticTypes := #[]
  resolved := Array.replicate 199 none
  statics := none }

def pool10 : Array CpInfo := pool [(2, .class_ 4), (1, u "java/lang/Object"), (0, u "<init>"), (0, u "()V"), (14, .class_ 23), (1, u "java/nio/charset/StandardCharsets"), (0, u "US_ASCII"), (0, u "Ljava/nio/charset/Charset;"), (7, u "ISO_8859_1"), (7, u "UTF_8"), (5, u "UTF_16BE"), (5, u "UTF_16LE"), (5, u "UTF_16")] 8

def k10m0 : Method := { name := "<init>", desc := "()V", sig := { parameters := [], returnType := none }, accessFlags := 2, code := none }
/-- java/nio/charset/StandardCharsets -/
def k10 : Class := { plain "java/nio/charset/StandardCharsets" (some 0) with
  accessFlags := 49
  interfaces := #[]
  cf := some (fileOf pool10 21 #[] #[{ accessFlags := 2, nameIndex := 5, descriptorIndex := 6, attributes := #[] }] 49 2 #[] #[{ accessFlags := 25, nameIndex := 24, descriptorIndex := 25, attributes := #[] }, { accessFlags := 25, nameIndex := 33, descriptorIndex := 25, attributes := #[] }, { accessFlags := 25, nameIndex := 41, descriptorIndex := 25, attributes := #[] }, { accessFlags := 25, nameIndex := 47, descriptorIndex := 25, attributes := #[] }, { accessFlags := 25, nameIndex := 53, descriptorIndex := 25, attributes := #[] }, { accessFlags := 25, nameIndex := 59, descriptorIndex := 25, attributes := #[] }])
  fields := #[{ name := "US_ASCII", type := (.object "java/nio/charset/Charset"), accessFlags := 25, slot := 0, constantValue := 0 }, { name := "ISO_8859_1", type := (.object "java/nio/charset/Charset"), accessFlags := 25, slot := 1, constantValue := 0 }, { name := "UTF_8", type := (.object "java/nio/charset/Charset"), accessFlags := 25, slot := 2, constantValue := 0 }, { name := "UTF_16BE", type := (.object "java/nio/charset/Charset"), accessFlags := 25, slot := 3, constantValue := 0 }, { name := "UTF_16LE", type := (.object "java/nio/charset/Charset"), accessFlags := 25, slot := 4, constantValue := 0 }, { name := "UTF_16", type := (.object "java/nio/charset/Charset"), accessFlags := 25, slot := 5, constantValue := 0 }]
  methods := #[k10m0]
  instanceTypes := #[]
  staticTypes := #[(.object "java/nio/charset/Charset"), (.object "java/nio/charset/Charset"), (.object "java/nio/charset/Charset"), (.object "java/nio/charset/Charset"), (.object "java/nio/charset/Charset"), (.object "java/nio/charset/Charset")]
  resolved := Array.replicate 68 none
  statics := some 1 }

def pool11 : Array CpInfo := pool [(18, .class_ 20), (1, u "java/nio/charset/Charset"), (0, u "cache1"), (0, u "[Ljava/lang/Object;"), (2, u "cache2"), (0, .class_ 27), (0, u "java/lang/Object"), (0, .class_ 29), (0, u "java/nio/charset/Charset$1"), (4, .class_ 36), (1, u "java/nio/charset/Charset$ThreadTrackHolder"), (21, .class_ 59), (0, u "java/nio/charset/Charset$2"), (11, .class_ 73), (1, u "java/nio/charset/Charset$ExtendedProviderHolder"), (22, u "standardProvider"), (0, u "Ljava/nio/charset/spi/CharsetProvider;"), (29, u "name"), (7, .class_ 136), (0, u "java/nio/charset/Charset$3"), (5, u "defaultCharset"), (0, u "Ljava/nio/charset/Charset;"), (14, u "zeroAliases"), (0, u "[Ljava/lang/String;"), (29, u "Ljava/lang/String;"), (2, u "aliases"), (2, u "aliasSet"), (0, u "Ljava/util/Set;"), (82, .class_ 280), (0, u "java/lang/Comparable"), (84, .class_ 366), (0, u "java/nio/charset/Charset$ExtendedProviderHolder$1")] 3

/-- java/nio/charset/Charset -/
def k11 : Class := { plain "java/nio/charset/Charset" (some 0) with
  accessFlags := 1057
  interfaces := #[3]
  cf := some (fileOf pool11 18 #[.nestMembers #[71, 365, 34, 135, 58, 28]] #[] 1057 26 #[279] #[{ accessFlags := 26, nameIndex := 96, descriptorIndex := 97, attributes := #[] }, { accessFlags := 26, nameIndex := 158, descriptorIndex := 159, attributes := #[] }, { accessFlags := 74, nameIndex := 21, descriptorIndex := 22, attributes := #[] }, { accessFlags := 74, nameIndex := 25, descriptorIndex := 22, attributes := #[] }, { accessFlags := 10, nameIndex := 142, descriptorIndex := 143, attributes := #[] }, { accessFlags := 18, nameIndex := 127, descriptorIndex := 189, attributes := #[] }, { accessFlags := 18, nameIndex := 192, descriptorIndex := 159, attributes := #[] }, { accessFlags := 2, nameIndex := 195, descriptorIndex := 196, attributes := #[] }])
  fields := #[{ name := "standardProvider", type := (.object "java/nio/charset/spi/CharsetProvider"), accessFlags := 26, slot := 0, constantValue := 0 }, { name := "zeroAliases", type := (.array (.object "java/lang/String")), accessFlags := 26, slot := 1, constantValue := 0 }, { name := "cache1", type := (.array (.object "java/lang/Object")), accessFlags := 74, slot := 2, constantValue := 0 }, { name := "cache2", type := (.array (.object "java/lang/Object")), accessFlags := 74, slot := 3, constantValue := 0 }, { name := "defaultCharset", type := (.object "java/nio/charset/Charset"), accessFlags := 10, slot := 4, constantValue := 0 }, { name := "name", type := (.object "java/lang/String"), accessFlags := 18, slot := 0, constantValue := 0 }, { name := "aliases", type := (.array (.object "java/lang/String")), accessFlags := 18, slot := 1, constantValue := 0 }, { name := "aliasSet", type := (.object "java/util/Set"), accessFlags := 2, slot := 2, constantValue := 0 }]
  methods := #[]
  instanceTypes := #[(.object "java/lang/String"), (.array (.object "java/lang/String")), (.object "java/util/Set")]
  staticTypes := #[(.object "java/nio/charset/spi/CharsetProvider"), (.array (.object "java/lang/String")), (.array (.object "java/lang/Object")), (.array (.object "java/lang/Object")), (.object "java/nio/charset/Charset")]
  resolved := Array.replicate 370 none
  statics := none }

def pool12 : Array CpInfo := pool [(1, .class_ 2), (0, u "sun/nio/cs/HistoricallyNamedCharset"), (0, .class_ 4), (0, u "java/lang/Object")] 4

/-- sun/nio/cs/HistoricallyNamedCharset -/
def k12 : Class := { plain "sun/nio/cs/HistoricallyNamedCharset" (some 0) with
  accessFlags := 1537
  interfaces := #[]
  cf := some (fileOf pool12 1 #[] #[] 1537 3 #[] #[])
  fields := #[]
  methods := #[]
  instanceTypes := #[]
  staticTypes := #[]
  resolved := Array.replicate 9 none
  statics := none }

def pool13 : Array CpInfo := pool [(2, .class_ 4), (1, u "java/nio/charset/Charset"), (130, .class_ 136), (0, u "sun/nio/cs/Unicode"), (0, .class_ 138), (0, u "sun/nio/cs/HistoricallyNamedCharset")] 15

/-- sun/nio/cs/Unicode -/
def k13 : Class := { plain "sun/nio/cs/Unicode" (some 11) with
  accessFlags := 1056
  interfaces := #[12]
  cf := some (fileOf pool13 135 #[] #[] 1056 2 #[137] #[])
  fields := #[]
  methods := #[]
  instanceTypes := #[(.object "java/lang/String"), (.array (.object "java/lang/String")), (.object "java/util/Set")]
  staticTypes := #[]
  resolved := Array.replicate 154 none
  statics := none }

def pool14 : Array CpInfo := pool [(10, .class_ 12), (1, u "sun/nio/cs/Unicode"), (0, u "<init>"), (3, .class_ 18), (0, u "sun/nio/cs/UTF_8$Decoder"), (3, .class_ 23), (0, u "sun/nio/cs/UTF_8$Encoder"), (15, .class_ 40), (0, u "sun/nio/cs/UTF_8"), (2, u "()V"), (2, u "INSTANCE"), (0, u "Lsun/nio/cs/UTF_8;"), (8, u "JLA"), (0, u "Ljdk/internal/access/JavaLangAccess;")] 26

def k14m0 : Method := { name := "<init>", desc := "()V", sig := { parameters := [], returnType := none }, accessFlags := 1, code := none }
/-- sun/nio/cs/UTF_8 -/
def k14 : Class := { plain "sun/nio/cs/UTF_8" (some 13) with
  accessFlags := 49
  interfaces := #[]
  cf := some (fileOf pool14 39 #[.nestMembers #[22, 17]] #[{ accessFlags := 1, nameIndex := 13, descriptorIndex := 43, attributes := #[] }] 49 10 #[] #[{ accessFlags := 25, nameIndex := 46, descriptorIndex := 47, attributes := #[] }, { accessFlags := 26, nameIndex := 56, descriptorIndex := 57, attributes := #[] }])
  fields := #[{ name := "INSTANCE", type := (.object "sun/nio/cs/UTF_8"), accessFlags := 25, slot := 0, constantValue := 0 }, { name := "JLA", type := (.object "jdk/internal/access/JavaLangAccess"), accessFlags := 26, slot := 1, constantValue := 0 }]
  methods := #[k14m0]
  instanceTypes := #[(.object "java/lang/String"), (.array (.object "java/lang/String")), (.object "java/util/Set")]
  staticTypes := #[(.object "sun/nio/cs/UTF_8"), (.object "jdk/internal/access/JavaLangAccess")]
  resolved := Array.replicate 84 none
  statics := some 2 }

def pool15 : Array CpInfo := pool [(2, .class_ 4), (1, u "java/lang/Object"), (0, u "<init>"), (0, u "()V"), (0, .methodref 8 9), (0, .class_ 10), (0, .nameAndType 11 12), (0, u "java/lang/StringCoding"), (0, u "countPositives"), (0, u "([BII)I"), (11, u "hasNegatives"), (0, u "([BII)Z")] 23

def k15m0 : Method := { name := "<init>", desc := "()V", sig := { parameters := [], returnType := none }, accessFlags := 2, code := none }
def k15c1 : Code := { maxStack := 3, maxLocals := 3, code := jdk_123_method_2_code, exceptionTable := #[], attributes := #[] }
def k15m1 : Method := { name := "hasNegatives", desc := "([BII)Z", sig := { parameters := [(.array .byte), .int, .int], returnType := some .boolean }, accessFlags := 9, code := some k15c1 }
def k15c2 : Code := { maxStack := 2, maxLocals := 5, code := jdk_123_method_3_code, exceptionTable := #[], attributes := #[] }
def k15m2 : Method := { name := "countPositives", desc := "([BII)I", sig := { parameters := [(.array .byte), .int, .int], returnType := some .int }, accessFlags := 9, code := some k15c2 }
/-- java/lang/StringCoding -/
def k15 : Class := { plain "java/lang/StringCoding" (some 0) with
  accessFlags := 32
  interfaces := #[]
  cf := some (fileOf pool15 8 #[] #[{ accessFlags := 2, nameIndex := 5, descriptorIndex := 6, attributes := #[] }, { accessFlags := 9, nameIndex := 24, descriptorIndex := 25, attributes := #[] }, { accessFlags := 9, nameIndex := 11, descriptorIndex := 12, attributes := #[] }] 32 2 #[] #[])
  fields := #[]
  methods := #[k15m0, k15m1, k15m2]
  instanceTypes := #[]
  staticTypes := #[]
  resolved := Array.replicate 49 none
  statics := none }

def pool16 : Array CpInfo := pool [(1, .class_ 2), (0, u "java/lang/Cloneable"), (0, .class_ 4), (0, u "java/lang/Object")] 2

/-- java/lang/Cloneable -/
def k16 : Class := { plain "java/lang/Cloneable" (some 0) with
  accessFlags := 1537
  interfaces := #[]
  cf := some (fileOf pool16 1 #[] #[] 1537 3 #[] #[])
  fields := #[]
  methods := #[]
  instanceTypes := #[]
  staticTypes := #[]
  resolved := Array.replicate 7 none
  statics := none }

def pool17 : Array CpInfo := pool [(1, .class_ 2), (0, u "java/lang/Appendable"), (0, .class_ 4), (0, u "java/lang/Object")] 9

/-- java/lang/Appendable -/
def k17 : Class := { plain "java/lang/Appendable" (some 0) with
  accessFlags := 1537
  interfaces := #[]
  cf := some (fileOf pool17 1 #[] #[] 1537 3 #[] #[])
  fields := #[]
  methods := #[]
  instanceTypes := #[]
  staticTypes := #[]
  resolved := Array.replicate 14 none
  statics := none }

def pool18 : Array CpInfo := pool [(1, .class_ 2), (0, u "java/lang/String"), (0, .methodref 4 5), (0, .class_ 6), (0, .nameAndType 7 8), (0, u "java/lang/Object"), (0, u "<init>"), (0, u "()V"), (1, .class_ 12), (1, u "java/lang/AbstractStringBuilder"), (0, u "EMPTYVALUE"), (0, u "[B"), (0, .fieldref 10 16), (0, .nameAndType 17 14), (0, u "value"), (0, .fieldref 1 19), (0, .nameAndType 20 21), (0, u "COMPACT_STRINGS"), (0, u "Z"), (0, .fieldref 10 23), (0, .nameAndType 24 25), (0, u "coder"), (0, u "B"), (6, .methodref 1 33), (0, .nameAndType 34 35), (0, u "length"), (0, u "()I"), (0, .class_ 37), (0, u "java/lang/Integer"), (2, .methodref 1 41), (0, .nameAndType 24 42), (0, u "()B"), (2, u "append"), (0, u "(Ljava/lang/String;)Ljava/lang/AbstractStringBuilder;"), (1, .class_ 49), (0, u "java/lang/CharSequence"), (19, u "(Ljava/lang/String;)V"), (5, u "maybeLatin1"), (3, .fieldref 10 80), (0, .nameAndType 81 82), (0, u "count"), (0, u "I"), (0, .methodref 10 84), (0, .nameAndType 85 86), (0, u "isLatin1"), (0, u "()Z"), (13, .methodref 10 101), (0, .nameAndType 102 103), (0, u "ensureCapacityInternal"), (0, u "(I)V"), (3, u "(I)I"), (80, u "getChars"), (19, .methodref 10 209), (0, .nameAndType 210 211), (0, u "putStringAt"), (0, u "(ILjava/lang/String;)V"), (5, u "inflateIfNeededFor"), (2, .nameAndType 221 222), (0, u "getBytes"), (0, u "([BIB)V"), (22, .methodref 36 246), (0, .nameAndType 247 107), (0, u "stringSize"), (0, .methodref 36 249), (0, .nameAndType 188 250), (0, u "(II[B)I"), (146, .methodref 10 398), (0, .nameAndType 217 69), (0, .methodref 1 220), (3, u "()[B"), (40, .class_ 445), (0, u "java/lang/Appendable"), (65, u "(I)Ljava/lang/AbstractStringBuilder;"), (40, u "getValue")] 56

def k18m0 : Method := { name := "<init>", desc := "()V", sig := { parameters := [], returnType := none }, accessFlags := 0, code := none }
def k18c1 : Code := { maxStack := 2, maxLocals := 2, code := jdk_68_method_2_code, exceptionTable := #[], attributes := #[] }
def k18m1 : Method := { name := "<init>", desc := "(I)V", sig := { parameters := [.int], returnType := none }, accessFlags := 0, code := some k18c1 }
def k18c2 : Code := { maxStack := 1, maxLocals := 1, code := jdk_68_method_6_code, exceptionTable := #[], attributes := #[] }
def k18m2 : Method := { name := "length", desc := "()I", sig := { parameters := [], returnType := some .int }, accessFlags := 1, code := some k18c2 }
def k18c3 : Code := { maxStack := 4, maxLocals := 3, code := jdk_68_method_9_code, exceptionTable := #[], attributes := #[] }
def k18m3 : Method := { name := "ensureCapacityInternal", desc := "(I)V", sig := { parameters := [.int], returnType := none }, accessFlags := 2, code := some k18c3 }
def k18c4 : Code := { maxStack := 3, maxLocals := 3, code := jdk_68_method_22_code, exceptionTable := #[], attributes := #[] }
def k18m4 : Method := { name := "append", desc := "(Ljava/lang/String;)Ljava/lang/AbstractStringBuilder;", sig := { parameters := [(.object "java/lang/String")], returnType := some (.object "java/lang/AbstractStringBuilder") }, accessFlags := 1, code := some k18c4 }
def k18c5 : Code := { maxStack := 4, maxLocals := 4, code := jdk_68_method_32_code, exceptionTable := #[], attributes := #[] }
def k18m5 : Method := { name := "append", desc := "(I)Ljava/lang/AbstractStringBuilder;", sig := { parameters := [.int], returnType := some (.object "java/lang/AbstractStringBuilder") }, accessFlags := 1, code := some k18c5 }
def k18c6 : Code := { maxStack := 1, maxLocals := 1, code := jdk_68_method_64_code, exceptionTable := #[], attributes := #[] }
def k18m6 : Method := { name := "getValue", desc := "()[B", sig := { parameters := [], returnType := some (.array .byte) }, accessFlags := 16, code := some k18c6 }
def k18c7 : Code := { maxStack := 1, maxLocals := 1, code := jdk_68_method_68_code, exceptionTable := #[], attributes := #[] }
def k18m7 : Method := { name := "isLatin1", desc := "()Z", sig := { parameters := [], returnType := some .boolean }, accessFlags := 16, code := some k18c7 }
def k18c8 : Code := { maxStack := 2, maxLocals := 2, code := jdk_68_method_71_code, exceptionTable := #[], attributes := #[] }
def k18m8 : Method := { name := "inflateIfNeededFor", desc := "(Ljava/lang/String;)V", sig := { parameters := [(.object "java/lang/String")], returnType := none }, accessFlags := 2, code := some k18c8 }
def k18c9 : Code := { maxStack := 4, maxLocals := 3, code := jdk_68_method_73_code, exceptionTable := #[], attributes := #[] }
def k18m9 : Method := { name := "putStringAt", desc := "(ILjava/lang/String;)V", sig := { parameters := [.int, (.object "java/lang/String")], returnType := none }, accessFlags := 2, code := some k18c9 }
/-- java/lang/AbstractStringBuilder -/
def k18 : Class := { plain "java/lang/AbstractStringBuilder" (some 0) with
  accessFlags := 1056
  interfaces := #[17, 4]
  cf := some (fileOf pool18 10 #[] #[{ accessFlags := 0, nameIndex := 7, descriptorIndex := 8, attributes := #[] }, { accessFlags := 0, nameIndex := 7, descriptorIndex := 103, attributes := #[] }, { accessFlags := 1, nameIndex := 34, descriptorIndex := 35, attributes := #[] }, { accessFlags := 2, nameIndex := 102, descriptorIndex := 103, attributes := #[] }, { accessFlags := 1, nameIndex := 45, descriptorIndex := 46, attributes := #[] }, { accessFlags := 1, nameIndex := 45, descriptorIndex := 511, attributes := #[] }, { accessFlags := 16, nameIndex := 552, descriptorIndex := 403, attributes := #[] }, { accessFlags := 16, nameIndex := 85, descriptorIndex := 86, attributes := #[] }, { accessFlags := 2, nameIndex := 217, descriptorIndex := 69, attributes := #[] }, { accessFlags := 2, nameIndex := 210, descriptorIndex := 211, attributes := #[] }] 1056 4 #[444, 48] #[{ accessFlags := 0, nameIndex := 17, descriptorIndex := 14, attributes := #[] }, { accessFlags := 0, nameIndex := 24, descriptorIndex := 25, attributes := #[] }, { accessFlags := 0, nameIndex := 75, descriptorIndex := 21, attributes := #[] }, { accessFlags := 0, nameIndex := 81, descriptorIndex := 82, attributes := #[] }, { accessFlags := 26, nameIndex := 13, descriptorIndex := 14, attributes := #[] }])
  fields := #[{ name := "value", type := (.array .byte), accessFlags := 0, slot := 0, constantValue := 0 }, { name := "coder", type := .byte, accessFlags := 0, slot := 1, constantValue := 0 }, { name := "maybeLatin1", type := .boolean, accessFlags := 0, slot := 2, constantValue := 0 }, { name := "count", type := .int, accessFlags := 0, slot := 3, constantValue := 0 }, { name := "EMPTYVALUE", type := (.array .byte), accessFlags := 26, slot := 0, constantValue := 0 }]
  methods := #[k18m0, k18m1, k18m2, k18m3, k18m4, k18m5, k18m6, k18m7, k18m8, k18m9]
  instanceTypes := #[(.array .byte), .byte, .boolean, .int]
  staticTypes := #[(.array .byte)]
  resolved := Array.replicate 609 none
  statics := none }

def pool19 : Array CpInfo := pool [(1, .methodref 2 3), (0, .class_ 4), (0, .nameAndType 5 6), (0, u "java/lang/AbstractStringBuilder"), (0, u "<init>"), (0, u "(I)V"), (11, .class_ 20), (1, u "java/lang/String"), (3, .class_ 26), (1, u "java/lang/StringBuilder"), (0, u "append"), (0, u "(Ljava/lang/String;)Ljava/lang/StringBuilder;"), (0, .methodref 2 30), (0, .nameAndType 27 31), (0, u "(Ljava/lang/String;)Ljava/lang/AbstractStringBuilder;"), (21, .methodref 2 54), (0, .nameAndType 27 55), (0, u "(I)Ljava/lang/AbstractStringBuilder;"), (81, .methodref 18 138), (0, .nameAndType 5 139), (0, u "(Ljava/lang/StringBuilder;)V"), (5, u "()V"), (10, u "()I"), (111, u "(I)Ljava/lang/StringBuilder;"), (74, .methodref 2 344), (0, .nameAndType 345 156), (0, u "length"), (3, .class_ 350), (0, u "java/lang/Appendable"), (0, .class_ 352), (0, u "java/io/Serializable"), (0, .class_ 354), (0, u "java/lang/Comparable"), (0, .class_ 356), (0, u "java/lang/CharSequence"), (0, u "serialVersionUID"), (0, u "J"), (40, u "toString"), (0, u "()Ljava/lang/String;")] 21

def k19c0 : Code := { maxStack := 2, maxLocals := 1, code := jdk_67_method_1_code, exceptionTable := #[], attributes := #[] }
def k19m0 : Method := { name := "<init>", desc := "()V", sig := { parameters := [], returnType := none }, accessFlags := 1, code := some k19c0 }
def k19c1 : Code := { maxStack := 2, maxLocals := 2, code := jdk_67_method_7_code, exceptionTable := #[], attributes := #[] }
def k19m1 : Method := { name := "append", desc := "(Ljava/lang/String;)Ljava/lang/StringBuilder;", sig := { parameters := [(.object "java/lang/String")], returnType := some (.object "java/lang/StringBuilder") }, accessFlags := 1, code := some k19c1 }
def k19c2 : Code := { maxStack := 2, maxLocals := 2, code := jdk_67_method_15_code, exceptionTable := #[], attributes := #[] }
def k19m2 : Method := { name := "append", desc := "(I)Ljava/lang/StringBuilder;", sig := { parameters := [.int], returnType := some (.object "java/lang/StringBuilder") }, accessFlags := 1, code := some k19c2 }
def k19c3 : Code := { maxStack := 3, maxLocals := 1, code := jdk_67_method_42_code, exceptionTable := #[], attributes := #[] }
def k19m3 : Method := { name := "toString", desc := "()Ljava/lang/String;", sig := { parameters := [], returnType := some (.object "java/lang/String") }, accessFlags := 1, code := some k19c3 }
def k19c4 : Code := { maxStack := 1, maxLocals := 1, code := jdk_67_method_93_code, exceptionTable := #[], attributes := #[] }
def k19m4 : Method := { name := "length", desc := "()I", sig := { parameters := [], returnType := some .int }, accessFlags := 4161, code := some k19c4 }
/-- java/lang/StringBuilder -/
def k19 : Class := { plain "java/lang/StringBuilder" (some 18) with
  accessFlags := 49
  interfaces := #[17, 2, 3, 4]
  cf := some (fileOf pool19 24 #[] #[{ accessFlags := 1, nameIndex := 5, descriptorIndex := 145, attributes := #[] }, { accessFlags := 1, nameIndex := 27, descriptorIndex := 28, attributes := #[] }, { accessFlags := 1, nameIndex := 27, descriptorIndex := 268, attributes := #[] }, { accessFlags := 1, nameIndex := 399, descriptorIndex := 400, attributes := #[] }, { accessFlags := 4161, nameIndex := 345, descriptorIndex := 156, attributes := #[] }] 49 2 #[349, 351, 353, 355] #[{ accessFlags := 24, nameIndex := 357, descriptorIndex := 358, attributes := #[] }])
  fields := #[{ name := "serialVersionUID", type := .long, accessFlags := 24, slot := 0, constantValue := 0 }]
  methods := #[k19m0, k19m1, k19m2, k19m3, k19m4]
  instanceTypes := #[(.array .byte), .byte, .boolean, .int]
  staticTypes := #[.long]
  resolved := Array.replicate 422 none
  statics := none }

def pool20 : Array CpInfo := pool [(2, .class_ 4), (1, u "java/lang/Object"), (0, u "<init>"), (0, u "()V"), (1, .class_ 10), (1, u "java/lang/Number"), (2, .class_ 14), (0, u "java/io/Serializable"), (0, u "serialVersionUID"), (0, u "J")] 20

def k20m0 : Method := { name := "<init>", desc := "()V", sig := { parameters := [], returnType := none }, accessFlags := 1, code := none }
/-- java/lang/Number -/
def k20 : Class := { plain "java/lang/Number" (some 0) with
  accessFlags := 1057
  interfaces := #[2]
  cf := some (fileOf pool20 8 #[] #[{ accessFlags := 1, nameIndex := 5, descriptorIndex := 6, attributes := #[] }] 1057 2 #[13] #[{ accessFlags := 26, nameIndex := 15, descriptorIndex := 16, attributes := #[] }])
  fields := #[{ name := "serialVersionUID", type := .long, accessFlags := 26, slot := 0, constantValue := 0 }]
  methods := #[k20m0]
  instanceTypes := #[]
  staticTypes := #[.long]
  resolved := Array.replicate 37 none
  statics := none }

def pool21 : Array CpInfo := pool [(1, .class_ 2), (0, u "java/lang/Integer"), (16, u "digits"), (0, u "[C"), (33, u "(I)I"), (19, u "stringSize"), (2, u "getChars"), (0, u "(II[B)I"), (4, .fieldref 1 84), (0, .nameAndType 85 86), (0, u "DigitOnes"), (0, u "[B"), (0, .fieldref 1 88), (0, .nameAndType 89 86), (0, u "DigitTens"), (99, .class_ 190), (0, u "java/lang/Integer$IntegerCache"), (3, u "I"), (8, .class_ 204), (0, u "java/lang/Number"), (2, u "value"), (94, u "TYPE"), (0, u "Ljava/lang/Class;"), (0, .class_ 305), (0, u "java/lang/Comparable"), (0, .class_ 307), (0, u "java/lang/constant/Constable"), (0, .class_ 309), (0, u "java/lang/constant/ConstantDesc"), (0, u "MIN_VALUE"), (1, u "MAX_VALUE"), (3, u "SIZE"), (1, u "BYTES"), (1, u "serialVersionUID"), (0, u "J")] 131

def k21c0 : Code := { maxStack := 4, maxLocals := 7, code := jdk_33_method_12_code, exceptionTable := #[], attributes := #[] }
def k21m0 : Method := { name := "getChars", desc := "(II[B)I", sig := { parameters := [.int, .int, (.array .byte)], returnType := some .int }, accessFlags := 8, code := some k21c0 }
def k21c1 : Code := { maxStack := 2, maxLocals := 4, code := jdk_33_method_13_code, exceptionTable := #[], attributes := #[] }
def k21m1 : Method := { name := "stringSize", desc := "(I)I", sig := { parameters := [.int], returnType := some .int }, accessFlags := 8, code := some k21c1 }
/-- java/lang/Integer -/
def k21 : Class := { plain "java/lang/Integer" (some 20) with
  accessFlags := 49
  interfaces := #[3, 5, 6]
  cf := some (fileOf pool21 1 #[.nestMembers #[189]] #[{ accessFlags := 8, nameIndex := 77, descriptorIndex := 78, attributes := #[] }, { accessFlags := 8, nameIndex := 74, descriptorIndex := 54, attributes := #[] }] 49 203 #[304, 306, 308] #[{ accessFlags := 25, nameIndex := 310, descriptorIndex := 194, attributes := #[] }, { accessFlags := 25, nameIndex := 312, descriptorIndex := 194, attributes := #[] }, { accessFlags := 25, nameIndex := 302, descriptorIndex := 303, attributes := #[] }, { accessFlags := 24, nameIndex := 19, descriptorIndex := 20, attributes := #[] }, { accessFlags := 24, nameIndex := 89, descriptorIndex := 86, attributes := #[] }, { accessFlags := 24, nameIndex := 85, descriptorIndex := 86, attributes := #[] }, { accessFlags := 18, nameIndex := 207, descriptorIndex := 194, attributes := #[] }, { accessFlags := 25, nameIndex := 316, descriptorIndex := 194, attributes := #[] }, { accessFlags := 25, nameIndex := 318, descriptorIndex := 194, attributes := #[] }, { accessFlags := 26, nameIndex := 320, descriptorIndex := 321, attributes := #[] }])
  fields := #[{ name := "MIN_VALUE", type := .int, accessFlags := 25, slot := 0, constantValue := 0 }, { name := "MAX_VALUE", type := .int, accessFlags := 25, slot := 1, constantValue := 0 }, { name := "TYPE", type := (.object "java/lang/Class"), accessFlags := 25, slot := 2, constantValue := 0 }, { name := "digits", type := (.array .char), accessFlags := 24, slot := 3, constantValue := 0 }, { name := "DigitTens", type := (.array .byte), accessFlags := 24, slot := 4, constantValue := 0 }, { name := "DigitOnes", type := (.array .byte), accessFlags := 24, slot := 5, constantValue := 0 }, { name := "value", type := .int, accessFlags := 18, slot := 0, constantValue := 0 }, { name := "SIZE", type := .int, accessFlags := 25, slot := 6, constantValue := 0 }, { name := "BYTES", type := .int, accessFlags := 25, slot := 7, constantValue := 0 }, { name := "serialVersionUID", type := .long, accessFlags := 26, slot := 8, constantValue := 0 }]
  methods := #[k21m0, k21m1]
  instanceTypes := #[.int]
  staticTypes := #[.int, .int, (.object "java/lang/Class"), (.array .char), (.array .byte), (.array .byte), .int, .int, .long]
  resolved := Array.replicate 453 none
  statics := some 3 }

def pool22 : Array CpInfo := pool [(2, .class_ 4), (1, u "java/lang/Object"), (0, u "<init>"), (0, u "()V"), (1, .class_ 10), (1, u "java/lang/System"), (0, u "allowSecurityManager"), (0, u "I"), (16, u "cons"), (0, u "Ljava/io/Console;"), (77, .class_ 110), (1, u "java/lang/System$CallersHolder"), (43, u "initialErrStream"), (0, u "Ljava/io/PrintStream;"), (19, u "security"), (0, u "Ljava/lang/SecurityManager;"), (31, .class_ 209), (0, u "java/lang/System$1"), (7, u "props"), (0, u "Ljava/util/Properties;"), (2, u "lineSeparator"), (0, u "Ljava/lang/String;"), (96, .class_ 321), (1, u "java/lang/System$LoggerFinder"), (5, .class_ 328), (0, u "java/lang/System$Logger"), (67, u "err"), (2, u "out"), (91, u "notSupportedJnuEncoding"), (15, u "in"), (17, u "initialIn"), (0, u "Ljava/io/InputStream;"), (35, u "bootLayer"), (0, u "Ljava/lang/ModuleLayer;"), (99, .class_ 664), (0, u "java/lang/System$2"), (9, u "NEVER"), (2, u "MAYBE"), (49, u "arraycopy"), (0, u "(Ljava/lang/Object;ILjava/lang/Object;II)V"), (72, .class_ 802), (0, u "java/lang/System$Logger$Level")] 31

def k22m0 : Method := { name := "<init>", desc := "()V", sig := { parameters := [], returnType := none }, accessFlags := 2, code := none }
def k22m1 : Method := { name := "arraycopy", desc := "(Ljava/lang/Object;ILjava/lang/Object;II)V", sig := { parameters := [(.object "java/lang/Object"), .int, (.object "java/lang/Object"), .int, .int], returnType := none }, accessFlags := 265, code := none }
/-- java/lang/System -/
def k22 : Class := { plain "java/lang/System" (some 0) with
  accessFlags := 49
  interfaces := #[]
  cf := some (fileOf pool22 8 #[.nestMembers #[319, 327, 801, 108, 663, 208]] #[{ accessFlags := 2, nameIndex := 5, descriptorIndex := 6, attributes := #[] }, { accessFlags := 265, nameIndex := 727, descriptorIndex := 728, attributes := #[] }] 49 2 #[] #[{ accessFlags := 25, nameIndex := 507, descriptorIndex := 526, attributes := #[] }, { accessFlags := 25, nameIndex := 399, descriptorIndex := 155, attributes := #[] }, { accessFlags := 25, nameIndex := 396, descriptorIndex := 155, attributes := #[] }, { accessFlags := 10, nameIndex := 525, descriptorIndex := 526, attributes := #[] }, { accessFlags := 26, nameIndex := 674, descriptorIndex := 12, attributes := #[] }, { accessFlags := 26, nameIndex := 677, descriptorIndex := 12, attributes := #[] }, { accessFlags := 10, nameIndex := 11, descriptorIndex := 12, attributes := #[] }, { accessFlags := 74, nameIndex := 175, descriptorIndex := 176, attributes := #[] }, { accessFlags := 10, nameIndex := 491, descriptorIndex := 222, attributes := #[] }, { accessFlags := 74, nameIndex := 29, descriptorIndex := 30, attributes := #[] }, { accessFlags := 74, nameIndex := 154, descriptorIndex := 155, attributes := #[] }, { accessFlags := 10, nameIndex := 217, descriptorIndex := 218, attributes := #[] }, { accessFlags := 10, nameIndex := 221, descriptorIndex := 222, attributes := #[] }, { accessFlags := 8, nameIndex := 562, descriptorIndex := 563, attributes := #[] }])
  fields := #[{ name := "in", type := (.object "java/io/InputStream"), accessFlags := 25, slot := 0, constantValue := 0 }, { name := "out", type := (.object "java/io/PrintStream"), accessFlags := 25, slot := 1, constantValue := 0 }, { name := "err", type := (.object "java/io/PrintStream"), accessFlags := 25, slot := 2, constantValue := 0 }, { name := "initialIn", type := (.object "java/io/InputStream"), accessFlags := 10, slot := 3, constantValue := 0 }, { name := "NEVER", type := .int, accessFlags := 26, slot := 4, constantValue := 0 }, { name := "MAYBE", type := .int, accessFlags := 26, slot := 5, constantValue := 0 }, { name := "allowSecurityManager", type := .int, accessFlags := 10, slot := 6, constantValue := 0 }, { name := "security", type := (.object "java/lang/SecurityManager"), accessFlags := 74, slot := 7, constantValue := 0 }, { name := "notSupportedJnuEncoding", type := (.object "java/lang/String"), accessFlags := 10, slot := 8, constantValue := 0 }, { name := "cons", type := (.object "java/io/Console"), accessFlags := 74, slot := 9, constantValue := 0 }, { name := "initialErrStream", type := (.object "java/io/PrintStream"), accessFlags := 74, slot := 10, constantValue := 0 }, { name := "props", type := (.object "java/util/Properties"), accessFlags := 10, slot := 11, constantValue := 0 }, { name := "lineSeparator", type := (.object "java/lang/String"), accessFlags := 10, slot := 12, constantValue := 0 }, { name := "bootLayer", type := (.object "java/lang/ModuleLayer"), accessFlags := 8, slot := 13, constantValue := 0 }]
  methods := #[k22m0, k22m1]
  instanceTypes := #[]
  staticTypes := #[(.object "java/io/InputStream"), (.object "java/io/PrintStream"), (.object "java/io/PrintStream"), (.object "java/io/InputStream"), .int, .int, .int, (.object "java/lang/SecurityManager"), (.object "java/lang/String"), (.object "java/io/Console"), (.object "java/io/PrintStream"), (.object "java/util/Properties"), (.object "java/lang/String"), (.object "java/lang/ModuleLayer")]
  resolved := Array.replicate 834 none
  statics := none }

def pool23 : Array CpInfo := pool [(2, .class_ 4), (1, u "java/lang/Object"), (0, u "<init>"), (0, u "()V"), (7, .class_ 16), (1, u "java/util/Arrays"), (57, .class_ 76), (1, u "java/util/Arrays$NaturalOrder"), (36, .class_ 115), (1, u "java/util/Arrays$LegacyMergeSort"), (1, u "Z"), (21, u "copyOfRange"), (10, .methodref 151 152), (0, .class_ 153), (0, .nameAndType 154 155), (0, u "java/lang/System"), (0, u "arraycopy"), (0, u "(Ljava/lang/Object;ILjava/lang/Object;II)V"), (146, u "copyOf"), (1, .methodref 305 306), (0, .class_ 307), (0, .nameAndType 308 309), (0, u "java/lang/Math"), (0, u "min"), (0, u "(II)I"), (29, .methodref 14 340), (0, .nameAndType 341 342), (0, u "copyOfRangeByte"), (0, u "([BII)[B"), (0, .methodref 14 344), (0, .nameAndType 345 346), (0, u "checkLength"), (0, u "(II)V"), (28, .class_ 376), (0, u "java/util/Arrays$ArrayList"), (68, u "$assertionsDisabled"), (269, u "MIN_ARRAY_SORT_GRAN"), (0, u "I"), (2, u "INSERTIONSORT_THRESHOLD"), (149, u "([BI)[B"), (105, .class_ 976), (0, u "java/util/Arrays$ArrayItr")] 52

def k23m0 : Method := { name := "<init>", desc := "()V", sig := { parameters := [], returnType := none }, accessFlags := 2, code := none }
def k23c1 : Code := { maxStack := 6, maxLocals := 3, code := jdk_65_method_121_code, exceptionTable := #[], attributes := #[] }
def k23m1 : Method := { name := "copyOf", desc := "([BI)[B", sig := { parameters := [(.array .byte), .int], returnType := some (.array .byte) }, accessFlags := 9, code := some k23c1 }
def k23c2 : Code := { maxStack := 4, maxLocals := 2, code := jdk_65_method_131_code, exceptionTable := #[], attributes := #[] }
def k23m2 : Method := { name := "checkLength", desc := "(II)V", sig := { parameters := [.int, .int], returnType := none }, accessFlags := 10, code := some k23c2 }
def k23c3 : Code := { maxStack := 3, maxLocals := 3, code := jdk_65_method_132_code, exceptionTable := #[], attributes := #[] }
def k23m3 : Method := { name := "copyOfRange", desc := "([BII)[B", sig := { parameters := [(.array .byte), .int, .int], returnType := some (.array .byte) }, accessFlags := 9, code := some k23c3 }
def k23c4 : Code := { maxStack := 6, maxLocals := 5, code := jdk_65_method_133_code, exceptionTable := #[], attributes := #[] }
def k23m4 : Method := { name := "copyOfRangeByte", desc := "([BII)[B", sig := { parameters := [(.array .byte), .int, .int], returnType := some (.array .byte) }, accessFlags := 10, code := some k23c4 }
/-- java/util/Arrays -/
def k23 : Class := { plain "java/util/Arrays" (some 0) with
  accessFlags := 49
  interfaces := #[]
  cf := some (fileOf pool23 14 #[.nestMembers #[975, 375, 113, 74]] #[{ accessFlags := 2, nameIndex := 5, descriptorIndex := 6, attributes := #[] }, { accessFlags := 9, nameIndex := 302, descriptorIndex := 869, attributes := #[] }, { accessFlags := 10, nameIndex := 345, descriptorIndex := 346, attributes := #[] }, { accessFlags := 9, nameIndex := 139, descriptorIndex := 342, attributes := #[] }, { accessFlags := 10, nameIndex := 341, descriptorIndex := 342, attributes := #[] }] 49 2 #[] #[{ accessFlags := 26, nameIndex := 715, descriptorIndex := 716, attributes := #[] }, { accessFlags := 26, nameIndex := 719, descriptorIndex := 716, attributes := #[] }, { accessFlags := 4120, nameIndex := 445, descriptorIndex := 117, attributes := #[] }])
  fields := #[{ name := "MIN_ARRAY_SORT_GRAN", type := .int, accessFlags := 26, slot := 0, constantValue := 0 }, { name := "INSERTIONSORT_THRESHOLD", type := .int, accessFlags := 26, slot := 1, constantValue := 0 }, { name := "$assertionsDisabled", type := .boolean, accessFlags := 4120, slot := 2, constantValue := 0 }]
  methods := #[k23m0, k23m1, k23m2, k23m3, k23m4]
  instanceTypes := #[]
  staticTypes := #[.int, .int, .boolean]
  resolved := Array.replicate 1029 none
  statics := none }

def pool24 : Array CpInfo := pool [(1, .class_ 2), (0, u "java/lang/Math"), (1, .class_ 6), (1, u "java/lang/Object"), (0, u "<init>"), (0, u "()V"), (89, .class_ 100), (1, u "java/lang/Math$RandomNumberGeneratorHolder"), (71, u "negativeZeroFloatBits"), (0, u "J"), (2, u "negativeZeroDoubleBits"), (24, u "min"), (43, u "$assertionsDisabled"), (0, u "Z"), (88, u "(II)I"), (2, u "twoToTheDoubleScaleDown"), (0, u "D"), (4, u "twoToTheDoubleScaleUp"), (9, u "E"), (3, u "PI"), (2, u "TAU"), (2, u "DEGREES_TO_RADIANS"), (0, u "RADIANS_TO_DEGREES")] 94

def k24m0 : Method := { name := "<init>", desc := "()V", sig := { parameters := [], returnType := none }, accessFlags := 2, code := none }
def k24c1 : Code := { maxStack := 2, maxLocals := 2, code := jdk_29_method_69_code, exceptionTable := #[], attributes := #[] }
def k24m1 : Method := { name := "min", desc := "(II)I", sig := { parameters := [.int, .int], returnType := some .int }, accessFlags := 9, code := some k24c1 }
/-- java/lang/Math -/
def k24 : Class := { plain "java/lang/Math" (some 0) with
  accessFlags := 49
  interfaces := #[]
  cf := some (fileOf pool24 1 #[.nestMembers #[98]] #[{ accessFlags := 2, nameIndex := 7, descriptorIndex := 8, attributes := #[] }, { accessFlags := 9, nameIndex := 201, descriptorIndex := 335, attributes := #[] }] 49 4 #[] #[{ accessFlags := 25, nameIndex := 354, descriptorIndex := 339, attributes := #[] }, { accessFlags := 25, nameIndex := 358, descriptorIndex := 339, attributes := #[] }, { accessFlags := 25, nameIndex := 361, descriptorIndex := 339, attributes := #[] }, { accessFlags := 26, nameIndex := 364, descriptorIndex := 339, attributes := #[] }, { accessFlags := 26, nameIndex := 365, descriptorIndex := 339, attributes := #[] }, { accessFlags := 26, nameIndex := 172, descriptorIndex := 173, attributes := #[] }, { accessFlags := 26, nameIndex := 176, descriptorIndex := 173, attributes := #[] }, { accessFlags := 8, nameIndex := 344, descriptorIndex := 339, attributes := #[] }, { accessFlags := 8, nameIndex := 338, descriptorIndex := 339, attributes := #[] }, { accessFlags := 4120, nameIndex := 245, descriptorIndex := 246, attributes := #[] }])
  fields := #[{ name := "E", type := .double, accessFlags := 25, slot := 0, constantValue := 0 }, { name := "PI", type := .double, accessFlags := 25, slot := 1, constantValue := 0 }, { name := "TAU", type := .double, accessFlags := 25, slot := 2, constantValue := 0 }, { name := "DEGREES_TO_RADIANS", type := .double, accessFlags := 26, slot := 3, constantValue := 0 }, { name := "RADIANS_TO_DEGREES", type := .double, accessFlags := 26, slot := 4, constantValue := 0 }, { name := "negativeZeroFloatBits", type := .long, accessFlags := 26, slot := 5, constantValue := 0 }, { name := "negativeZeroDoubleBits", type := .long, accessFlags := 26, slot := 6, constantValue := 0 }, { name := "twoToTheDoubleScaleUp", type := .double, accessFlags := 8, slot := 7, constantValue := 0 }, { name := "twoToTheDoubleScaleDown", type := .double, accessFlags := 8, slot := 8, constantValue := 0 }, { name := "$assertionsDisabled", type := .boolean, accessFlags := 4120, slot := 9, constantValue := 0 }]
  methods := #[k24m0, k24m1]
  instanceTypes := #[]
  staticTypes := #[.double, .double, .double, .double, .double, .long, .long, .double, .double, .boolean]
  resolved := Array.replicate 460 none
  statics := none }

def pool25 : Array CpInfo := pool [(10, .class_ 12), (1, u "java/nio/charset/Charset"), (0, u "<init>"), (5, .class_ 20), (0, u "sun/nio/cs/ISO_8859_1"), (0, .class_ 22), (0, u "sun/nio/cs/ISO_8859_1$Decoder"), (3, .class_ 27), (0, u "sun/nio/cs/ISO_8859_1$Encoder"), (3, u "()V"), (2, u "INSTANCE"), (0, u "Lsun/nio/cs/ISO_8859_1;"), (0, .class_ 37), (0, u "sun/nio/cs/HistoricallyNamedCharset")] 22

def k25m0 : Method := { name := "<init>", desc := "()V", sig := { parameters := [], returnType := none }, accessFlags := 1, code := none }
/-- sun/nio/cs/ISO_8859_1 -/
def k25 : Class := { plain "sun/nio/cs/ISO_8859_1" (some 11) with
  accessFlags := 33
  interfaces := #[12]
  cf := some (fileOf pool25 19 #[.nestMembers #[26, 21]] #[{ accessFlags := 1, nameIndex := 13, descriptorIndex := 31, attributes := #[] }] 33 10 #[36] #[{ accessFlags := 25, nameIndex := 34, descriptorIndex := 35, attributes := #[] }])
  fields := #[{ name := "INSTANCE", type := (.object "sun/nio/cs/ISO_8859_1"), accessFlags := 25, slot := 0, constantValue := 0 }]
  methods := #[k25m0]
  instanceTypes := #[(.object "java/lang/String"), (.array (.object "java/lang/String")), (.object "java/util/Set")]
  staticTypes := #[(.object "sun/nio/cs/ISO_8859_1")]
  resolved := Array.replicate 60 none
  statics := some 4 }

def pool26 : Array CpInfo := pool [(10, .class_ 12), (1, u "java/nio/charset/Charset"), (0, u "<init>"), (3, .class_ 18), (0, u "sun/nio/cs/US_ASCII"), (0, .class_ 20), (0, u "sun/nio/cs/US_ASCII$Decoder"), (3, .class_ 25), (0, u "sun/nio/cs/US_ASCII$Encoder"), (3, u "()V"), (2, u "INSTANCE"), (0, u "Lsun/nio/cs/US_ASCII;"), (8, u "JLA"), (0, u "Ljdk/internal/access/JavaLangAccess;"), (0, .class_ 45), (0, u "sun/nio/cs/HistoricallyNamedCharset")] 21

def k26m0 : Method := { name := "<init>", desc := "()V", sig := { parameters := [], returnType := none }, accessFlags := 1, code := none }
/-- sun/nio/cs/US_ASCII -/
def k26 : Class := { plain "sun/nio/cs/US_ASCII" (some 11) with
  accessFlags := 33
  interfaces := #[12]
  cf := some (fileOf pool26 17 #[.nestMembers #[24, 19]] #[{ accessFlags := 1, nameIndex := 13, descriptorIndex := 29, attributes := #[] }] 33 10 #[44] #[{ accessFlags := 25, nameIndex := 32, descriptorIndex := 33, attributes := #[] }, { accessFlags := 26, nameIndex := 42, descriptorIndex := 43, attributes := #[] }])
  fields := #[{ name := "INSTANCE", type := (.object "sun/nio/cs/US_ASCII"), accessFlags := 25, slot := 0, constantValue := 0 }, { name := "JLA", type := (.object "jdk/internal/access/JavaLangAccess"), accessFlags := 26, slot := 1, constantValue := 0 }]
  methods := #[k26m0]
  instanceTypes := #[(.object "java/lang/String"), (.array (.object "java/lang/String")), (.object "java/util/Set")]
  staticTypes := #[(.object "sun/nio/cs/US_ASCII"), (.object "jdk/internal/access/JavaLangAccess")]
  resolved := Array.replicate 67 none
  statics := some 5 }

def pool27 : Array CpInfo := pool [(6, .class_ 8), (1, u "java/lang/Object"), (0, u "<init>"), (0, u "()V"), (0, .methodref 12 13), (0, .class_ 14), (0, .nameAndType 15 16), (0, u "java/lang/StringUTF16"), (0, u "newBytesLength"), (0, u "(I)I"), (3, .integer 1073741823), (23, .fieldref 12 45), (0, .nameAndType 46 47), (0, u "$assertionsDisabled"), (0, u "Z"), (11, .fieldref 12 60), (0, .nameAndType 61 62), (0, u "HI_BYTE_SHIFT"), (0, u "I"), (0, .fieldref 12 64), (0, .nameAndType 65 62), (0, u "LO_BYTE_SHIFT"), (5, .methodref 12 72), (0, .nameAndType 73 74), (0, u "getChar"), (0, u "([BI)C"), (32, .methodref 12 108), (0, .nameAndType 109 110), (0, u "newBytesFor"), (0, u "(I)[B"), (0, .methodref 12 112), (0, .nameAndType 113 114), (0, u "putChar"), (0, u "([BII)V"), (0, .methodref 12 116), (0, .nameAndType 117 118), (0, u "compress"), (0, u "([CI[BII)I"), (0, .methodref 12 120), (0, .nameAndType 121 122), (0, u "toBytes"), (0, u "([CII)[B"), (138, u "coderFromArrayLen"), (0, u "([BI)B"), (106, .class_ 371), (1, u "java/lang/StringUTF16$LinesSpliterator"), (58, u "MAX_LENGTH"), (196, .class_ 628), (0, u "java/lang/StringUTF16$CodePointsSpliterator"), (0, .class_ 630), (0, u "java/lang/StringUTF16$CharsSpliterator")] 4

def k27m0 : Method := { name := "<init>", desc := "()V", sig := { parameters := [], returnType := none }, accessFlags := 0, code := none }
def k27c1 : Code := { maxStack := 1, maxLocals := 1, code := jdk_52_method_2_code, exceptionTable := #[], attributes := #[] }
def k27m1 : Method := { name := "newBytesFor", desc := "(I)[B", sig := { parameters := [.int], returnType := some (.array .byte) }, accessFlags := 9, code := some k27c1 }
def k27c2 : Code := { maxStack := 4, maxLocals := 1, code := jdk_52_method_3_code, exceptionTable := #[], attributes := #[] }
def k27m2 : Method := { name := "newBytesLength", desc := "(I)I", sig := { parameters := [.int], returnType := some .int }, accessFlags := 9, code := some k27c2 }
def k27c3 : Code := { maxStack := 4, maxLocals := 3, code := jdk_52_method_4_code, exceptionTable := #[], attributes := #[] }
def k27m3 : Method := { name := "putChar", desc := "([BII)V", sig := { parameters := [(.array .byte), .int, .int], returnType := none }, accessFlags := 8, code := some k27c3 }
def k27c4 : Code := { maxStack := 3, maxLocals := 2, code := jdk_52_method_5_code, exceptionTable := #[], attributes := #[] }
def k27m4 : Method := { name := "getChar", desc := "([BI)C", sig := { parameters := [(.array .byte), .int], returnType := some .char }, accessFlags := 8, code := some k27c4 }
def k27c5 : Code := { maxStack := 4, maxLocals := 5, code := jdk_52_method_14_code, exceptionTable := #[], attributes := #[] }
def k27m5 : Method := { name := "toBytes", desc := "([CII)[B", sig := { parameters := [(.array .char), .int, .int], returnType := some (.array .byte) }, accessFlags := 9, code := some k27c5 }
def k27c6 : Code := { maxStack := 2, maxLocals := 2, code := jdk_52_method_15_code, exceptionTable := #[], attributes := #[] }
def k27m6 : Method := { name := "coderFromArrayLen", desc := "([BI)B", sig := { parameters := [(.array .byte), .int], returnType := some .byte }, accessFlags := 8, code := some k27c6 }
def k27c7 : Code := { maxStack := 5, maxLocals := 6, code := jdk_52_method_16_code, exceptionTable := #[], attributes := #[] }
def k27m7 : Method := { name := "compress", desc := "([CII)[B", sig := { parameters := [(.array .char), .int, .int], returnType := some (.array .byte) }, accessFlags := 9, code := some k27c7 }
def k27c8 : Code := { maxStack := 3, maxLocals := 7, code := jdk_52_method_21_code, exceptionTable := #[], attributes := #[] }
def k27m8 : Method := { name := "compress", desc := "([CI[BII)I", sig := { parameters := [(.array .char), .int, (.array .byte), .int, .int], returnType := some .int }, accessFlags := 9, code := some k27c8 }
/-- java/lang/StringUTF16 -/
def k27 : Class := { plain "java/lang/StringUTF16" (some 0) with
  accessFlags := 48
  interfaces := #[]
  cf := some (fileOf pool27 12 #[.nestMembers #[627, 629, 369]] #[{ accessFlags := 0, nameIndex := 9, descriptorIndex := 10, attributes := #[] }, { accessFlags := 9, nameIndex := 109, descriptorIndex := 110, attributes := #[] }, { accessFlags := 9, nameIndex := 15, descriptorIndex := 16, attributes := #[] }, { accessFlags := 8, nameIndex := 113, descriptorIndex := 114, attributes := #[] }, { accessFlags := 8, nameIndex := 73, descriptorIndex := 74, attributes := #[] }, { accessFlags := 9, nameIndex := 121, descriptorIndex := 122, attributes := #[] }, { accessFlags := 8, nameIndex := 261, descriptorIndex := 262, attributes := #[] }, { accessFlags := 9, nameIndex := 117, descriptorIndex := 122, attributes := #[] }, { accessFlags := 9, nameIndex := 117, descriptorIndex := 118, attributes := #[] }] 48 6 #[] #[{ accessFlags := 26, nameIndex := 61, descriptorIndex := 62, attributes := #[] }, { accessFlags := 26, nameIndex := 65, descriptorIndex := 62, attributes := #[] }, { accessFlags := 24, nameIndex := 430, descriptorIndex := 62, attributes := #[] }, { accessFlags := 4120, nameIndex := 46, descriptorIndex := 47, attributes := #[] }])
  fields := #[{ name := "HI_BYTE_SHIFT", type := .int, accessFlags := 26, slot := 0, constantValue := 0 }, { name := "LO_BYTE_SHIFT", type := .int, accessFlags := 26, slot := 1, constantValue := 0 }, { name := "MAX_LENGTH", type := .int, accessFlags := 24, slot := 2, constantValue := 0 }, { name := "$assertionsDisabled", type := .boolean, accessFlags := 4120, slot := 3, constantValue := 0 }]
  methods := #[k27m0, k27m1, k27m2, k27m3, k27m4, k27m5, k27m6, k27m7, k27m8]
  instanceTypes := #[]
  staticTypes := #[.int, .int, .int, .boolean]
  resolved := Array.replicate 635 none
  statics := some 6 }

def pool28 : Array CpInfo := pool [(1, .class_ 2), (0, u "java/lang/Character"), (18, u "value"), (0, u "C"), (19, .class_ 44), (1, u "java/lang/Object"), (3, .class_ 50), (1, u "java/lang/Character$CharacterCache"), (24, .integer 55296), (0, .integer 56320), (0, .integer 57344), (2, u "isHighSurrogate"), (0, u "(C)Z"), (2, u "isLowSurrogate"), (0, .integer 4238353408), (12, u "toCodePoint"), (0, u "(CC)I"), (184, u "$assertionsDisabled"), (0, u "Z"), (21, .class_ 309), (1, u "java/lang/Character$UnicodeBlock"), (73, u "TYPE"), (0, u "Ljava/lang/Class;"), (0, .class_ 386), (0, u "java/io/Serializable"), (0, .class_ 388), (0, u "java/lang/Comparable"), (0, .class_ 390), (0, u "java/lang/constant/Constable"), (0, u "MIN_RADIX"), (0, u "I"), (2, u "MAX_RADIX"), (1, u "MIN_VALUE"), (1, u "MAX_VALUE"), (3, u "UNASSIGNED"), (0, u "B"), (0, u "UPPERCASE_LETTER"), (1, u "LOWERCASE_LETTER"), (0, u "TITLECASE_LETTER"), (1, u "MODIFIER_LETTER"), (1, u "OTHER_LETTER"), (1, u "NON_SPACING_MARK"), (1, u "ENCLOSING_MARK"), (1, u "COMBINING_SPACING_MARK"), (1, u "DECIMAL_DIGIT_NUMBER"), (1, u "LETTER_NUMBER"), (1, u "OTHER_NUMBER"), (1, u "SPACE_SEPARATOR"), (1, u "LINE_SEPARATOR"), (1, u "PARAGRAPH_SEPARATOR"), (1, u "CONTROL"), (1, u "FORMAT"), (1, u "PRIVATE_USE"), (1, u "SURROGATE"), (1, u "DASH_PUNCTUATION"), (1, u "START_PUNCTUATION"), (1, u "END_PUNCTUATION"), (1, u "CONNECTOR_PUNCTUATION"), (1, u "OTHER_PUNCTUATION"), (1, u "MATH_SYMBOL"), (1, u "CURRENCY_SYMBOL"), (1, u "MODIFIER_SYMBOL"), (1, u "OTHER_SYMBOL"), (1, u "INITIAL_QUOTE_PUNCTUATION"), (1, u "FINAL_QUOTE_PUNCTUATION"), (1, u "ERROR"), (1, u "DIRECTIONALITY_UNDEFINED"), (0, u "DIRECTIONALITY_LEFT_TO_RIGHT"), (0, u "DIRECTIONALITY_RIGHT_TO_LEFT"), (0, u "DIRECTIONALITY_RIGHT_TO_LEFT_ARABIC"), (0, u "DIRECTIONALITY_EUROPEAN_NUMBER"), (0, u "DIRECTIONALITY_EUROPEAN_NUMBER_SEPARATOR"), (0, u "DIRECTIONALITY_EUROPEAN_NUMBER_TERMINATOR"), (0, u "DIRECTIONALITY_ARABIC_NUMBER"), (0, u "DIRECTIONALITY_COMMON_NUMBER_SEPARATOR"), (0, u "DIRECTIONALITY_NONSPACING_MARK"), (0, u "DIRECTIONALITY_BOUNDARY_NEUTRAL"), (0, u "DIRECTIONALITY_PARAGRAPH_SEPARATOR"), (0, u "DIRECTIONALITY_SEGMENT_SEPARATOR"), (0, u "DIRECTIONALITY_WHITESPACE"), (0, u "DIRECTIONALITY_OTHER_NEUTRALS"), (0, u "DIRECTIONALITY_LEFT_TO_RIGHT_EMBEDDING"), (0, u "DIRECTIONALITY_LEFT_TO_RIGHT_OVERRIDE"), (0, u "DIRECTIONALITY_RIGHT_TO_LEFT_EMBEDDING"), (0, u "DIRECTIONALITY_RIGHT_TO_LEFT_OVERRIDE"), (1, u "DIRECTIONALITY_POP_DIRECTIONAL_FORMAT"), (0, u "DIRECTIONALITY_LEFT_TO_RIGHT_ISOLATE"), (0, u "DIRECTIONALITY_RIGHT_TO_LEFT_ISOLATE"), (0, u "DIRECTIONALITY_FIRST_STRONG_ISOLATE"), (0, u "DIRECTIONALITY_POP_DIRECTIONAL_ISOLATE"), (0, u "MIN_HIGH_SURROGATE"), (0, u "MAX_HIGH_SURROGATE"), (1, u "MIN_LOW_SURROGATE"), (0, u "MAX_LOW_SURROGATE"), (1, u "MIN_SURROGATE"), (0, u "MAX_SURROGATE"), (0, u "MIN_SUPPLEMENTARY_CODE_POINT"), (0, u "MIN_CODE_POINT"), (0, u "MAX_CODE_POINT"), (1, u "serialVersionUID"), (0, u "J"), (2, u "SIZE"), (0, u "BYTES"), (24, u "isSurrogate"), (63, .class_ 596), (0, u "java/lang/Character$UnicodeScript"), (0, .class_ 598), (0, u "java/lang/Character$Subset")] 5

def k28c0 : Code := { maxStack := 2, maxLocals := 1, code := jdk_89_method_14_code, exceptionTable := #[], attributes := #[] }
def k28m0 : Method := { name := "isHighSurrogate", desc := "(C)Z", sig := { parameters := [.char], returnType := some .boolean }, accessFlags := 9, code := some k28c0 }
def k28c1 : Code := { maxStack := 2, maxLocals := 1, code := jdk_89_method_15_code, exceptionTable := #[], attributes := #[] }
def k28m1 : Method := { name := "isLowSurrogate", desc := "(C)Z", sig := { parameters := [.char], returnType := some .boolean }, accessFlags := 9, code := some k28c1 }
def k28c2 : Code := { maxStack := 2, maxLocals := 1, code := jdk_89_method_16_code, exceptionTable := #[], attributes := #[] }
def k28m2 : Method := { name := "isSurrogate", desc := "(C)Z", sig := { parameters := [.char], returnType := some .boolean }, accessFlags := 9, code := some k28c2 }
def k28c3 : Code := { maxStack := 2, maxLocals := 2, code := jdk_89_method_19_code, exceptionTable := #[], attributes := #[] }
def k28m3 : Method := { name := "toCodePoint", desc := "(CC)I", sig := { parameters := [.char, .char], returnType := some .int }, accessFlags := 9, code := some k28c3 }
/-- java/lang/Character -/
def k28 : Class := { plain "java/lang/Character" (some 0) with
  accessFlags := 49
  interfaces := #[2, 3, 5]
  cf := some (fileOf pool28 1 #[.nestMembers #[48, 595, 307, 597]] #[{ accessFlags := 9, nameIndex := 80, descriptorIndex := 81, attributes := #[] }, { accessFlags := 9, nameIndex := 84, descriptorIndex := 81, attributes := #[] }, { accessFlags := 9, nameIndex := 531, descriptorIndex := 81, attributes := #[] }, { accessFlags := 9, nameIndex := 98, descriptorIndex := 99, attributes := #[] }] 49 42 #[385, 387, 389] #[{ accessFlags := 25, nameIndex := 391, descriptorIndex := 392, attributes := #[] }, { accessFlags := 25, nameIndex := 395, descriptorIndex := 392, attributes := #[] }, { accessFlags := 25, nameIndex := 397, descriptorIndex := 22, attributes := #[] }, { accessFlags := 25, nameIndex := 399, descriptorIndex := 22, attributes := #[] }, { accessFlags := 25, nameIndex := 383, descriptorIndex := 384, attributes := #[] }, { accessFlags := 25, nameIndex := 403, descriptorIndex := 404, attributes := #[] }, { accessFlags := 25, nameIndex := 405, descriptorIndex := 404, attributes := #[] }, { accessFlags := 25, nameIndex := 407, descriptorIndex := 404, attributes := #[] }, { accessFlags := 25, nameIndex := 408, descriptorIndex := 404, attributes := #[] }, { accessFlags := 25, nameIndex := 410, descriptorIndex := 404, attributes := #[] }, { accessFlags := 25, nameIndex := 412, descriptorIndex := 404, attributes := #[] }, { accessFlags := 25, nameIndex := 414, descriptorIndex := 404, attributes := #[] }, { accessFlags := 25, nameIndex := 416, descriptorIndex := 404, attributes := #[] }, { accessFlags := 25, nameIndex := 418, descriptorIndex := 404, attributes := #[] }, { accessFlags := 25, nameIndex := 420, descriptorIndex := 404, attributes := #[] }, { accessFlags := 25, nameIndex := 422, descriptorIndex := 404, attributes := #[] }, { accessFlags := 25, nameIndex := 424, descriptorIndex := 404, attributes := #[] }, { accessFlags := 25, nameIndex := 426, descriptorIndex := 404, attributes := #[] }, { accessFlags := 25, nameIndex := 428, descriptorIndex := 404, attributes := #[] }, { accessFlags := 25, nameIndex := 430, descriptorIndex := 404, attributes := #[] }, { accessFlags := 25, nameIndex := 432, descriptorIndex := 404, attributes := #[] }, { accessFlags := 25, nameIndex := 434, descriptorIndex := 404, attributes := #[] }, { accessFlags := 25, nameIndex := 436, descriptorIndex := 404, attributes := #[] }, { accessFlags := 25, nameIndex := 438, descriptorIndex := 404, attributes := #[] }, { accessFlags := 25, nameIndex := 440, descriptorIndex := 404, attributes := #[] }, { accessFlags := 25, nameIndex := 442, descriptorIndex := 404, attributes := #[] }, { accessFlags := 25, nameIndex := 444, descriptorIndex := 404, attributes := #[] }, { accessFlags := 25, nameIndex := 446, descriptorIndex := 404, attributes := #[] }, { accessFlags := 25, nameIndex := 448, descriptorIndex := 404, attributes := #[] }, { accessFlags := 25, nameIndex := 450, descriptorIndex := 404, attributes := #[] }, { accessFlags := 25, nameIndex := 452, descriptorIndex := 404, attributes := #[] }, { accessFlags := 25, nameIndex := 454, descriptorIndex := 404, attributes := #[] }, { accessFlags := 25, nameIndex := 456, descriptorIndex := 404, attributes := #[] }, { accessFlags := 25, nameIndex := 458, descriptorIndex := 404, attributes := #[] }, { accessFlags := 25, nameIndex := 460, descriptorIndex := 404, attributes := #[] }, { accessFlags := 24, nameIndex := 462, descriptorIndex := 392, attributes := #[] }, { accessFlags := 25, nameIndex := 464, descriptorIndex := 404, attributes := #[] }, { accessFlags := 25, nameIndex := 465, descriptorIndex := 404, attributes := #[] }, { accessFlags := 25, nameIndex := 466, descriptorIndex := 404, attributes := #[] }, { accessFlags := 25, nameIndex := 467, descriptorIndex := 404, attributes := #[] }, { accessFlags := 25, nameIndex := 468, descriptorIndex := 404, attributes := #[] }, { accessFlags := 25, nameIndex := 469, descriptorIndex := 404, attributes := #[] }, { accessFlags := 25, nameIndex := 470, descriptorIndex := 404, attributes := #[] }, { accessFlags := 25, nameIndex := 471, descriptorIndex := 404, attributes := #[] }, { accessFlags := 25, nameIndex := 472, descriptorIndex := 404, attributes := #[] }, { accessFlags := 25, nameIndex := 473, descriptorIndex := 404, attributes := #[] }, { accessFlags := 25, nameIndex := 474, descriptorIndex := 404, attributes := #[] }, { accessFlags := 25, nameIndex := 475, descriptorIndex := 404, attributes := #[] }, { accessFlags := 25, nameIndex := 476, descriptorIndex := 404, attributes := #[] }, { accessFlags := 25, nameIndex := 477, descriptorIndex := 404, attributes := #[] }, { accessFlags := 25, nameIndex := 478, descriptorIndex := 404, attributes := #[] }, { accessFlags := 25, nameIndex := 479, descriptorIndex := 404, attributes := #[] }, { accessFlags := 25, nameIndex := 480, descriptorIndex := 404, attributes := #[] }, { accessFlags := 25, nameIndex := 481, descriptorIndex := 404, attributes := #[] }, { accessFlags := 25, nameIndex := 482, descriptorIndex := 404, attributes := #[] }, { accessFlags := 25, nameIndex := 484, descriptorIndex := 404, attributes := #[] }, { accessFlags := 25, nameIndex := 485, descriptorIndex := 404, attributes := #[] }, { accessFlags := 25, nameIndex := 486, descriptorIndex := 404, attributes := #[] }, { accessFlags := 25, nameIndex := 487, descriptorIndex := 404, attributes := #[] }, { accessFlags := 25, nameIndex := 488, descriptorIndex := 404, attributes := #[] }, { accessFlags := 25, nameIndex := 489, descriptorIndex := 22, attributes := #[] }, { accessFlags := 25, nameIndex := 490, descriptorIndex := 22, attributes := #[] }, { accessFlags := 25, nameIndex := 492, descriptorIndex := 22, attributes := #[] }, { accessFlags := 25, nameIndex := 493, descriptorIndex := 22, attributes := #[] }, { accessFlags := 25, nameIndex := 495, descriptorIndex := 22, attributes := #[] }, { accessFlags := 25, nameIndex := 496, descriptorIndex := 22, attributes := #[] }, { accessFlags := 25, nameIndex := 497, descriptorIndex := 392, attributes := #[] }, { accessFlags := 25, nameIndex := 498, descriptorIndex := 392, attributes := #[] }, { accessFlags := 25, nameIndex := 499, descriptorIndex := 392, attributes := #[] }, { accessFlags := 18, nameIndex := 21, descriptorIndex := 22, attributes := #[] }, { accessFlags := 26, nameIndex := 501, descriptorIndex := 502, attributes := #[] }, { accessFlags := 25, nameIndex := 505, descriptorIndex := 392, attributes := #[] }, { accessFlags := 25, nameIndex := 506, descriptorIndex := 392, attributes := #[] }, { accessFlags := 4120, nameIndex := 284, descriptorIndex := 285, attributes := #[] }])
  fields := #[{ name := "MIN_RADIX", type := .int, accessFlags := 25, slot := 0, constantValue := 0 }, { name := "MAX_RADIX", type := .int, accessFlags := 25, slot := 1, constantValue := 0 }, { name := "MIN_VALUE", type := .char, accessFlags := 25, slot := 2, constantValue := 0 }, { name := "MAX_VALUE", type := .char, accessFlags := 25, slot := 3, constantValue := 0 }, { name := "TYPE", type := (.object "java/lang/Class"), accessFlags := 25, slot := 4, constantValue := 0 }, { name := "UNASSIGNED", type := .byte, accessFlags := 25, slot := 5, constantValue := 0 }, { name := "UPPERCASE_LETTER", type := .byte, accessFlags := 25, slot := 6, constantValue := 0 }, { name := "LOWERCASE_LETTER", type := .byte, accessFlags := 25, slot := 7, constantValue := 0 }, { name := "TITLECASE_LETTER", type := .byte, accessFlags := 25, slot := 8, constantValue := 0 }, { name := "MODIFIER_LETTER", type := .byte, accessFlags := 25, slot := 9, constantValue := 0 }, { name := "OTHER_LETTER", type := .byte, accessFlags := 25, slot := 10, constantValue := 0 }, { name := "NON_SPACING_MARK", type := .byte, accessFlags := 25, slot := 11, constantValue := 0 }, { name := "ENCLOSING_MARK", type := .byte, accessFlags := 25, slot := 12, constantValue := 0 }, { name := "COMBINING_SPACING_MARK", type := .byte, accessFlags := 25, slot := 13, constantValue := 0 }, { name := "DECIMAL_DIGIT_NUMBER", type := .byte, accessFlags := 25, slot := 14, constantValue := 0 }, { name := "LETTER_NUMBER", type := .byte, accessFlags := 25, slot := 15, constantValue := 0 }, { name := "OTHER_NUMBER", type := .byte, accessFlags := 25, slot := 16, constantValue := 0 }, { name := "SPACE_SEPARATOR", type := .byte, accessFlags := 25, slot := 17, constantValue := 0 }, { name := "LINE_SEPARATOR", type := .byte, accessFlags := 25, slot := 18, constantValue := 0 }, { name := "PARAGRAPH_SEPARATOR", type := .byte, accessFlags := 25, slot := 19, constantValue := 0 }, { name := "CONTROL", type := .byte, accessFlags := 25, slot := 20, constantValue := 0 }, { name := "FORMAT", type := .byte, accessFlags := 25, slot := 21, constantValue := 0 }, { name := "PRIVATE_USE", type := .byte, accessFlags := 25, slot := 22, constantValue := 0 }, { name := "SURROGATE", type := .byte, accessFlags := 25, slot := 23, constantValue := 0 }, { name := "DASH_PUNCTUATION", type := .byte, accessFlags := 25, slot := 24, constantValue := 0 }, { name := "START_PUNCTUATION", type := .byte, accessFlags := 25, slot := 25, constantValue := 0 }, { name := "END_PUNCTUATION", type := .byte, accessFlags := 25, slot := 26, constantValue := 0 }, { name := "CONNECTOR_PUNCTUATION", type := .byte, accessFlags := 25, slot := 27, constantValue := 0 }, { name := "OTHER_PUNCTUATION", type := .byte, accessFlags := 25, slot := 28, constantValue := 0 }, { name := "MATH_SYMBOL", type := .byte, accessFlags := 25, slot := 29, constantValue := 0 }, { name := "CURRENCY_SYMBOL", type := .byte, accessFlags := 25, slot := 30, constantValue := 0 }, { name := "MODIFIER_SYMBOL", type := .byte, accessFlags := 25, slot := 31, constantValue := 0 }, { name := "OTHER_SYMBOL", type := .byte, accessFlags := 25, slot := 32, constantValue := 0 }, { name := "INITIAL_QUOTE_PUNCTUATION", type := .byte, accessFlags := 25, slot := 33, constantValue := 0 }, { name := "FINAL_QUOTE_PUNCTUATION", type := .byte, accessFlags := 25, slot := 34, constantValue := 0 }, { name := "ERROR", type := .int, accessFlags := 24, slot := 35, constantValue := 0 }, { name := "DIRECTIONALITY_UNDEFINED", type := .byte, accessFlags := 25, slot := 36, constantValue := 0 }, { name := "DIRECTIONALITY_LEFT_TO_RIGHT", type := .byte, accessFlags := 25, slot := 37, constantValue := 0 }, { name := "DIRECTIONALITY_RIGHT_TO_LEFT", type := .byte, accessFlags := 25, slot := 38, constantValue := 0 }, { name := "DIRECTIONALITY_RIGHT_TO_LEFT_ARABIC", type := .byte, accessFlags := 25, slot := 39, constantValue := 0 }, { name := "DIRECTIONALITY_EUROPEAN_NUMBER", type := .byte, accessFlags := 25, slot := 40, constantValue := 0 }, { name := "DIRECTIONALITY_EUROPEAN_NUMBER_SEPARATOR", type := .byte, accessFlags := 25, slot := 41, constantValue := 0 }, { name := "DIRECTIONALITY_EUROPEAN_NUMBER_TERMINATOR", type := .byte, accessFlags := 25, slot := 42, constantValue := 0 }, { name := "DIRECTIONALITY_ARABIC_NUMBER", type := .byte, accessFlags := 25, slot := 43, constantValue := 0 }, { name := "DIRECTIONALITY_COMMON_NUMBER_SEPARATOR", type := .byte, accessFlags := 25, slot := 44, constantValue := 0 }, { name := "DIRECTIONALITY_NONSPACING_MARK", type := .byte, accessFlags := 25, slot := 45, constantValue := 0 }, { name := "DIRECTIONALITY_BOUNDARY_NEUTRAL", type := .byte, accessFlags := 25, slot := 46, constantValue := 0 }, { name := "DIRECTIONALITY_PARAGRAPH_SEPARATOR", type := .byte, accessFlags := 25, slot := 47, constantValue := 0 }, { name := "DIRECTIONALITY_SEGMENT_SEPARATOR", type := .byte, accessFlags := 25, slot := 48, constantValue := 0 }, { name := "DIRECTIONALITY_WHITESPACE", type := .byte, accessFlags := 25, slot := 49, constantValue := 0 }, { name := "DIRECTIONALITY_OTHER_NEUTRALS", type := .byte, accessFlags := 25, slot := 50, constantValue := 0 }, { name := "DIRECTIONALITY_LEFT_TO_RIGHT_EMBEDDING", type := .byte, accessFlags := 25, slot := 51, constantValue := 0 }, { name := "DIRECTIONALITY_LEFT_TO_RIGHT_OVERRIDE", type := .byte, accessFlags := 25, slot := 52, constantValue := 0 }, { name := "DIRECTIONALITY_RIGHT_TO_LEFT_EMBEDDING", type := .byte, accessFlags := 25, slot := 53, constantValue := 0 }, { name := "DIRECTIONALITY_RIGHT_TO_LEFT_OVERRIDE", type := .byte, accessFlags := 25, slot := 54, constantValue := 0 }, { name := "DIRECTIONALITY_POP_DIRECTIONAL_FORMAT", type := .byte, accessFlags := 25, slot := 55, constantValue := 0 }, { name := "DIRECTIONALITY_LEFT_TO_RIGHT_ISOLATE", type := .byte, accessFlags := 25, slot := 56, constantValue := 0 }, { name := "DIRECTIONALITY_RIGHT_TO_LEFT_ISOLATE", type := .byte, accessFlags := 25, slot := 57, constantValue := 0 }, { name := "DIRECTIONALITY_FIRST_STRONG_ISOLATE", type := .byte, accessFlags := 25, slot := 58, constantValue := 0 }, { name := "DIRECTIONALITY_POP_DIRECTIONAL_ISOLATE", type := .byte, accessFlags := 25, slot := 59, constantValue := 0 }, { name := "MIN_HIGH_SURROGATE", type := .char, accessFlags := 25, slot := 60, constantValue := 0 }, { name := "MAX_HIGH_SURROGATE", type := .char, accessFlags := 25, slot := 61, constantValue := 0 }, { name := "MIN_LOW_SURROGATE", type := .char, accessFlags := 25, slot := 62, constantValue := 0 }, { name := "MAX_LOW_SURROGATE", type := .char, accessFlags := 25, slot := 63, constantValue := 0 }, { name := "MIN_SURROGATE", type := .char, accessFlags := 25, slot := 64, constantValue := 0 }, { name := "MAX_SURROGATE", type := .char, accessFlags := 25, slot := 65, constantValue := 0 }, { name := "MIN_SUPPLEMENTARY_CODE_POINT", type := .int, accessFlags := 25, slot := 66, constantValue := 0 }, { name := "MIN_CODE_POINT", type := .int, accessFlags := 25, slot := 67, constantValue := 0 }, { name := "MAX_CODE_POINT", type := .int, accessFlags := 25, slot := 68, constantValue := 0 }, { name := "value", type := .char, accessFlags := 18, slot := 0, constantValue := 0 }, { name := "serialVersionUID", type := .long, accessFlags := 26, slot := 69, constantValue := 0 }, { name := "SIZE", type := .int, accessFlags := 25, slot := 70, constantValue := 0 }, { name := "BYTES", type := .int, accessFlags := 25, slot := 71, constantValue := 0 }, { name := "$assertionsDisabled", type := .boolean, accessFlags := 4120, slot := 72, constantValue := 0 }]
  methods := #[k28m0, k28m1, k28m2, k28m3]
  instanceTypes := #[.char]
  staticTypes := #[.int, .int, .char, .char, (.object "java/lang/Class"), .byte, .byte, .byte, .byte, .byte, .byte, .byte, .byte, .byte, .byte, .byte, .byte, .byte, .byte, .byte, .byte, .byte, .byte, .byte, .byte, .byte, .byte, .byte, .byte, .byte, .byte, .byte, .byte, .byte, .byte, .int, .byte, .byte, .byte, .byte, .byte, .byte, .byte, .byte, .byte, .byte, .byte, .byte, .byte, .byte, .byte, .byte, .byte, .byte, .byte, .byte, .byte, .byte, .byte, .byte, .char, .char, .char, .char, .char, .char, .int, .int, .int, .long, .int, .int, .boolean]
  resolved := Array.replicate 604 none
  statics := none }

def pool29 : Array CpInfo := pool [(4, .class_ 6), (1, u "java/lang/Object"), (0, u "<init>"), (0, u "()V"), (5, .class_ 16), (1, u "java/lang/StringLatin1"), (104, u "$assertionsDisabled"), (0, u "Z"), (98, .class_ 223), (1, u "java/lang/StringLatin1$LinesSpliterator"), (166, .class_ 391), (0, u "java/lang/StringLatin1$CharsSpliterator")] 3

def k29m0 : Method := { name := "<init>", desc := "()V", sig := { parameters := [], returnType := none }, accessFlags := 0, code := none }
/-- java/lang/StringLatin1 -/
def k29 : Class := { plain "java/lang/StringLatin1" (some 0) with
  accessFlags := 48
  interfaces := #[]
  cf := some (fileOf pool29 14 #[.nestMembers #[390, 221]] #[{ accessFlags := 0, nameIndex := 7, descriptorIndex := 8, attributes := #[] }] 48 4 #[] #[{ accessFlags := 4120, nameIndex := 121, descriptorIndex := 122, attributes := #[] }])
  fields := #[{ name := "$assertionsDisabled", type := .boolean, accessFlags := 4120, slot := 0, constantValue := 0 }]
  methods := #[k29m0]
  instanceTypes := #[]
  staticTypes := #[.boolean]
  resolved := Array.replicate 395 none
  statics := none }

def pool30 : Array CpInfo := pool [(2, .class_ 4), (1, u "java/lang/Object"), (0, u "<init>"), (0, u "()V"), (17, .class_ 26), (1, u "jdk/internal/util/Preconditions"), (28, .class_ 56), (0, u "jdk/internal/util/Preconditions$4"), (57, .class_ 115), (0, u "jdk/internal/util/Preconditions$1"), (7, u "SIOOBE_FORMATTER"), (0, u "Ljava/util/function/BiFunction;"), (0, .class_ 126), (0, u "jdk/internal/util/Preconditions$2"), (3, u "AIOOBE_FORMATTER"), (0, .class_ 132), (0, u "jdk/internal/util/Preconditions$3"), (3, u "IOOBE_FORMATTER")] 57

def k30m0 : Method := { name := "<init>", desc := "()V", sig := { parameters := [], returnType := none }, accessFlags := 1, code := none }
/-- jdk/internal/util/Preconditions -/
def k30 : Class := { plain "jdk/internal/util/Preconditions" (some 0) with
  accessFlags := 33
  interfaces := #[]
  cf := some (fileOf pool30 24 #[.nestMembers #[55, 131, 125, 114]] #[{ accessFlags := 1, nameIndex := 5, descriptorIndex := 6, attributes := #[] }] 33 2 #[] #[{ accessFlags := 25, nameIndex := 123, descriptorIndex := 124, attributes := #[] }, { accessFlags := 25, nameIndex := 130, descriptorIndex := 124, attributes := #[] }, { accessFlags := 25, nameIndex := 136, descriptorIndex := 124, attributes := #[] }])
  fields := #[{ name := "SIOOBE_FORMATTER", type := (.object "java/util/function/BiFunction"), accessFlags := 25, slot := 0, constantValue := 0 }, { name := "AIOOBE_FORMATTER", type := (.object "java/util/function/BiFunction"), accessFlags := 25, slot := 1, constantValue := 0 }, { name := "IOOBE_FORMATTER", type := (.object "java/util/function/BiFunction"), accessFlags := 25, slot := 2, constantValue := 0 }]
  methods := #[k30m0]
  instanceTypes := #[]
  staticTypes := #[(.object "java/util/function/BiFunction"), (.object "java/util/function/BiFunction"), (.object "java/util/function/BiFunction")]
  resolved := Array.replicate 194 none
  statics := some 7 }

def pool31 : Array CpInfo := pool [(9, u "<init>"), (6, .class_ 18), (1, u "java/lang/Object"), (0, u "()V"), (1, .class_ 23), (1, u "jdk/internal/util/ArraysSupport"), (0, u "LOG2_ARRAY_LONG_INDEX_SCALE"), (0, u "I"), (2, u "U"), (0, u "Ljdk/internal/misc/Unsafe;"), (8, u "BIG_ENDIAN"), (0, u "Z"), (8, u "LOG2_BYTE_BIT_SIZE"), (4, u "LOG2_ARRAY_INT_INDEX_SCALE"), (54, u "JLA"), (0, u "Ljdk/internal/access/JavaLangAccess;"), (11, u "LOG2_ARRAY_BOOLEAN_INDEX_SCALE"), (9, u "LOG2_ARRAY_BYTE_INDEX_SCALE"), (5, u "LOG2_ARRAY_CHAR_INDEX_SCALE"), (5, u "LOG2_ARRAY_SHORT_INDEX_SCALE"), (18, u "LOG2_ARRAY_FLOAT_INDEX_SCALE"), (24, u "LOG2_ARRAY_DOUBLE_INDEX_SCALE"), (89, u "T_BOOLEAN"), (2, u "T_CHAR"), (1, u "T_FLOAT"), (1, u "T_DOUBLE"), (1, u "T_BYTE"), (1, u "T_SHORT"), (1, u "T_INT"), (1, u "T_LONG"), (1, u "SOFT_MAX_ARRAY_LENGTH")] 83

def k31m0 : Method := { name := "<init>", desc := "()V", sig := { parameters := [], returnType := none }, accessFlags := 2, code := none }
/-- jdk/internal/util/ArraysSupport -/
def k31 : Class := { plain "jdk/internal/util/ArraysSupport" (some 0) with
  accessFlags := 33
  interfaces := #[]
  cf := some (fileOf pool31 21 #[] #[{ accessFlags := 2, nameIndex := 9, descriptorIndex := 19, attributes := #[] }] 33 16 #[] #[{ accessFlags := 24, nameIndex := 28, descriptorIndex := 29, attributes := #[] }, { accessFlags := 26, nameIndex := 38, descriptorIndex := 39, attributes := #[] }, { accessFlags := 25, nameIndex := 121, descriptorIndex := 25, attributes := #[] }, { accessFlags := 25, nameIndex := 131, descriptorIndex := 25, attributes := #[] }, { accessFlags := 25, nameIndex := 137, descriptorIndex := 25, attributes := #[] }, { accessFlags := 25, nameIndex := 143, descriptorIndex := 25, attributes := #[] }, { accessFlags := 25, nameIndex := 53, descriptorIndex := 25, attributes := #[] }, { accessFlags := 25, nameIndex := 24, descriptorIndex := 25, attributes := #[] }, { accessFlags := 25, nameIndex := 162, descriptorIndex := 25, attributes := #[] }, { accessFlags := 25, nameIndex := 187, descriptorIndex := 25, attributes := #[] }, { accessFlags := 26, nameIndex := 48, descriptorIndex := 25, attributes := #[] }, { accessFlags := 25, nameIndex := 277, descriptorIndex := 25, attributes := #[] }, { accessFlags := 25, nameIndex := 280, descriptorIndex := 25, attributes := #[] }, { accessFlags := 25, nameIndex := 282, descriptorIndex := 25, attributes := #[] }, { accessFlags := 25, nameIndex := 284, descriptorIndex := 25, attributes := #[] }, { accessFlags := 25, nameIndex := 286, descriptorIndex := 25, attributes := #[] }, { accessFlags := 25, nameIndex := 288, descriptorIndex := 25, attributes := #[] }, { accessFlags := 25, nameIndex := 290, descriptorIndex := 25, attributes := #[] }, { accessFlags := 25, nameIndex := 292, descriptorIndex := 25, attributes := #[] }, { accessFlags := 26, nameIndex := 108, descriptorIndex := 109, attributes := #[] }, { accessFlags := 25, nameIndex := 294, descriptorIndex := 25, attributes := #[] }])
  fields := #[{ name := "U", type := (.object "jdk/internal/misc/Unsafe"), accessFlags := 24, slot := 0, constantValue := 0 }, { name := "BIG_ENDIAN", type := .boolean, accessFlags := 26, slot := 1, constantValue := 0 }, { name := "LOG2_ARRAY_BOOLEAN_INDEX_SCALE", type := .int, accessFlags := 25, slot := 2, constantValue := 0 }, { name := "LOG2_ARRAY_BYTE_INDEX_SCALE", type := .int, accessFlags := 25, slot := 3, constantValue := 0 }, { name := "LOG2_ARRAY_CHAR_INDEX_SCALE", type := .int, accessFlags := 25, slot := 4, constantValue := 0 }, { name := "LOG2_ARRAY_SHORT_INDEX_SCALE", type := .int, accessFlags := 25, slot := 5, constantValue := 0 }, { name := "LOG2_ARRAY_INT_INDEX_SCALE", type := .int, accessFlags := 25, slot := 6, constantValue := 0 }, { name := "LOG2_ARRAY_LONG_INDEX_SCALE", type := .int, accessFlags := 25, slot := 7, constantValue := 0 }, { name := "LOG2_ARRAY_FLOAT_INDEX_SCALE", type := .int, accessFlags := 25, slot := 8, constantValue := 0 }, { name := "LOG2_ARRAY_DOUBLE_INDEX_SCALE", type := .int, accessFlags := 25, slot := 9, constantValue := 0 }, { name := "LOG2_BYTE_BIT_SIZE", type := .int, accessFlags := 26, slot := 10, constantValue := 0 }, { name := "T_BOOLEAN", type := .int, accessFlags := 25, slot := 11, constantValue := 0 }, { name := "T_CHAR", type := .int, accessFlags := 25, slot := 12, constantValue := 0 }, { name := "T_FLOAT", type := .int, accessFlags := 25, slot := 13, constantValue := 0 }, { name := "T_DOUBLE", type := .int, accessFlags := 25, slot := 14, constantValue := 0 }, { name := "T_BYTE", type := .int, accessFlags := 25, slot := 15, constantValue := 0 }, { name := "T_SHORT", type := .int, accessFlags := 25, slot := 16, constantValue := 0 }, { name := "T_INT", type := .int, accessFlags := 25, slot := 17, constantValue := 0 }, { name := "T_LONG", type := .int, accessFlags := 25, slot := 18, constantValue := 0 }, { name := "JLA", type := (.object "jdk/internal/access/JavaLangAccess"), accessFlags := 26, slot := 19, constantValue := 0 }, { name := "SOFT_MAX_ARRAY_LENGTH", type := .int, accessFlags := 25, slot := 20, constantValue := 0 }]
  methods := #[k31m0]
  instanceTypes := #[]
  staticTypes := #[(.object "jdk/internal/misc/Unsafe"), .boolean, .int, .int, .int, .int, .int, .int, .int, .int, .int, .int, .int, .int, .int, .int, .int, .int, .int, (.object "jdk/internal/access/JavaLangAccess"), .int]
  resolved := Array.replicate 378 none
  statics := none }

/-- the primitive byte -/
def k32 : Class := { plain "byte" none with kind := .primitive 'B', accessFlags := 0x411 }
/-- [B -/
def k33 : Class := { plain "[B" (some 0) with kind := .array 32 .byte, interfaces := #[16, 2], accessFlags := 1041 }

/-- the primitive char -/
def k34 : Class := { plain "char" none with kind := .primitive 'C', accessFlags := 0x411 }
/-- [C -/
def k35 : Class := { plain "[C" (some 0) with kind := .array 34 .char, interfaces := #[16, 2], accessFlags := 1041 }

/-- the primitive int -/
def k36 : Class := { plain "int" none with kind := .primitive 'I', accessFlags := 0x411 }
/-- [I -/
def k37 : Class := { plain "[I" (some 0) with kind := .array 36 .int, interfaces := #[16, 2], accessFlags := 1041 }

def heap : Heap := #[{ cls := 7, slots := #[.long 0, .int 1, .null, .int 0, .null, .int 0, .int 0], vm := .statics 7 },
  { cls := 10, slots := #[.ref 11, .null, .ref 10, .null, .null, .null], vm := .statics 10 },
  { cls := 14, slots := #[.ref 10, .null], vm := .statics 14 },
  { cls := 21, slots := #[.int 0, .int 0, .null, .null, .ref 9, .ref 8, .int 0, .int 0, .long 0], vm := .statics 21 },
  { cls := 25, slots := #[.ref 12], vm := .statics 25 },
  { cls := 26, slots := #[.ref 11, .null], vm := .statics 26 },
  { cls := 27, slots := #[.int 0, .int 8, .int 0, .int 1], vm := .statics 27 },
  { cls := 30, slots := #[.null, .null, .null], vm := .statics 30 },
  { cls := 33, slots := #[.int 48, .int 49, .int 50, .int 51, .int 52, .int 53, .int 54, .int 55, .int 56, .int 57, .int 48, .int 49, .int 50, .int 51, .int 52, .int 53, .int 54, .int 55, .int 56, .int 57, .int 48, .int 49, .int 50, .int 51, .int 52, .int 53, .int 54, .int 55, .int 56, .int 57, .int 48, .int 49, .int 50, .int 51, .int 52, .int 53, .int 54, .int 55, .int 56, .int 57, .int 48, .int 49, .int 50, .int 51, .int 52, .int 53, .int 54, .int 55, .int 56, .int 57, .int 48, .int 49, .int 50, .int 51, .int 52, .int 53, .int 54, .int 55, .int 56, .int 57, .int 48, .int 49, .int 50, .int 51, .int 52, .int 53, .int 54, .int 55, .int 56, .int 57, .int 48, .int 49, .int 50, .int 51, .int 52, .int 53, .int 54, .int 55, .int 56, .int 57, .int 48, .int 49, .int 50, .int 51, .int 52, .int 53, .int 54, .int 55, .int 56, .int 57, .int 48, .int 49, .int 50, .int 51, .int 52, .int 53, .int 54, .int 55, .int 56, .int 57], vm := .none },
  { cls := 33, slots := #[.int 48, .int 48, .int 48, .int 48, .int 48, .int 48, .int 48, .int 48, .int 48, .int 48, .int 49, .int 49, .int 49, .int 49, .int 49, .int 49, .int 49, .int 49, .int 49, .int 49, .int 50, .int 50, .int 50, .int 50, .int 50, .int 50, .int 50, .int 50, .int 50, .int 50, .int 51, .int 51, .int 51, .int 51, .int 51, .int 51, .int 51, .int 51, .int 51, .int 51, .int 52, .int 52, .int 52, .int 52, .int 52, .int 52, .int 52, .int 52, .int 52, .int 52, .int 53, .int 53, .int 53, .int 53, .int 53, .int 53, .int 53, .int 53, .int 53, .int 53, .int 54, .int 54, .int 54, .int 54, .int 54, .int 54, .int 54, .int 54, .int 54, .int 54, .int 55, .int 55, .int 55, .int 55, .int 55, .int 55, .int 55, .int 55, .int 55, .int 55, .int 56, .int 56, .int 56, .int 56, .int 56, .int 56, .int 56, .int 56, .int 56, .int 56, .int 57, .int 57, .int 57, .int 57, .int 57, .int 57, .int 57, .int 57, .int 57, .int 57], vm := .none },
  { cls := 14, slots := #[.null, .null, .null], vm := .none },
  { cls := 26, slots := #[.null, .null, .null], vm := .none },
  { cls := 25, slots := #[.null, .null, .null], vm := .none }]
def classes : Array Class := #[k0, k1, k2, k3, k4, k5, k6, k7, k8, k9, k10, k11, k12, k13, k14, k15, k16, k17, k18, k19, k20, k21, k22, k23, k24, k25, k26, k27, k28, k29, k30, k31, k32, k33, k34, k35, k36, k37]
def interned : List (Array UInt16 × Addr) := []
def slotsUsed : Nat := 243
def theMethod : MethodId := ⟨1, 1⟩
def args0 : Array Value := #[.int 5, .long 1, .int 2, .int 3]
def aboutOver (below : List Frame) : State where
  vm := { classes := classes, interned := interned.toArray }
  heap := heap
  slotsUsed := slotsUsed
  threads := #[{ frames := .invoking theMethod args0 :: below }]
def below0 : List Frame := [.native { method := ⟨0, 0⟩, args := #[] }]
def about1 : State := aboutOver below0
def p0 : Program := .bare "" "" ""
def e0 : Env := launch0.env 0 0 0
theorem w_frames : about1.frames = Frame.invoking theMethod args0 :: below0 := rfl
set_option maxRecDepth 65536 in
theorem w_args : argsFit about1.vm theMethod args0 = true := by decide +kernel
set_option maxRecDepth 65536 in
theorem w_heap : heapFits about1 = true := by decide +kernel
set_option maxRecDepth 65536 in
theorem w_runnable : about1.curStatus? = some .runnable := by decide +kernel
set_option maxRecDepth 65536 in
theorem w_alone : about1.alone = true := by decide +kernel
set_option maxRecDepth 65536 in
theorem w_named : about1.methodNamed? x = some theMethod := by decide +kernel
set_option maxRecDepth 65536 in
theorem w_hears : about1.hears theMethod below0 = true := by decide +kernel
set_option maxRecDepth 65536 in
theorem w_ripe : about1.ripe theMethod args0 below0 = true := by decide +kernel
theorem w_running : about1.status = .running := rfl
set_option maxRecDepth 65536 in
theorem w_room : about1.hasRoom e0.platform room_1 = true :=
  launch0.hasRoom_least _ room_1 (by decide +kernel) (by decide +kernel) (by decide +kernel) (by decide +kernel) (by decide +kernel) (by decide +kernel)
theorem allAtoms_all (ts : List Jvm.Cond) (a : Array Jvm.Value) (st : Jvm.State) : (allAtoms ts).before a st = ts.all (fun c => c.before a st) := by
  induction ts with
  | nil => rfl
  | cons c t ih =>
    show (Jvm.Cond.and c (allAtoms t)).before a st = _
    rw [Jvm.Cond.before_and, ih, List.all_cons]
def words1 : List Jvm.Cond := Jvm.Cond.code x code maxLocals ret :: tables_1
/-- a 'code' word, met by the world's own term for the bytes: nothing is compared byte by byte -/
theorem code_word {y : MethodName} {bytes : ByteArray} {mx : Nat} {rt : Option FieldType} {a : Array Value} {s : State} {m : MethodId} {meth : Method} {c : Code} (h1 : s.methodNamed? y = some m) (h2 : s.vm.method? m = some meth) (h3 : meth.code = some c) (h4 : c.code = bytes)
    (h5 : (c.maxLocals == mx && c.exceptionTable.isEmpty && decide (c.maxStack ≤ mostOperands) && decide (meth.sig.returnType = rt) && !meth.locks && decide (parseMethodDescriptor y.desc = some meth.sig)) = true) : (Jvm.Cond.code y bytes mx rt).before a s = true := by
  simp only [Bool.and_eq_true, beq_iff_eq, Bool.not_eq_true', decide_eq_true_eq] at h5
  obtain ⟨⟨⟨⟨⟨g1, g2⟩, g3⟩, g4⟩, g5⟩, g6⟩ := h5
  simp [Cond.before, Cond.holds, Cond.value, h1, h2, h3, h4, g1, g2, g3, g4, g5, g6]
def isCode : Jvm.Cond → Bool
  | .code _ _ _ _ => true
  | _ => false
theorem all_split {L : List Jvm.Cond} {P : Jvm.Cond → Bool} (h1 : L.all (fun c => isCode c || P c) = true) (h2 : ∀ c ∈ L.filter isCode, P c = true) : L.all P = true := by
  refine List.all_eq_true.mpr fun c hc => ?_
  have h := List.all_eq_true.mp h1 c hc
  rcases Bool.eq_false_or_eq_true (isCode c) with hi | hi
  · exact h2 c (List.mem_filter.mpr ⟨hc, hi⟩)
  · simpa [hi] using h
set_option maxRecDepth 65536 in
theorem w_c0 : (Jvm.Cond.code x code maxLocals ret).before args0 about1 = true := code_word (m := ⟨1, 1⟩) (meth := k1m1) (c := k1c1) (by decide +kernel) rfl rfl rfl (by decide +kernel)
set_option maxRecDepth 65536 in
theorem w_c1 : (Jvm.Cond.code ({ cls := "com/example/reservation/reservation/server/TargetRequestPinLaw", name := "shape", desc := "(CI)C" } : Jvm.MethodName) method_3_code (3 : Nat) (Option.some Jvm.ClassFile.FieldType.char)).before args0 about1 = true := code_word (m := ⟨1, 2⟩) (meth := k1m2) (c := k1c2) (by decide +kernel) rfl rfl rfl (by decide +kernel)
set_option maxRecDepth 65536 in
theorem w_c2 : (Jvm.Cond.code ({ cls := "java/lang/String", name := "<init>", desc := "([C)V" } : Jvm.MethodName) jdk_42_method_3_code (2 : Nat) (Option.none : Option Jvm.ClassFile.FieldType)).before args0 about1 = true := code_word (m := ⟨7, 1⟩) (meth := k7m1) (c := k7c1) (by decide +kernel) rfl rfl rfl (by decide +kernel)
set_option maxRecDepth 65536 in
theorem w_c3 : (Jvm.Cond.code ({ cls := "java/lang/String", name := "<init>", desc := "([CIILjava/lang/Void;)V" } : Jvm.MethodName) jdk_42_method_149_code (6 : Nat) (Option.none : Option Jvm.ClassFile.FieldType)).before args0 about1 = true := code_word (m := ⟨7, 10⟩) (meth := k7m10) (c := k7c10) (by decide +kernel) rfl rfl rfl (by decide +kernel)
set_option maxRecDepth 65536 in
theorem w_c4 : (Jvm.Cond.code ({ cls := "java/lang/Object", name := "<init>", desc := "()V" } : Jvm.MethodName) object_method_1_code (1 : Nat) (Option.none : Option Jvm.ClassFile.FieldType)).before args0 about1 = true := code_word (m := ⟨0, 0⟩) (meth := k0m0) (c := k0c0) (by decide +kernel) rfl rfl rfl (by decide +kernel)
set_option maxRecDepth 65536 in
theorem w_c5 : (Jvm.Cond.code ({ cls := "com/example/reservation/reservation/server/CallbackConnection$Target", name := "<init>", desc := "(Ljava/lang/String;Ljava/lang/String;IZ[B)V" } : Jvm.MethodName) prog_65_method_1_code (6 : Nat) (Option.none : Option Jvm.ClassFile.FieldType)).before args0 about1 = true := code_word (m := ⟨9, 0⟩) (meth := k9m0) (c := k9c0) (by decide +kernel) rfl rfl rfl (by decide +kernel)
set_option maxRecDepth 65536 in
theorem w_c6 : (Jvm.Cond.code ({ cls := "java/lang/Record", name := "<init>", desc := "()V" } : Jvm.MethodName) jdk_30_method_1_code (1 : Nat) (Option.none : Option Jvm.ClassFile.FieldType)).before args0 about1 = true := code_word (m := ⟨8, 0⟩) (meth := k8m0) (c := k8c0) (by decide +kernel) rfl rfl rfl (by decide +kernel)
set_option maxRecDepth 65536 in
theorem w_c7 : (Jvm.Cond.code ({ cls := "com/example/reservation/reservation/server/CallbackConnection$Target", name := "request", desc := "(Ljava/lang/String;)[B" } : Jvm.MethodName) prog_65_method_3_code (5 : Nat) (Option.some (Jvm.ClassFile.FieldType.array Jvm.ClassFile.FieldType.byte))).before args0 about1 = true := code_word (m := ⟨9, 1⟩) (meth := k9m1) (c := k9c1) (by decide +kernel) rfl rfl rfl (by decide +kernel)
set_option maxRecDepth 65536 in
theorem w_c8 : (Jvm.Cond.code ({ cls := "java/lang/String", name := "getBytes", desc := "(Ljava/nio/charset/Charset;)[B" } : Jvm.MethodName) jdk_42_method_64_code (2 : Nat) (Option.some (Jvm.ClassFile.FieldType.array Jvm.ClassFile.FieldType.byte))).before args0 about1 = true := code_word (m := ⟨7, 8⟩) (meth := k7m8) (c := k7c8) (by decide +kernel) rfl rfl rfl (by decide +kernel)
set_option maxRecDepth 65536 in
theorem w_c9 : (Jvm.Cond.code ({ cls := "java/lang/String", name := "coder", desc := "()B" } : Jvm.MethodName) jdk_42_method_152_code (1 : Nat) (Option.some Jvm.ClassFile.FieldType.byte)).before args0 about1 = true := code_word (m := ⟨7, 12⟩) (meth := k7m12) (c := k7c12) (by decide +kernel) rfl rfl rfl (by decide +kernel)
set_option maxRecDepth 65536 in
theorem w_c10 : (Jvm.Cond.code ({ cls := "java/lang/String", name := "encode", desc := "(Ljava/nio/charset/Charset;B[B)[B" } : Jvm.MethodName) jdk_42_method_18_code (3 : Nat) (Option.some (Jvm.ClassFile.FieldType.array Jvm.ClassFile.FieldType.byte))).before args0 about1 = true := code_word (m := ⟨7, 2⟩) (meth := k7m2) (c := k7c2) (by decide +kernel) rfl rfl rfl (by decide +kernel)
set_option maxRecDepth 65536 in
theorem w_c11 : (Jvm.Cond.code ({ cls := "java/lang/String", name := "encodeUTF8", desc := "(B[BZ)[B" } : Jvm.MethodName) jdk_42_method_46_code (9 : Nat) (Option.some (Jvm.ClassFile.FieldType.array Jvm.ClassFile.FieldType.byte))).before args0 about1 = true := code_word (m := ⟨7, 4⟩) (meth := k7m4) (c := k7c4) (by decide +kernel) rfl rfl rfl (by decide +kernel)
set_option maxRecDepth 65536 in
theorem w_c12 : (Jvm.Cond.code ({ cls := "java/lang/StringCoding", name := "hasNegatives", desc := "([BII)Z" } : Jvm.MethodName) jdk_123_method_2_code (3 : Nat) (Option.some Jvm.ClassFile.FieldType.boolean)).before args0 about1 = true := code_word (m := ⟨15, 1⟩) (meth := k15m1) (c := k15c1) (by decide +kernel) rfl rfl rfl (by decide +kernel)
set_option maxRecDepth 65536 in
theorem w_c13 : (Jvm.Cond.code ({ cls := "java/lang/StringCoding", name := "countPositives", desc := "([BII)I" } : Jvm.MethodName) jdk_123_method_3_code (5 : Nat) (Option.some Jvm.ClassFile.FieldType.int)).before args0 about1 = true := code_word (m := ⟨15, 2⟩) (meth := k15m2) (c := k15c2) (by decide +kernel) rfl rfl rfl (by decide +kernel)
set_option maxRecDepth 65536 in
theorem w_c14 : (Jvm.Cond.code ({ cls := "java/lang/StringBuilder", name := "<init>", desc := "()V" } : Jvm.MethodName) jdk_67_method_1_code (1 : Nat) (Option.none : Option Jvm.ClassFile.FieldType)).before args0 about1 = true := code_word (m := ⟨19, 0⟩) (meth := k19m0) (c := k19c0) (by decide +kernel) rfl rfl rfl (by decide +kernel)
set_option maxRecDepth 65536 in
theorem w_c15 : (Jvm.Cond.code ({ cls := "java/lang/AbstractStringBuilder", name := "<init>", desc := "(I)V" } : Jvm.MethodName) jdk_68_method_2_code (2 : Nat) (Option.none : Option Jvm.ClassFile.FieldType)).before args0 about1 = true := code_word (m := ⟨18, 1⟩) (meth := k18m1) (c := k18c1) (by decide +kernel) rfl rfl rfl (by decide +kernel)
set_option maxRecDepth 65536 in
theorem w_c16 : (Jvm.Cond.code ({ cls := "java/lang/StringBuilder", name := "append", desc := "(I)Ljava/lang/StringBuilder;" } : Jvm.MethodName) jdk_67_method_15_code (2 : Nat) (Option.some (Jvm.ClassFile.FieldType.object "java/lang/StringBuilder"))).before args0 about1 = true := code_word (m := ⟨19, 2⟩) (meth := k19m2) (c := k19c2) (by decide +kernel) rfl rfl rfl (by decide +kernel)
set_option maxRecDepth 65536 in
theorem w_c17 : (Jvm.Cond.code ({ cls := "java/lang/AbstractStringBuilder", name := "append", desc := "(I)Ljava/lang/AbstractStringBuilder;" } : Jvm.MethodName) jdk_68_method_32_code (4 : Nat) (Option.some (Jvm.ClassFile.FieldType.object "java/lang/AbstractStringBuilder"))).before args0 about1 = true := code_word (m := ⟨18, 5⟩) (meth := k18m5) (c := k18c5) (by decide +kernel) rfl rfl rfl (by decide +kernel)
set_option maxRecDepth 65536 in
theorem w_c18 : (Jvm.Cond.code ({ cls := "java/lang/Integer", name := "stringSize", desc := "(I)I" } : Jvm.MethodName) jdk_33_method_13_code (4 : Nat) (Option.some Jvm.ClassFile.FieldType.int)).before args0 about1 = true := code_word (m := ⟨21, 1⟩) (meth := k21m1) (c := k21c1) (by decide +kernel) rfl rfl rfl (by decide +kernel)
set_option maxRecDepth 65536 in
theorem w_c19 : (Jvm.Cond.code ({ cls := "java/lang/AbstractStringBuilder", name := "ensureCapacityInternal", desc := "(I)V" } : Jvm.MethodName) jdk_68_method_9_code (3 : Nat) (Option.none : Option Jvm.ClassFile.FieldType)).before args0 about1 = true := code_word (m := ⟨18, 3⟩) (meth := k18m3) (c := k18c3) (by decide +kernel) rfl rfl rfl (by decide +kernel)
set_option maxRecDepth 65536 in
theorem w_c20 : (Jvm.Cond.code ({ cls := "java/lang/AbstractStringBuilder", name := "isLatin1", desc := "()Z" } : Jvm.MethodName) jdk_68_method_68_code (1 : Nat) (Option.some Jvm.ClassFile.FieldType.boolean)).before args0 about1 = true := code_word (m := ⟨18, 7⟩) (meth := k18m7) (c := k18c7) (by decide +kernel) rfl rfl rfl (by decide +kernel)
set_option maxRecDepth 65536 in
theorem w_c21 : (Jvm.Cond.code ({ cls := "java/lang/Integer", name := "getChars", desc := "(II[B)I" } : Jvm.MethodName) jdk_33_method_12_code (7 : Nat) (Option.some Jvm.ClassFile.FieldType.int)).before args0 about1 = true := code_word (m := ⟨21, 0⟩) (meth := k21m0) (c := k21c0) (by decide +kernel) rfl rfl rfl (by decide +kernel)
set_option maxRecDepth 65536 in
theorem w_c22 : (Jvm.Cond.code ({ cls := "java/lang/StringBuilder", name := "append", desc := "(Ljava/lang/String;)Ljava/lang/StringBuilder;" } : Jvm.MethodName) jdk_67_method_7_code (2 : Nat) (Option.some (Jvm.ClassFile.FieldType.object "java/lang/StringBuilder"))).before args0 about1 = true := code_word (m := ⟨19, 1⟩) (meth := k19m1) (c := k19c1) (by decide +kernel) rfl rfl rfl (by decide +kernel)
set_option maxRecDepth 65536 in
theorem w_c23 : (Jvm.Cond.code ({ cls := "java/lang/AbstractStringBuilder", name := "append", desc := "(Ljava/lang/String;)Ljava/lang/AbstractStringBuilder;" } : Jvm.MethodName) jdk_68_method_22_code (3 : Nat) (Option.some (Jvm.ClassFile.FieldType.object "java/lang/AbstractStringBuilder"))).before args0 about1 = true := code_word (m := ⟨18, 4⟩) (meth := k18m4) (c := k18c4) (by decide +kernel) rfl rfl rfl (by decide +kernel)
set_option maxRecDepth 65536 in
theorem w_c24 : (Jvm.Cond.code ({ cls := "java/lang/String", name := "length", desc := "()I" } : Jvm.MethodName) jdk_42_method_54_code (1 : Nat) (Option.some Jvm.ClassFile.FieldType.int)).before args0 about1 = true := code_word (m := ⟨7, 7⟩) (meth := k7m7) (c := k7c7) (by decide +kernel) rfl rfl rfl (by decide +kernel)
set_option maxRecDepth 65536 in
theorem w_c25 : (Jvm.Cond.code ({ cls := "java/lang/AbstractStringBuilder", name := "putStringAt", desc := "(ILjava/lang/String;)V" } : Jvm.MethodName) jdk_68_method_73_code (3 : Nat) (Option.none : Option Jvm.ClassFile.FieldType)).before args0 about1 = true := code_word (m := ⟨18, 9⟩) (meth := k18m9) (c := k18c9) (by decide +kernel) rfl rfl rfl (by decide +kernel)
set_option maxRecDepth 65536 in
theorem w_c26 : (Jvm.Cond.code ({ cls := "java/lang/AbstractStringBuilder", name := "inflateIfNeededFor", desc := "(Ljava/lang/String;)V" } : Jvm.MethodName) jdk_68_method_71_code (2 : Nat) (Option.none : Option Jvm.ClassFile.FieldType)).before args0 about1 = true := code_word (m := ⟨18, 8⟩) (meth := k18m8) (c := k18c8) (by decide +kernel) rfl rfl rfl (by decide +kernel)
set_option maxRecDepth 65536 in
theorem w_c27 : (Jvm.Cond.code ({ cls := "java/lang/String", name := "getBytes", desc := "([BIB)V" } : Jvm.MethodName) jdk_42_method_147_code (4 : Nat) (Option.none : Option Jvm.ClassFile.FieldType)).before args0 about1 = true := code_word (m := ⟨7, 9⟩) (meth := k7m9) (c := k7c9) (by decide +kernel) rfl rfl rfl (by decide +kernel)
set_option maxRecDepth 65536 in
theorem w_c28 : (Jvm.Cond.code ({ cls := "java/lang/StringBuilder", name := "toString", desc := "()Ljava/lang/String;" } : Jvm.MethodName) jdk_67_method_42_code (1 : Nat) (Option.some (Jvm.ClassFile.FieldType.object "java/lang/String"))).before args0 about1 = true := code_word (m := ⟨19, 3⟩) (meth := k19m3) (c := k19c3) (by decide +kernel) rfl rfl rfl (by decide +kernel)
set_option maxRecDepth 65536 in
theorem w_c29 : (Jvm.Cond.code ({ cls := "java/lang/String", name := "<init>", desc := "(Ljava/lang/StringBuilder;)V" } : Jvm.MethodName) jdk_42_method_53_code (2 : Nat) (Option.none : Option Jvm.ClassFile.FieldType)).before args0 about1 = true := code_word (m := ⟨7, 6⟩) (meth := k7m6) (c := k7c6) (by decide +kernel) rfl rfl rfl (by decide +kernel)
set_option maxRecDepth 65536 in
theorem w_c30 : (Jvm.Cond.code ({ cls := "java/lang/String", name := "<init>", desc := "(Ljava/lang/AbstractStringBuilder;Ljava/lang/Void;)V" } : Jvm.MethodName) jdk_42_method_150_code (5 : Nat) (Option.none : Option Jvm.ClassFile.FieldType)).before args0 about1 = true := code_word (m := ⟨7, 11⟩) (meth := k7m11) (c := k7c11) (by decide +kernel) rfl rfl rfl (by decide +kernel)
set_option maxRecDepth 65536 in
theorem w_c31 : (Jvm.Cond.code ({ cls := "java/lang/AbstractStringBuilder", name := "getValue", desc := "()[B" } : Jvm.MethodName) jdk_68_method_64_code (1 : Nat) (Option.some (Jvm.ClassFile.FieldType.array Jvm.ClassFile.FieldType.byte))).before args0 about1 = true := code_word (m := ⟨18, 6⟩) (meth := k18m6) (c := k18c6) (by decide +kernel) rfl rfl rfl (by decide +kernel)
set_option maxRecDepth 65536 in
theorem w_c32 : (Jvm.Cond.code ({ cls := "java/lang/StringBuilder", name := "length", desc := "()I" } : Jvm.MethodName) jdk_67_method_93_code (1 : Nat) (Option.some Jvm.ClassFile.FieldType.int)).before args0 about1 = true := code_word (m := ⟨19, 4⟩) (meth := k19m4) (c := k19c4) (by decide +kernel) rfl rfl rfl (by decide +kernel)
set_option maxRecDepth 65536 in
theorem w_c33 : (Jvm.Cond.code ({ cls := "java/lang/AbstractStringBuilder", name := "length", desc := "()I" } : Jvm.MethodName) jdk_68_method_6_code (1 : Nat) (Option.some Jvm.ClassFile.FieldType.int)).before args0 about1 = true := code_word (m := ⟨18, 2⟩) (meth := k18m2) (c := k18c2) (by decide +kernel) rfl rfl rfl (by decide +kernel)
set_option maxRecDepth 65536 in
theorem w_c34 : (Jvm.Cond.code ({ cls := "java/util/Arrays", name := "copyOfRange", desc := "([BII)[B" } : Jvm.MethodName) jdk_65_method_132_code (3 : Nat) (Option.some (Jvm.ClassFile.FieldType.array Jvm.ClassFile.FieldType.byte))).before args0 about1 = true := code_word (m := ⟨23, 3⟩) (meth := k23m3) (c := k23c3) (by decide +kernel) rfl rfl rfl (by decide +kernel)
set_option maxRecDepth 65536 in
theorem w_c35 : (Jvm.Cond.code ({ cls := "java/util/Arrays", name := "copyOfRangeByte", desc := "([BII)[B" } : Jvm.MethodName) jdk_65_method_133_code (5 : Nat) (Option.some (Jvm.ClassFile.FieldType.array Jvm.ClassFile.FieldType.byte))).before args0 about1 = true := code_word (m := ⟨23, 4⟩) (meth := k23m4) (c := k23c4) (by decide +kernel) rfl rfl rfl (by decide +kernel)
set_option maxRecDepth 65536 in
theorem w_c36 : (Jvm.Cond.code ({ cls := "java/util/Arrays", name := "checkLength", desc := "(II)V" } : Jvm.MethodName) jdk_65_method_131_code (2 : Nat) (Option.none : Option Jvm.ClassFile.FieldType)).before args0 about1 = true := code_word (m := ⟨23, 2⟩) (meth := k23m2) (c := k23c2) (by decide +kernel) rfl rfl rfl (by decide +kernel)
set_option maxRecDepth 65536 in
theorem w_c37 : (Jvm.Cond.code ({ cls := "java/lang/Math", name := "min", desc := "(II)I" } : Jvm.MethodName) jdk_29_method_69_code (2 : Nat) (Option.some Jvm.ClassFile.FieldType.int)).before args0 about1 = true := code_word (m := ⟨24, 1⟩) (meth := k24m1) (c := k24c1) (by decide +kernel) rfl rfl rfl (by decide +kernel)
set_option maxRecDepth 65536 in
theorem w_c38 : (Jvm.Cond.code ({ cls := "java/lang/String", name := "encodeASCII", desc := "(B[B)[B" } : Jvm.MethodName) jdk_42_method_24_code (7 : Nat) (Option.some (Jvm.ClassFile.FieldType.array Jvm.ClassFile.FieldType.byte))).before args0 about1 = true := code_word (m := ⟨7, 3⟩) (meth := k7m3) (c := k7c3) (by decide +kernel) rfl rfl rfl (by decide +kernel)
set_option maxRecDepth 65536 in
theorem w_c39 : (Jvm.Cond.code ({ cls := "com/example/reservation/reservation/server/TargetRequestPinLaw", name := "same", desc := "([BI[BI[BI[BI)Z" } : Jvm.MethodName) method_7_code (9 : Nat) (Option.some Jvm.ClassFile.FieldType.boolean)).before args0 about1 = true := code_word (m := ⟨1, 6⟩) (meth := k1m6) (c := k1c6) (by decide +kernel) rfl rfl rfl (by decide +kernel)
set_option maxRecDepth 65536 in
theorem w_c40 : (Jvm.Cond.code ({ cls := "com/example/reservation/reservation/server/TargetRequestPinLaw", name := "ex", desc := "([BI[BI[BII)I" } : Jvm.MethodName) method_6_code (8 : Nat) (Option.some Jvm.ClassFile.FieldType.int)).before args0 about1 = true := code_word (m := ⟨1, 5⟩) (meth := k1m5) (c := k1c5) (by decide +kernel) rfl rfl rfl (by decide +kernel)
set_option maxRecDepth 65536 in
theorem w_c41 : (Jvm.Cond.code ({ cls := "java/lang/StringUTF16", name := "compress", desc := "([CII)[B" } : Jvm.MethodName) jdk_52_method_16_code (6 : Nat) (Option.some (Jvm.ClassFile.FieldType.array Jvm.ClassFile.FieldType.byte))).before args0 about1 = true := code_word (m := ⟨27, 7⟩) (meth := k27m7) (c := k27c7) (by decide +kernel) rfl rfl rfl (by decide +kernel)
set_option maxRecDepth 65536 in
theorem w_c42 : (Jvm.Cond.code ({ cls := "java/lang/StringUTF16", name := "compress", desc := "([CI[BII)I" } : Jvm.MethodName) jdk_52_method_21_code (7 : Nat) (Option.some Jvm.ClassFile.FieldType.int)).before args0 about1 = true := code_word (m := ⟨27, 8⟩) (meth := k27m8) (c := k27c8) (by decide +kernel) rfl rfl rfl (by decide +kernel)
set_option maxRecDepth 65536 in
theorem w_c43 : (Jvm.Cond.code ({ cls := "java/lang/StringUTF16", name := "toBytes", desc := "([CII)[B" } : Jvm.MethodName) jdk_52_method_14_code (5 : Nat) (Option.some (Jvm.ClassFile.FieldType.array Jvm.ClassFile.FieldType.byte))).before args0 about1 = true := code_word (m := ⟨27, 5⟩) (meth := k27m5) (c := k27c5) (by decide +kernel) rfl rfl rfl (by decide +kernel)
set_option maxRecDepth 65536 in
theorem w_c44 : (Jvm.Cond.code ({ cls := "java/lang/StringUTF16", name := "newBytesFor", desc := "(I)[B" } : Jvm.MethodName) jdk_52_method_2_code (1 : Nat) (Option.some (Jvm.ClassFile.FieldType.array Jvm.ClassFile.FieldType.byte))).before args0 about1 = true := code_word (m := ⟨27, 1⟩) (meth := k27m1) (c := k27c1) (by decide +kernel) rfl rfl rfl (by decide +kernel)
set_option maxRecDepth 65536 in
theorem w_c45 : (Jvm.Cond.code ({ cls := "java/lang/StringUTF16", name := "newBytesLength", desc := "(I)I" } : Jvm.MethodName) jdk_52_method_3_code (1 : Nat) (Option.some Jvm.ClassFile.FieldType.int)).before args0 about1 = true := code_word (m := ⟨27, 2⟩) (meth := k27m2) (c := k27c2) (by decide +kernel) rfl rfl rfl (by decide +kernel)
set_option maxRecDepth 65536 in
theorem w_c46 : (Jvm.Cond.code ({ cls := "java/lang/StringUTF16", name := "putChar", desc := "([BII)V" } : Jvm.MethodName) jdk_52_method_4_code (3 : Nat) (Option.none : Option Jvm.ClassFile.FieldType)).before args0 about1 = true := code_word (m := ⟨27, 3⟩) (meth := k27m3) (c := k27c3) (by decide +kernel) rfl rfl rfl (by decide +kernel)
set_option maxRecDepth 65536 in
theorem w_c47 : (Jvm.Cond.code ({ cls := "java/lang/StringUTF16", name := "getChar", desc := "([BI)C" } : Jvm.MethodName) jdk_52_method_5_code (2 : Nat) (Option.some Jvm.ClassFile.FieldType.char)).before args0 about1 = true := code_word (m := ⟨27, 4⟩) (meth := k27m4) (c := k27c4) (by decide +kernel) rfl rfl rfl (by decide +kernel)
set_option maxRecDepth 65536 in
theorem w_c48 : (Jvm.Cond.code ({ cls := "java/lang/StringUTF16", name := "coderFromArrayLen", desc := "([BI)B" } : Jvm.MethodName) jdk_52_method_15_code (2 : Nat) (Option.some Jvm.ClassFile.FieldType.byte)).before args0 about1 = true := code_word (m := ⟨27, 6⟩) (meth := k27m6) (c := k27c6) (by decide +kernel) rfl rfl rfl (by decide +kernel)
set_option maxRecDepth 65536 in
theorem w_c49 : (Jvm.Cond.code ({ cls := "java/lang/String", name := "encodeUTF8_UTF16", desc := "([BZ)[B" } : Jvm.MethodName) jdk_42_method_47_code (9 : Nat) (Option.some (Jvm.ClassFile.FieldType.array Jvm.ClassFile.FieldType.byte))).before args0 about1 = true := code_word (m := ⟨7, 5⟩) (meth := k7m5) (c := k7c5) (by decide +kernel) rfl rfl rfl (by decide +kernel)
set_option maxRecDepth 65536 in
theorem w_c50 : (Jvm.Cond.code ({ cls := "java/lang/Character", name := "isSurrogate", desc := "(C)Z" } : Jvm.MethodName) jdk_89_method_16_code (1 : Nat) (Option.some Jvm.ClassFile.FieldType.boolean)).before args0 about1 = true := code_word (m := ⟨28, 2⟩) (meth := k28m2) (c := k28c2) (by decide +kernel) rfl rfl rfl (by decide +kernel)
set_option maxRecDepth 65536 in
theorem w_c51 : (Jvm.Cond.code ({ cls := "java/lang/Character", name := "isHighSurrogate", desc := "(C)Z" } : Jvm.MethodName) jdk_89_method_14_code (1 : Nat) (Option.some Jvm.ClassFile.FieldType.boolean)).before args0 about1 = true := code_word (m := ⟨28, 0⟩) (meth := k28m0) (c := k28c0) (by decide +kernel) rfl rfl rfl (by decide +kernel)
set_option maxRecDepth 65536 in
theorem w_c52 : (Jvm.Cond.code ({ cls := "java/lang/Character", name := "isLowSurrogate", desc := "(C)Z" } : Jvm.MethodName) jdk_89_method_15_code (1 : Nat) (Option.some Jvm.ClassFile.FieldType.boolean)).before args0 about1 = true := code_word (m := ⟨28, 1⟩) (meth := k28m1) (c := k28c1) (by decide +kernel) rfl rfl rfl (by decide +kernel)
set_option maxRecDepth 65536 in
theorem w_c53 : (Jvm.Cond.code ({ cls := "java/util/Arrays", name := "copyOf", desc := "([BI)[B" } : Jvm.MethodName) jdk_65_method_121_code (3 : Nat) (Option.some (Jvm.ClassFile.FieldType.array Jvm.ClassFile.FieldType.byte))).before args0 about1 = true := code_word (m := ⟨23, 1⟩) (meth := k23m1) (c := k23c1) (by decide +kernel) rfl rfl rfl (by decide +kernel)
set_option maxRecDepth 65536 in
theorem w_c54 : (Jvm.Cond.code ({ cls := "com/example/reservation/reservation/server/TargetRequestPinLaw", name := "cpAt", desc := "([CII)I" } : Jvm.MethodName) method_4_code (5 : Nat) (Option.some Jvm.ClassFile.FieldType.int)).before args0 about1 = true := code_word (m := ⟨1, 3⟩) (meth := k1m3) (c := k1c3) (by decide +kernel) rfl rfl rfl (by decide +kernel)
set_option maxRecDepth 65536 in
theorem w_c55 : (Jvm.Cond.code ({ cls := "com/example/reservation/reservation/server/TargetRequestPinLaw", name := "put", desc := "([BII)I" } : Jvm.MethodName) method_5_code (3 : Nat) (Option.some Jvm.ClassFile.FieldType.int)).before args0 about1 = true := code_word (m := ⟨1, 4⟩) (meth := k1m4) (c := k1c4) (by decide +kernel) rfl rfl rfl (by decide +kernel)
set_option maxRecDepth 65536 in
theorem w_c56 : (Jvm.Cond.code ({ cls := "java/lang/Character", name := "toCodePoint", desc := "(CC)I" } : Jvm.MethodName) jdk_89_method_19_code (2 : Nat) (Option.some Jvm.ClassFile.FieldType.int)).before args0 about1 = true := code_word (m := ⟨28, 3⟩) (meth := k28m3) (c := k28c3) (by decide +kernel) rfl rfl rfl (by decide +kernel)
def codes1 : List Jvm.Cond := [Jvm.Cond.code x code maxLocals ret, Jvm.Cond.code ({ cls := "com/example/reservation/reservation/server/TargetRequestPinLaw", name := "shape", desc := "(CI)C" } : Jvm.MethodName) method_3_code (3 : Nat) (Option.some Jvm.ClassFile.FieldType.char), Jvm.Cond.code ({ cls := "java/lang/String", name := "<init>", desc := "([C)V" } : Jvm.MethodName) jdk_42_method_3_code (2 : Nat) (Option.none : Option Jvm.ClassFile.FieldType), Jvm.Cond.code ({ cls := "java/lang/String", name := "<init>", desc := "([CIILjava/lang/Void;)V" } : Jvm.MethodName) jdk_42_method_149_code (6 : Nat) (Option.none : Option Jvm.ClassFile.FieldType), Jvm.Cond.code ({ cls := "java/lang/Object", name := "<init>", desc := "()V" } : Jvm.MethodName) object_method_1_code (1 : Nat) (Option.none : Option Jvm.ClassFile.FieldType), Jvm.Cond.code ({ cls := "com/example/reservation/reservation/server/CallbackConnection$Target", name := "<init>", desc := "(Ljava/lang/String;Ljava/lang/String;IZ[B)V" } : Jvm.MethodName) prog_65_method_1_code (6 : Nat) (Option.none : Option Jvm.ClassFile.FieldType), Jvm.Cond.code ({ cls := "java/lang/Record", name := "<init>", desc := "()V" } : Jvm.MethodName) jdk_30_method_1_code (1 : Nat) (Option.none : Option Jvm.ClassFile.FieldType), Jvm.Cond.code ({ cls := "com/example/reservation/reservation/server/CallbackConnection$Target", name := "request", desc := "(Ljava/lang/String;)[B" } : Jvm.MethodName) prog_65_method_3_code (5 : Nat) (Option.some (Jvm.ClassFile.FieldType.array Jvm.ClassFile.FieldType.byte)), Jvm.Cond.code ({ cls := "java/lang/String", name := "getBytes", desc := "(Ljava/nio/charset/Charset;)[B" } : Jvm.MethodName) jdk_42_method_64_code (2 : Nat) (Option.some (Jvm.ClassFile.FieldType.array Jvm.ClassFile.FieldType.byte)), Jvm.Cond.code ({ cls := "java/lang/String", name := "coder", desc := "()B" } : Jvm.MethodName) jdk_42_method_152_code (1 : Nat) (Option.some Jvm.ClassFile.FieldType.byte), Jvm.Cond.code ({ cls := "java/lang/String", name := "encode", desc := "(Ljava/nio/charset/Charset;B[B)[B" } : Jvm.MethodName) jdk_42_method_18_code (3 : Nat) (Option.some (Jvm.ClassFile.FieldType.array Jvm.ClassFile.FieldType.byte)), Jvm.Cond.code ({ cls := "java/lang/String", name := "encodeUTF8", desc := "(B[BZ)[B" } : Jvm.MethodName) jdk_42_method_46_code (9 : Nat) (Option.some (Jvm.ClassFile.FieldType.array Jvm.ClassFile.FieldType.byte)), Jvm.Cond.code ({ cls := "java/lang/StringCoding", name := "hasNegatives", desc := "([BII)Z" } : Jvm.MethodName) jdk_123_method_2_code (3 : Nat) (Option.some Jvm.ClassFile.FieldType.boolean), Jvm.Cond.code ({ cls := "java/lang/StringCoding", name := "countPositives", desc := "([BII)I" } : Jvm.MethodName) jdk_123_method_3_code (5 : Nat) (Option.some Jvm.ClassFile.FieldType.int), Jvm.Cond.code ({ cls := "java/lang/StringBuilder", name := "<init>", desc := "()V" } : Jvm.MethodName) jdk_67_method_1_code (1 : Nat) (Option.none : Option Jvm.ClassFile.FieldType), Jvm.Cond.code ({ cls := "java/lang/AbstractStringBuilder", name := "<init>", desc := "(I)V" } : Jvm.MethodName) jdk_68_method_2_code (2 : Nat) (Option.none : Option Jvm.ClassFile.FieldType), Jvm.Cond.code ({ cls := "java/lang/StringBuilder", name := "append", desc := "(I)Ljava/lang/StringBuilder;" } : Jvm.MethodName) jdk_67_method_15_code (2 : Nat) (Option.some (Jvm.ClassFile.FieldType.object "java/lang/StringBuilder")), Jvm.Cond.code ({ cls := "java/lang/AbstractStringBuilder", name := "append", desc := "(I)Ljava/lang/AbstractStringBuilder;" } : Jvm.MethodName) jdk_68_method_32_code (4 : Nat) (Option.some (Jvm.ClassFile.FieldType.object "java/lang/AbstractStringBuilder")), Jvm.Cond.code ({ cls := "java/lang/Integer", name := "stringSize", desc := "(I)I" } : Jvm.MethodName) jdk_33_method_13_code (4 : Nat) (Option.some Jvm.ClassFile.FieldType.int), Jvm.Cond.code ({ cls := "java/lang/AbstractStringBuilder", name := "ensureCapacityInternal", desc := "(I)V" } : Jvm.MethodName) jdk_68_method_9_code (3 : Nat) (Option.none : Option Jvm.ClassFile.FieldType), Jvm.Cond.code ({ cls := "java/lang/AbstractStringBuilder", name := "isLatin1", desc := "()Z" } : Jvm.MethodName) jdk_68_method_68_code (1 : Nat) (Option.some Jvm.ClassFile.FieldType.boolean), Jvm.Cond.code ({ cls := "java/lang/Integer", name := "getChars", desc := "(II[B)I" } : Jvm.MethodName) jdk_33_method_12_code (7 : Nat) (Option.some Jvm.ClassFile.FieldType.int), Jvm.Cond.code ({ cls := "java/lang/StringBuilder", name := "append", desc := "(Ljava/lang/String;)Ljava/lang/StringBuilder;" } : Jvm.MethodName) jdk_67_method_7_code (2 : Nat) (Option.some (Jvm.ClassFile.FieldType.object "java/lang/StringBuilder")), Jvm.Cond.code ({ cls := "java/lang/AbstractStringBuilder", name := "append", desc := "(Ljava/lang/String;)Ljava/lang/AbstractStringBuilder;" } : Jvm.MethodName) jdk_68_method_22_code (3 : Nat) (Option.some (Jvm.ClassFile.FieldType.object "java/lang/AbstractStringBuilder")), Jvm.Cond.code ({ cls := "java/lang/String", name := "length", desc := "()I" } : Jvm.MethodName) jdk_42_method_54_code (1 : Nat) (Option.some Jvm.ClassFile.FieldType.int), Jvm.Cond.code ({ cls := "java/lang/AbstractStringBuilder", name := "putStringAt", desc := "(ILjava/lang/String;)V" } : Jvm.MethodName) jdk_68_method_73_code (3 : Nat) (Option.none : Option Jvm.ClassFile.FieldType), Jvm.Cond.code ({ cls := "java/lang/AbstractStringBuilder", name := "inflateIfNeededFor", desc := "(Ljava/lang/String;)V" } : Jvm.MethodName) jdk_68_method_71_code (2 : Nat) (Option.none : Option Jvm.ClassFile.FieldType), Jvm.Cond.code ({ cls := "java/lang/String", name := "getBytes", desc := "([BIB)V" } : Jvm.MethodName) jdk_42_method_147_code (4 : Nat) (Option.none : Option Jvm.ClassFile.FieldType), Jvm.Cond.code ({ cls := "java/lang/StringBuilder", name := "toString", desc := "()Ljava/lang/String;" } : Jvm.MethodName) jdk_67_method_42_code (1 : Nat) (Option.some (Jvm.ClassFile.FieldType.object "java/lang/String")), Jvm.Cond.code ({ cls := "java/lang/String", name := "<init>", desc := "(Ljava/lang/StringBuilder;)V" } : Jvm.MethodName) jdk_42_method_53_code (2 : Nat) (Option.none : Option Jvm.ClassFile.FieldType), Jvm.Cond.code ({ cls := "java/lang/String", name := "<init>", desc := "(Ljava/lang/AbstractStringBuilder;Ljava/lang/Void;)V" } : Jvm.MethodName) jdk_42_method_150_code (5 : Nat) (Option.none : Option Jvm.ClassFile.FieldType), Jvm.Cond.code ({ cls := "java/lang/AbstractStringBuilder", name := "getValue", desc := "()[B" } : Jvm.MethodName) jdk_68_method_64_code (1 : Nat) (Option.some (Jvm.ClassFile.FieldType.array Jvm.ClassFile.FieldType.byte)), Jvm.Cond.code ({ cls := "java/lang/StringBuilder", name := "length", desc := "()I" } : Jvm.MethodName) jdk_67_method_93_code (1 : Nat) (Option.some Jvm.ClassFile.FieldType.int), Jvm.Cond.code ({ cls := "java/lang/AbstractStringBuilder", name := "length", desc := "()I" } : Jvm.MethodName) jdk_68_method_6_code (1 : Nat) (Option.some Jvm.ClassFile.FieldType.int), Jvm.Cond.code ({ cls := "java/util/Arrays", name := "copyOfRange", desc := "([BII)[B" } : Jvm.MethodName) jdk_65_method_132_code (3 : Nat) (Option.some (Jvm.ClassFile.FieldType.array Jvm.ClassFile.FieldType.byte)), Jvm.Cond.code ({ cls := "java/util/Arrays", name := "copyOfRangeByte", desc := "([BII)[B" } : Jvm.MethodName) jdk_65_method_133_code (5 : Nat) (Option.some (Jvm.ClassFile.FieldType.array Jvm.ClassFile.FieldType.byte)), Jvm.Cond.code ({ cls := "java/util/Arrays", name := "checkLength", desc := "(II)V" } : Jvm.MethodName) jdk_65_method_131_code (2 : Nat) (Option.none : Option Jvm.ClassFile.FieldType), Jvm.Cond.code ({ cls := "java/lang/Math", name := "min", desc := "(II)I" } : Jvm.MethodName) jdk_29_method_69_code (2 : Nat) (Option.some Jvm.ClassFile.FieldType.int), Jvm.Cond.code ({ cls := "java/lang/String", name := "encodeASCII", desc := "(B[B)[B" } : Jvm.MethodName) jdk_42_method_24_code (7 : Nat) (Option.some (Jvm.ClassFile.FieldType.array Jvm.ClassFile.FieldType.byte)), Jvm.Cond.code ({ cls := "com/example/reservation/reservation/server/TargetRequestPinLaw", name := "same", desc := "([BI[BI[BI[BI)Z" } : Jvm.MethodName) method_7_code (9 : Nat) (Option.some Jvm.ClassFile.FieldType.boolean), Jvm.Cond.code ({ cls := "com/example/reservation/reservation/server/TargetRequestPinLaw", name := "ex", desc := "([BI[BI[BII)I" } : Jvm.MethodName) method_6_code (8 : Nat) (Option.some Jvm.ClassFile.FieldType.int), Jvm.Cond.code ({ cls := "java/lang/StringUTF16", name := "compress", desc := "([CII)[B" } : Jvm.MethodName) jdk_52_method_16_code (6 : Nat) (Option.some (Jvm.ClassFile.FieldType.array Jvm.ClassFile.FieldType.byte)), Jvm.Cond.code ({ cls := "java/lang/StringUTF16", name := "compress", desc := "([CI[BII)I" } : Jvm.MethodName) jdk_52_method_21_code (7 : Nat) (Option.some Jvm.ClassFile.FieldType.int), Jvm.Cond.code ({ cls := "java/lang/StringUTF16", name := "toBytes", desc := "([CII)[B" } : Jvm.MethodName) jdk_52_method_14_code (5 : Nat) (Option.some (Jvm.ClassFile.FieldType.array Jvm.ClassFile.FieldType.byte)), Jvm.Cond.code ({ cls := "java/lang/StringUTF16", name := "newBytesFor", desc := "(I)[B" } : Jvm.MethodName) jdk_52_method_2_code (1 : Nat) (Option.some (Jvm.ClassFile.FieldType.array Jvm.ClassFile.FieldType.byte)), Jvm.Cond.code ({ cls := "java/lang/StringUTF16", name := "newBytesLength", desc := "(I)I" } : Jvm.MethodName) jdk_52_method_3_code (1 : Nat) (Option.some Jvm.ClassFile.FieldType.int), Jvm.Cond.code ({ cls := "java/lang/StringUTF16", name := "putChar", desc := "([BII)V" } : Jvm.MethodName) jdk_52_method_4_code (3 : Nat) (Option.none : Option Jvm.ClassFile.FieldType), Jvm.Cond.code ({ cls := "java/lang/StringUTF16", name := "getChar", desc := "([BI)C" } : Jvm.MethodName) jdk_52_method_5_code (2 : Nat) (Option.some Jvm.ClassFile.FieldType.char), Jvm.Cond.code ({ cls := "java/lang/StringUTF16", name := "coderFromArrayLen", desc := "([BI)B" } : Jvm.MethodName) jdk_52_method_15_code (2 : Nat) (Option.some Jvm.ClassFile.FieldType.byte), Jvm.Cond.code ({ cls := "java/lang/String", name := "encodeUTF8_UTF16", desc := "([BZ)[B" } : Jvm.MethodName) jdk_42_method_47_code (9 : Nat) (Option.some (Jvm.ClassFile.FieldType.array Jvm.ClassFile.FieldType.byte)), Jvm.Cond.code ({ cls := "java/lang/Character", name := "isSurrogate", desc := "(C)Z" } : Jvm.MethodName) jdk_89_method_16_code (1 : Nat) (Option.some Jvm.ClassFile.FieldType.boolean), Jvm.Cond.code ({ cls := "java/lang/Character", name := "isHighSurrogate", desc := "(C)Z" } : Jvm.MethodName) jdk_89_method_14_code (1 : Nat) (Option.some Jvm.ClassFile.FieldType.boolean), Jvm.Cond.code ({ cls := "java/lang/Character", name := "isLowSurrogate", desc := "(C)Z" } : Jvm.MethodName) jdk_89_method_15_code (1 : Nat) (Option.some Jvm.ClassFile.FieldType.boolean), Jvm.Cond.code ({ cls := "java/util/Arrays", name := "copyOf", desc := "([BI)[B" } : Jvm.MethodName) jdk_65_method_121_code (3 : Nat) (Option.some (Jvm.ClassFile.FieldType.array Jvm.ClassFile.FieldType.byte)), Jvm.Cond.code ({ cls := "com/example/reservation/reservation/server/TargetRequestPinLaw", name := "cpAt", desc := "([CII)I" } : Jvm.MethodName) method_4_code (5 : Nat) (Option.some Jvm.ClassFile.FieldType.int), Jvm.Cond.code ({ cls := "com/example/reservation/reservation/server/TargetRequestPinLaw", name := "put", desc := "([BII)I" } : Jvm.MethodName) method_5_code (3 : Nat) (Option.some Jvm.ClassFile.FieldType.int), Jvm.Cond.code ({ cls := "java/lang/Character", name := "toCodePoint", desc := "(CC)I" } : Jvm.MethodName) jdk_89_method_19_code (2 : Nat) (Option.some Jvm.ClassFile.FieldType.int)]
set_option maxRecDepth 65536 in
theorem codes_eq : words1.filter isCode = codes1 := rfl
theorem w_codes : ∀ c ∈ words1.filter isCode, c.before args0 about1 = true := by
  rw [codes_eq]
  intro c hc
  simp only [codes1, List.mem_cons, List.not_mem_nil, or_false] at hc
  rcases hc with rfl | rfl | rfl | rfl | rfl | rfl | rfl | rfl | rfl | rfl | rfl | rfl | rfl | rfl | rfl | rfl | rfl | rfl | rfl | rfl | rfl | rfl | rfl | rfl | rfl | rfl | rfl | rfl | rfl | rfl | rfl | rfl | rfl | rfl | rfl | rfl | rfl | rfl | rfl | rfl | rfl | rfl | rfl | rfl | rfl | rfl | rfl | rfl | rfl | rfl | rfl | rfl | rfl | rfl | rfl | rfl | rfl
  · exact w_c0
  · exact w_c1
  · exact w_c2
  · exact w_c3
  · exact w_c4
  · exact w_c5
  · exact w_c6
  · exact w_c7
  · exact w_c8
  · exact w_c9
  · exact w_c10
  · exact w_c11
  · exact w_c12
  · exact w_c13
  · exact w_c14
  · exact w_c15
  · exact w_c16
  · exact w_c17
  · exact w_c18
  · exact w_c19
  · exact w_c20
  · exact w_c21
  · exact w_c22
  · exact w_c23
  · exact w_c24
  · exact w_c25
  · exact w_c26
  · exact w_c27
  · exact w_c28
  · exact w_c29
  · exact w_c30
  · exact w_c31
  · exact w_c32
  · exact w_c33
  · exact w_c34
  · exact w_c35
  · exact w_c36
  · exact w_c37
  · exact w_c38
  · exact w_c39
  · exact w_c40
  · exact w_c41
  · exact w_c42
  · exact w_c43
  · exact w_c44
  · exact w_c45
  · exact w_c46
  · exact w_c47
  · exact w_c48
  · exact w_c49
  · exact w_c50
  · exact w_c51
  · exact w_c52
  · exact w_c53
  · exact w_c54
  · exact w_c55
  · exact w_c56
set_option maxRecDepth 65536 in
theorem w_t1 : (words1.take 24).all (fun c => isCode c || c.before args0 about1) = true := by decide +kernel
set_option maxRecDepth 65536 in
theorem w_t2 : ((words1.drop 24).take 24).all (fun c => isCode c || c.before args0 about1) = true := by decide +kernel
set_option maxRecDepth 65536 in
theorem w_t3 : (((words1.drop 24).drop 24).take 24).all (fun c => isCode c || c.before args0 about1) = true := by decide +kernel
set_option maxRecDepth 65536 in
theorem w_t4 : ((((words1.drop 24).drop 24).drop 24).take 24).all (fun c => isCode c || c.before args0 about1) = true := by decide +kernel
set_option maxRecDepth 65536 in
theorem w_t5 : (((((words1.drop 24).drop 24).drop 24).drop 24).take 24).all (fun c => isCode c || c.before args0 about1) = true := by decide +kernel
set_option maxRecDepth 65536 in
theorem w_t6 : ((((((words1.drop 24).drop 24).drop 24).drop 24).drop 24).take 24).all (fun c => isCode c || c.before args0 about1) = true := by decide +kernel
set_option maxRecDepth 65536 in
theorem w_t7 : (((((((words1.drop 24).drop 24).drop 24).drop 24).drop 24).drop 24).take 24).all (fun c => isCode c || c.before args0 about1) = true := by decide +kernel
set_option maxRecDepth 65536 in
theorem w_t8 : ((((((((words1.drop 24).drop 24).drop 24).drop 24).drop 24).drop 24).drop 24).take 24).all (fun c => isCode c || c.before args0 about1) = true := by decide +kernel
set_option maxRecDepth 65536 in
theorem w_t9 : (((((((((words1.drop 24).drop 24).drop 24).drop 24).drop 24).drop 24).drop 24).drop 24).take 24).all (fun c => isCode c || c.before args0 about1) = true := by decide +kernel
set_option maxRecDepth 65536 in
theorem w_t10 : ((((((((((words1.drop 24).drop 24).drop 24).drop 24).drop 24).drop 24).drop 24).drop 24).drop 24).take 24).all (fun c => isCode c || c.before args0 about1) = true := by decide +kernel
set_option maxRecDepth 65536 in
theorem w_t11 : (((((((((((words1.drop 24).drop 24).drop 24).drop 24).drop 24).drop 24).drop 24).drop 24).drop 24).drop 24).take 24).all (fun c => isCode c || c.before args0 about1) = true := by decide +kernel
set_option maxRecDepth 65536 in
theorem w_t12 : ((((((((((((words1.drop 24).drop 24).drop 24).drop 24).drop 24).drop 24).drop 24).drop 24).drop 24).drop 24).drop 24).take 24).all (fun c => isCode c || c.before args0 about1) = true := by decide +kernel
set_option maxRecDepth 65536 in
theorem w_t13 : ((((((((((((words1.drop 24).drop 24).drop 24).drop 24).drop 24).drop 24).drop 24).drop 24).drop 24).drop 24).drop 24).drop 24).all (fun c => isCode c || c.before args0 about1) = true := by decide +kernel
theorem w_tables : (allAtoms (Jvm.Cond.code x code maxLocals ret :: tables_1)).before args0 about1 = true := by
  rw [allAtoms_all]
  show words1.all (fun c => c.before args0 about1) = true
  refine all_split ?_ w_codes
  rw [← List.take_append_drop 24 words1, List.all_append, w_t1, ← List.take_append_drop 24 (words1.drop 24), List.all_append, w_t2, ← List.take_append_drop 24 ((words1.drop 24).drop 24), List.all_append, w_t3, ← List.take_append_drop 24 (((words1.drop 24).drop 24).drop 24), List.all_append, w_t4, ← List.take_append_drop 24 ((((words1.drop 24).drop 24).drop 24).drop 24), List.all_append, w_t5, ← List.take_append_drop 24 (((((words1.drop 24).drop 24).drop 24).drop 24).drop 24), List.all_append, w_t6, ← List.take_append_drop 24 ((((((words1.drop 24).drop 24).drop 24).drop 24).drop 24).drop 24), List.all_append, w_t7, ← List.take_append_drop 24 (((((((words1.drop 24).drop 24).drop 24).drop 24).drop 24).drop 24).drop 24), List.all_append, w_t8, ← List.take_append_drop 24 ((((((((words1.drop 24).drop 24).drop 24).drop 24).drop 24).drop 24).drop 24).drop 24), List.all_append, w_t9, ← List.take_append_drop 24 (((((((((words1.drop 24).drop 24).drop 24).drop 24).drop 24).drop 24).drop 24).drop 24).drop 24), List.all_append, w_t10, ← List.take_append_drop 24 ((((((((((words1.drop 24).drop 24).drop 24).drop 24).drop 24).drop 24).drop 24).drop 24).drop 24).drop 24), List.all_append, w_t11, ← List.take_append_drop 24 (((((((((((words1.drop 24).drop 24).drop 24).drop 24).drop 24).drop 24).drop 24).drop 24).drop 24).drop 24).drop 24), List.all_append, w_t12, w_t13]
  rfl
set_option maxRecDepth 65536 in
theorem w_rest : rest_1_c.before args0 about1 = true := by decide +kernel
set_option maxRecDepth 65536 in
theorem w_case : (Jvm.Cond.and given_1 narrow_1).before args0 about1 = true := by decide +kernel
set_option maxRecDepth 65536 in
theorem w_consts : constsHeld consts_1 about1 := Jvm.Lit.constsHeldB_iff.mp (by decide +kernel)
theorem w_applies : (headSpec (Jvm.Cond.code x code maxLocals ret :: tables_1) room_1).applies x e0.platform about1 = true :=
  (Spec.applies_iff w_frames).mpr ⟨w_running, w_runnable, w_alone, w_named, w_hears, w_ripe, w_room, w_tables⟩
theorem atStart : AtStart classFile x code maxLocals ret World_1 tables_1 room_1 Calls_1 rest_1 Pre_1 launch0 p0 e0 about1 theMethod args0 below0 :=
  ⟨lists_1, trivial, launch0.admits_env _ _ _, launch0.least_env, fairChoices_fair.cas, fairChoices_fair.clock, w_frames, w_args, w_heap, w_applies, ⟨w_consts, trivial⟩, w_rest, w_case⟩
end start1
theorem witness_1 : WitnessClaimed_1 := ⟨start1.p0, start1.e0, start1.about1, start1.theMethod, start1.args0, start1.below0, start1.atStart⟩
end Jvm.Pilot.@@N@@

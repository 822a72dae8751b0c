import JvmDerived
import JvmDerived.Pilot.@@N@@Statement
import JvmDerived.Pilot.@@N@@Code
set_option linter.unusedVariables false
set_option linter.unusedSimpArgs false
namespace Jvm.Pilot.@@N@@
open Jvm Jvm.ClassFile Sem Op Lib Jvm.Free Jvm.Stand Jvm.LawKit Jvm.RoadKit Bundle Jvm.Pilot.@@N@@.Jvm.D
section OwnKit
variable {p : Program} {l : Launch} {e : Env} {R : Room} {s : State} {m : MethodId} {args : Array Value} {below : List Frame} {meth : Method} {c : Code} {T : State} {locs : List Loc} {cells slots : Nat} {bytes : ByteArray} {Φ : State → Prop} {pc pc' : Nat} {Ls Ls' : Array Slot} {rest : List Value} {Z : State} {a0 : Array Value} {h : Heap}
/-- the run from A ends in a state with the property Φ -/
def GoP (p : Program) (e : Env) (below : List Frame) (Φ : State → Prop) (A : State) : Prop := ∃ t, Steps p.tables e below A t ∧ Φ t
theorem own_step {A B : State} (h : ∀ t, Steps p.tables e below B t → Steps p.tables e below A t) (g : GoP p e below Φ B) : GoP p e below Φ A := by
  obtain ⟨t, h1, h2⟩ := g; exact ⟨t, h t h1, h2⟩
theorem own_trans {A B : State} (h : Steps p.tables e below A B) (g : GoP p e below Φ B) : GoP p e below Φ A := by
  obtain ⟨t, h1, h2⟩ := g; exact ⟨t, h.trans h1, h2⟩
theorem own_w {L : List Jvm.Cond} (hw : ∀ d ∈ L, d.before a0 Z = true) (i : Nat) {d : Jvm.Cond} (q : L[i]? = some d) : d.before a0 Z = true := hw d (List.mem_of_getElem? q)

theorem own_iload (X : Stand p l e R s m args below meth c T locs cells slots) (hx : p.tables.exec = Jvm.exec) (hby : c.code = bytes) {k : Nat} {x : Int32} (hd : decode bytes pc = .ok (.iload k, 2)) (hl : Ls[k]? = some (.val (.int x))) (hp : pc + 2 = pc') (k : GoP p e below Φ (T.setTop (mkF m pc' Ls (.int x :: rest)))) : GoP p e below Φ (T.setTop (mkF m pc Ls (rest))) := by
  subst hp
  exact own_step (fun t q => XS.iload X.here hx rfl (hb hby hd) hl q) k
theorem own_iloadN (X : Stand p l e R s m args below meth c T locs cells slots) (hx : p.tables.exec = Jvm.exec) (hby : c.code = bytes) {k : Fin 4} {x : Int32} (hd : decode bytes pc = .ok (.iload_n k, 1)) (hl : Ls[k.val]? = some (.val (.int x))) (hp : pc + 1 = pc') (k : GoP p e below Φ (T.setTop (mkF m pc' Ls (.int x :: rest)))) : GoP p e below Φ (T.setTop (mkF m pc Ls (rest))) := by
  subst hp
  exact own_step (fun t q => XS.iloadN X.here hx rfl (hb hby hd) hl q) k
theorem own_istore (X : Stand p l e R s m args below meth c T locs cells slots) (hx : p.tables.exec = Jvm.exec) (hby : c.code = bytes) {k : Nat} {x : Int32} (hd : decode bytes pc = .ok (.istore k, 2)) (hl : storeLocals Ls k (.int x) = some Ls') (hp : pc + 2 = pc') (k : GoP p e below Φ (T.setTop (mkF m pc' Ls' (rest)))) : GoP p e below Φ (T.setTop (mkF m pc Ls (.int x :: rest))) := by
  subst hp
  exact own_step (fun t q => XS.istore X.here hx rfl (hb hby hd) rfl hl q) k
theorem own_istoreN (X : Stand p l e R s m args below meth c T locs cells slots) (hx : p.tables.exec = Jvm.exec) (hby : c.code = bytes) {k : Fin 4} {x : Int32} (hd : decode bytes pc = .ok (.istore_n k, 1)) (hl : storeLocals Ls k.val (.int x) = some Ls') (hp : pc + 1 = pc') (k : GoP p e below Φ (T.setTop (mkF m pc' Ls' (rest)))) : GoP p e below Φ (T.setTop (mkF m pc Ls (.int x :: rest))) := by
  subst hp
  exact own_step (fun t q => XS.istoreN X.here hx rfl (hb hby hd) rfl hl q) k
theorem own_lload (X : Stand p l e R s m args below meth c T locs cells slots) (hx : p.tables.exec = Jvm.exec) (hby : c.code = bytes) {k : Nat} {x : Int64} (hd : decode bytes pc = .ok (.lload k, 2)) (hl : Ls[k]? = some (.val (.long x))) (hp : pc + 2 = pc') (k : GoP p e below Φ (T.setTop (mkF m pc' Ls (.long x :: rest)))) : GoP p e below Φ (T.setTop (mkF m pc Ls (rest))) := by
  subst hp
  exact own_step (fun t q => XS.lload X.here hx rfl (hb hby hd) hl q) k
theorem own_lloadN (X : Stand p l e R s m args below meth c T locs cells slots) (hx : p.tables.exec = Jvm.exec) (hby : c.code = bytes) {k : Fin 4} {x : Int64} (hd : decode bytes pc = .ok (.lload_n k, 1)) (hl : Ls[k.val]? = some (.val (.long x))) (hp : pc + 1 = pc') (k : GoP p e below Φ (T.setTop (mkF m pc' Ls (.long x :: rest)))) : GoP p e below Φ (T.setTop (mkF m pc Ls (rest))) := by
  subst hp
  exact own_step (fun t q => XS.lloadN X.here hx rfl (hb hby hd) hl q) k
theorem own_lstore (X : Stand p l e R s m args below meth c T locs cells slots) (hx : p.tables.exec = Jvm.exec) (hby : c.code = bytes) {k : Nat} {x : Int64} (hd : decode bytes pc = .ok (.lstore k, 2)) (hl : storeLocals Ls k (.long x) = some Ls') (hp : pc + 2 = pc') (k : GoP p e below Φ (T.setTop (mkF m pc' Ls' (rest)))) : GoP p e below Φ (T.setTop (mkF m pc Ls (.long x :: rest))) := by
  subst hp
  exact own_step (fun t q => XS.lstore X.here hx rfl (hb hby hd) rfl hl q) k
theorem own_aload (X : Stand p l e R s m args below meth c T locs cells slots) (hx : p.tables.exec = Jvm.exec) (hby : c.code = bytes) {k : Nat} {x : Value} (hd : decode bytes pc = .ok (.aload k, 2)) (hl : Ls[k]? = some (.val x)) (hr : x.isRef = true) (hp : pc + 2 = pc') (k : GoP p e below Φ (T.setTop (mkF m pc' Ls (x :: rest)))) : GoP p e below Φ (T.setTop (mkF m pc Ls (rest))) := by
  subst hp
  exact own_step (fun t q => XS.aload X.here hx rfl (hb hby hd) hl hr q) k
theorem own_aloadN (X : Stand p l e R s m args below meth c T locs cells slots) (hx : p.tables.exec = Jvm.exec) (hby : c.code = bytes) {k : Fin 4} {x : Value} (hd : decode bytes pc = .ok (.aload_n k, 1)) (hl : Ls[k.val]? = some (.val x)) (hr : x.isRef = true) (hp : pc + 1 = pc') (k : GoP p e below Φ (T.setTop (mkF m pc' Ls (x :: rest)))) : GoP p e below Φ (T.setTop (mkF m pc Ls (rest))) := by
  subst hp
  exact own_step (fun t q => XS.aloadN X.here hx rfl (hb hby hd) hl hr q) k
theorem own_astore (X : Stand p l e R s m args below meth c T locs cells slots) (hx : p.tables.exec = Jvm.exec) (hby : c.code = bytes) {k : Nat} {x : Value} (hd : decode bytes pc = .ok (.astore k, 2)) (hr : x.isRef = true) (hl : storeLocals Ls k x = some Ls') (hp : pc + 2 = pc') (k : GoP p e below Φ (T.setTop (mkF m pc' Ls' (rest)))) : GoP p e below Φ (T.setTop (mkF m pc Ls (x :: rest))) := by
  subst hp
  exact own_step (fun t q => XS.astore X.here hx rfl (hb hby hd) rfl hr hl q) k
theorem own_astoreN (X : Stand p l e R s m args below meth c T locs cells slots) (hx : p.tables.exec = Jvm.exec) (hby : c.code = bytes) {k : Fin 4} {x : Value} (hd : decode bytes pc = .ok (.astore_n k, 1)) (hr : x.isRef = true) (hl : storeLocals Ls k.val x = some Ls') (hp : pc + 1 = pc') (k : GoP p e below Φ (T.setTop (mkF m pc' Ls' (rest)))) : GoP p e below Φ (T.setTop (mkF m pc Ls (x :: rest))) := by
  subst hp
  exact own_step (fun t q => XS.astoreN X.here hx rfl (hb hby hd) rfl hr hl q) k
theorem own_iadd (X : Stand p l e R s m args below meth c T locs cells slots) (hx : p.tables.exec = Jvm.exec) (hby : c.code = bytes) {x y : Int32} (hd : decode bytes pc = .ok (.iadd, 1)) (hp : pc + 1 = pc') (k : GoP p e below Φ (T.setTop (mkF m pc' Ls (.int (x + y) :: rest)))) : GoP p e below Φ (T.setTop (mkF m pc Ls (.int y :: .int x :: rest))) := by
  subst hp
  exact own_step (fun t q => XS.iadd X.here hx rfl (hb hby hd) rfl q) k
theorem own_ladd (X : Stand p l e R s m args below meth c T locs cells slots) (hx : p.tables.exec = Jvm.exec) (hby : c.code = bytes) {x y : Int64} (hd : decode bytes pc = .ok (.ladd, 1)) (hp : pc + 1 = pc') (k : GoP p e below Φ (T.setTop (mkF m pc' Ls (.long (x + y) :: rest)))) : GoP p e below Φ (T.setTop (mkF m pc Ls (.long y :: .long x :: rest))) := by
  subst hp
  exact own_step (fun t q => XS.ladd X.here hx rfl (hb hby hd) rfl q) k
theorem own_lsub (X : Stand p l e R s m args below meth c T locs cells slots) (hx : p.tables.exec = Jvm.exec) (hby : c.code = bytes) {x y : Int64} (hd : decode bytes pc = .ok (.lsub, 1)) (hp : pc + 1 = pc') (k : GoP p e below Φ (T.setTop (mkF m pc' Ls (.long (x - y) :: rest)))) : GoP p e below Φ (T.setTop (mkF m pc Ls (.long y :: .long x :: rest))) := by
  subst hp
  exact own_step (fun t q => XS.lsub X.here hx rfl (hb hby hd) rfl q) k
theorem own_iand (X : Stand p l e R s m args below meth c T locs cells slots) (hx : p.tables.exec = Jvm.exec) (hby : c.code = bytes) {x y : Int32} (hd : decode bytes pc = .ok (.iand, 1)) (hp : pc + 1 = pc') (k : GoP p e below Φ (T.setTop (mkF m pc' Ls (.int (x &&& y) :: rest)))) : GoP p e below Φ (T.setTop (mkF m pc Ls (.int y :: .int x :: rest))) := by
  subst hp
  exact own_step (fun t q => XS.iand X.here hx rfl (hb hby hd) rfl q) k
theorem own_iushr (X : Stand p l e R s m args below meth c T locs cells slots) (hx : p.tables.exec = Jvm.exec) (hby : c.code = bytes) {x : Int32} {y : Int32} (hd : decode bytes pc = .ok (.iushr, 1)) (hp : pc + 1 = pc') (k : GoP p e below Φ (T.setTop (mkF m pc' Ls (.int ((x.toUInt32 >>> (y &&& 31).toUInt32).toInt32) :: rest)))) : GoP p e below Φ (T.setTop (mkF m pc Ls (.int y :: .int x :: rest))) := by
  subst hp
  exact own_step (fun t q => XS.iushr X.here hx rfl (hb hby hd) rfl q) k
theorem own_lcmp (X : Stand p l e R s m args below meth c T locs cells slots) (hx : p.tables.exec = Jvm.exec) (hby : c.code = bytes) {x y : Int64} (hd : decode bytes pc = .ok (.lcmp, 1)) (hp : pc + 1 = pc') (k : GoP p e below Φ (T.setTop (mkF m pc' Ls (.int (lcmpW x y) :: rest)))) : GoP p e below Φ (T.setTop (mkF m pc Ls (.long y :: .long x :: rest))) := by
  subst hp
  exact own_step (fun t q => XS.lcmp X.here hx rfl (hb hby hd) rfl q) k
theorem own_dload (X : Stand p l e R s m args below meth c T locs cells slots) (hx : p.tables.exec = Jvm.exec) (hby : c.code = bytes) {k : Nat} {x : UInt64} (hd : decode bytes pc = .ok (.dload k, 2)) (hl : Ls[k]? = some (.val (.double x))) (hp : pc + 2 = pc') (k : GoP p e below Φ (T.setTop (mkF m pc' Ls (.double x :: rest)))) : GoP p e below Φ (T.setTop (mkF m pc Ls (rest))) := by
  subst hp
  exact own_step (fun t q => Jvm.Free.XS.dload X.here hx rfl (hb hby hd) hl q) k
theorem own_dloadN (X : Stand p l e R s m args below meth c T locs cells slots) (hx : p.tables.exec = Jvm.exec) (hby : c.code = bytes) {k : Fin 4} {x : UInt64} (hd : decode bytes pc = .ok (.dload_n k, 1)) (hl : Ls[k.val]? = some (.val (.double x))) (hp : pc + 1 = pc') (k : GoP p e below Φ (T.setTop (mkF m pc' Ls (.double x :: rest)))) : GoP p e below Φ (T.setTop (mkF m pc Ls (rest))) := by
  subst hp
  exact own_step (fun t q => Jvm.Free.XS.dloadN X.here hx rfl (hb hby hd) hl q) k
theorem own_dconst0 (X : Stand p l e R s m args below meth c T locs cells slots) (hx : p.tables.exec = Jvm.exec) (hby : c.code = bytes) (hd : decode bytes pc = .ok (.dconst 0, 1)) (hp : pc + 1 = pc') (k : GoP p e below Φ (T.setTop (mkF m pc' Ls (.double FP.dconst0 :: rest)))) : GoP p e below Φ (T.setTop (mkF m pc Ls (rest))) := by
  subst hp
  exact own_step (fun t q => Jvm.Free.XS.dconst0 X.here hx rfl (hb hby hd) rfl q) k
theorem own_dconst1 (X : Stand p l e R s m args below meth c T locs cells slots) (hx : p.tables.exec = Jvm.exec) (hby : c.code = bytes) (hd : decode bytes pc = .ok (.dconst 1, 1)) (hp : pc + 1 = pc') (k : GoP p e below Φ (T.setTop (mkF m pc' Ls (.double FP.dconst1 :: rest)))) : GoP p e below Φ (T.setTop (mkF m pc Ls (rest))) := by
  subst hp
  exact own_step (fun t q => Jvm.Free.XS.dconst1 X.here hx rfl (hb hby hd) rfl q) k
theorem own_dcmp (X : Stand p l e R s m args below meth c T locs cells slots) (hx : p.tables.exec = Jvm.exec) (hby : c.code = bytes) {o : CmpOp} {x y : UInt64} {v : Int32} (hd : decode bytes pc = .ok (.dcmp o, 1)) (hv : cmpValue (FP.dcmp x y) o = v) (hp : pc + 1 = pc') (k : GoP p e below Φ (T.setTop (mkF m pc' Ls (.int v :: rest)))) : GoP p e below Φ (T.setTop (mkF m pc Ls (.double y :: .double x :: rest))) := by
  subst hp
  exact own_step (fun t q => Jvm.Free.XS.dcmpS X.here hx rfl (hb hby hd) rfl hv q) k
theorem own_iconst (X : Stand p l e R s m args below meth c T locs cells slots) (hx : p.tables.exec = Jvm.exec) (hby : c.code = bytes) {i : Int} {v : Int32} (hd : decode bytes pc = .ok (.iconst i, 1)) (hv : Int32.ofInt i = v) (hp : pc + 1 = pc') (k : GoP p e below Φ (T.setTop (mkF m pc' Ls (.int v :: rest)))) : GoP p e below Φ (T.setTop (mkF m pc Ls (rest))) := by
  subst hp hv
  exact own_step (fun t q => XS.iconst X.here hx rfl (hb hby hd) q) k
theorem own_bipush (X : Stand p l e R s m args below meth c T locs cells slots) (hx : p.tables.exec = Jvm.exec) (hby : c.code = bytes) {i : Int} {v : Int32} (hd : decode bytes pc = .ok (.bipush i, 2)) (hv : (Int8.ofInt i).toInt32 = v) (hp : pc + 2 = pc') (k : GoP p e below Φ (T.setTop (mkF m pc' Ls (.int v :: rest)))) : GoP p e below Φ (T.setTop (mkF m pc Ls (rest))) := by
  subst hp hv
  exact own_step (fun t q => XS.bipush X.here hx rfl (hb hby hd) q) k
theorem own_lconst (X : Stand p l e R s m args below meth c T locs cells slots) (hx : p.tables.exec = Jvm.exec) (hby : c.code = bytes) {i : Fin 2} {v : Int64} (hd : decode bytes pc = .ok (.lconst i, 1)) (hv : Int64.ofNat i = v) (hp : pc + 1 = pc') (k : GoP p e below Φ (T.setTop (mkF m pc' Ls (.long v :: rest)))) : GoP p e below Φ (T.setTop (mkF m pc Ls (rest))) := by
  subst hp hv
  exact own_step (fun t q => XS.lconst X.here hx rfl (hb hby hd) q) k
theorem own_aconst_null (X : Stand p l e R s m args below meth c T locs cells slots) (hx : p.tables.exec = Jvm.exec) (hby : c.code = bytes) (hd : decode bytes pc = .ok (.aconst_null, 1)) (hp : pc + 1 = pc') (k : GoP p e below Φ (T.setTop (mkF m pc' Ls (.null :: rest)))) : GoP p e below Φ (T.setTop (mkF m pc Ls (rest))) := by
  subst hp
  exact own_step (fun t q => XS.aconstNull X.here hx rfl (hb hby hd) q) k
theorem own_dup (X : Stand p l e R s m args below meth c T locs cells slots) (hx : p.tables.exec = Jvm.exec) (hby : c.code = bytes) {x : Value} (hd : decode bytes pc = .ok (.dup, 1)) (hc : x.category = 1) (hp : pc + 1 = pc') (k : GoP p e below Φ (T.setTop (mkF m pc' Ls (x :: x :: rest)))) : GoP p e below Φ (T.setTop (mkF m pc Ls (x :: rest))) := by
  subst hp
  exact own_step (fun t q => XS.dup X.here hx rfl (hb hby hd) rfl hc q) k
theorem own_pop (X : Stand p l e R s m args below meth c T locs cells slots) (hx : p.tables.exec = Jvm.exec) (hby : c.code = bytes) {x : Value} (hd : decode bytes pc = .ok (.pop, 1)) (hc : x.category = 1) (hp : pc + 1 = pc') (k : GoP p e below Φ (T.setTop (mkF m pc' Ls (rest)))) : GoP p e below Φ (T.setTop (mkF m pc Ls (x :: rest))) := by
  subst hp
  exact own_step (fun t q => XS.pop X.here hx rfl (hb hby hd) rfl hc q) k
theorem own_dup_x1 (X : Stand p l e R s m args below meth c T locs cells slots) (hx : p.tables.exec = Jvm.exec) (hby : c.code = bytes) {x y : Value} (hd : decode bytes pc = .ok (.dup_x1, 1)) (hc : x.category = 1) (hc' : y.category = 1) (hp : pc + 1 = pc') (k : GoP p e below Φ (T.setTop (mkF m pc' Ls (x :: y :: x :: rest)))) : GoP p e below Φ (T.setTop (mkF m pc Ls (x :: y :: rest))) := by
  subst hp
  exact own_step (fun t q => XS.dupX1 X.here hx rfl (hb hby hd) rfl hc hc' q) k
theorem own_XdupX2 {tb : Tables} [Ours tb] {e : Env} {below : List Frame} {T target : State} {m : MethodId} {c : Code} {g : JFrame} (h : At T m c below) (hx : tb.exec = Jvm.exec) (hg : g.method = m) {x y z : Value} {rest : List Value} (hd : decode c.code g.pc = .ok (.dup_x2, 1)) (hs : g.stack = x :: y :: z :: rest) (hc : x.category = 1) (hc' : y.category = 1) (hc2 : z.category = 1)
    (hr : Steps tb e below (T.setTop { g with pc := g.pc + 1, stack := x :: y :: z :: x :: rest }) target) : Steps tb e below (T.setTop g) target := by
  subst hg
  jvm_step h [h.top, hx, hd, hs, hc, hc', hc2]
  exact hr
theorem own_dup_x2 (X : Stand p l e R s m args below meth c T locs cells slots) (hx : p.tables.exec = Jvm.exec) (hby : c.code = bytes) {x y z : Value} (hd : decode bytes pc = .ok (.dup_x2, 1)) (hc : x.category = 1) (hc' : y.category = 1) (hc2 : z.category = 1) (hp : pc + 1 = pc') (k : GoP p e below Φ (T.setTop (mkF m pc' Ls (x :: y :: z :: x :: rest)))) : GoP p e below Φ (T.setTop (mkF m pc Ls (x :: y :: z :: rest))) := by
  subst hp
  exact own_step (fun t q => own_XdupX2 X.here hx rfl (hb hby hd) rfl hc hc' hc2 q) k
theorem own_dup2 (X : Stand p l e R s m args below meth c T locs cells slots) (hx : p.tables.exec = Jvm.exec) (hby : c.code = bytes) {x y : Value} (hd : decode bytes pc = .ok (.dup2, 1)) (hc : x.category = 1) (hc' : y.category = 1) (hp : pc + 1 = pc') (k : GoP p e below Φ (T.setTop (mkF m pc' Ls (x :: y :: x :: y :: rest)))) : GoP p e below Φ (T.setTop (mkF m pc Ls (x :: y :: rest))) := by
  subst hp
  exact own_step (fun t q => XT.dup2 X.here hx rfl (hb hby hd) rfl hc hc' q) k
theorem own_iinc (X : Stand p l e R s m args below meth c T locs cells slots) (hx : p.tables.exec = Jvm.exec) (hby : c.code = bytes) {k0 : Nat} {i : Int} {x v : Int32} (hd : decode bytes pc = .ok (.iinc k0 i, 3)) (hl : Ls[k0]? = some (.val (.int x))) (hv : Int32.ofInt i = v) (hl' : storeLocals Ls k0 (.int (x + v)) = some Ls') (hp : pc + 3 = pc') (k : GoP p e below Φ (T.setTop (mkF m pc' Ls' (rest)))) : GoP p e below Φ (T.setTop (mkF m pc Ls (rest))) := by
  subst hp hv
  exact own_step (fun t q => XS.iinc X.here hx rfl (hb hby hd) hl hl' q) k
theorem own_goto (X : Stand p l e R s m args below meth c T locs cells slots) (hx : p.tables.exec = Jvm.exec) (hby : c.code = bytes) {o : Int} (hd : decode bytes pc = .ok (.goto o, 3)) (ho : 0 ≤ (pc : Int) + o) (hp : ((pc : Int) + o).toNat = pc') (k : GoP p e below Φ (T.setTop (mkF m pc' Ls (rest)))) : GoP p e below Φ (T.setTop (mkF m pc Ls (rest))) :=
  own_step (fun t q => XS.goto X.here hx rfl (pc0 := pc) (pc' := pc') rfl (hb hby hd) ho hp q) k
theorem own_ifY (X : Stand p l e R s m args below meth c T locs cells slots) (hx : p.tables.exec = Jvm.exec) (hby : c.code = bytes) {cd : ClassFile.Cond} {o : Int} {x : Int32} (hd : decode bytes pc = .ok (.ifCond cd o, 3)) (hc : ifCond.holds cd x = true) (ho : 0 ≤ (pc : Int) + o) (hp : ((pc : Int) + o).toNat = pc') (k : GoP p e below Φ (T.setTop (mkF m pc' Ls (rest)))) : GoP p e below Φ (T.setTop (mkF m pc Ls (.int x :: rest))) :=
  own_step (fun t q => XS.ifYes X.here hx rfl (pc0 := pc) (pc' := pc') rfl (hb hby hd) rfl hc ho hp q) k
theorem own_ifN (X : Stand p l e R s m args below meth c T locs cells slots) (hx : p.tables.exec = Jvm.exec) (hby : c.code = bytes) {cd : ClassFile.Cond} {o : Int} {x : Int32} (hd : decode bytes pc = .ok (.ifCond cd o, 3)) (hc : ifCond.holds cd x = false) (hp : pc + 3 = pc') (k : GoP p e below Φ (T.setTop (mkF m pc' Ls (rest)))) : GoP p e below Φ (T.setTop (mkF m pc Ls (.int x :: rest))) := by
  subst hp
  exact own_step (fun t q => XS.ifNo X.here hx rfl (hb hby hd) rfl hc q) k
theorem own_icmpY (X : Stand p l e R s m args below meth c T locs cells slots) (hx : p.tables.exec = Jvm.exec) (hby : c.code = bytes) {cd : ClassFile.Cond} {o : Int} {x y : Int32} (hd : decode bytes pc = .ok (.if_icmp cd o, 3)) (hc : if_icmp.holds cd x y = true) (ho : 0 ≤ (pc : Int) + o) (hp : ((pc : Int) + o).toNat = pc') (k : GoP p e below Φ (T.setTop (mkF m pc' Ls (rest)))) : GoP p e below Φ (T.setTop (mkF m pc Ls (.int y :: .int x :: rest))) :=
  own_step (fun t q => XS.icmpYes X.here hx rfl (pc0 := pc) (pc' := pc') rfl (hb hby hd) rfl hc ho hp q) k
theorem own_icmpN (X : Stand p l e R s m args below meth c T locs cells slots) (hx : p.tables.exec = Jvm.exec) (hby : c.code = bytes) {cd : ClassFile.Cond} {o : Int} {x y : Int32} (hd : decode bytes pc = .ok (.if_icmp cd o, 3)) (hc : if_icmp.holds cd x y = false) (hp : pc + 3 = pc') (k : GoP p e below Φ (T.setTop (mkF m pc' Ls (rest)))) : GoP p e below Φ (T.setTop (mkF m pc Ls (.int y :: .int x :: rest))) := by
  subst hp
  exact own_step (fun t q => XS.icmpNo X.here hx rfl (hb hby hd) rfl hc q) k
theorem own_acmp (X : Stand p l e R s m args below meth c T locs cells slots) (hx : p.tables.exec = Jvm.exec) (hby : c.code = bytes) {cd : ACond} {x y : Value} {o : Int} (hd : decode bytes pc = .ok (.if_acmp cd o, 3)) (h1 : x.isRef = true) (h2 : y.isRef = true) {same : Bool} (hq : decide (x = y) = same) (ho : 0 ≤ (pc : Int) + o) (hp : pc' = if acV cd same = true then ((pc : Int) + o).toNat else pc + 3) (k : GoP p e below Φ (T.setTop (mkF m pc' Ls (rest)))) : GoP p e below Φ (T.setTop (mkF m pc Ls (y :: x :: rest))) :=
  own_step (fun t q => Jvm.RoadKit.acmp (g := mkF m pc Ls (y :: x :: rest)) X hx rfl h1 h2 (pc0 := pc) (pc' := pc') (same := same) rfl (hb hby hd) rfl hq ho hp q) k
theorem own_ldc2J (X : Stand p l e R s m args below meth c T locs cells slots) (hx : p.tables.exec = Jvm.exec) (hby : c.code = bytes) (hZ : Z.Warmed39 s.vm) {own : String} {i : Nat} {v : Int64} (hown : s.vm.findClass own = some m.cls) (w : (Jvm.Cond.constantLong own i v).before a0 Z = true) (hd : decode bytes pc = .ok (.ldc2_w i, 3)) (hp : pc + 3 = pc') (k : GoP p e below Φ (T.setTop (mkF m pc' Ls (.long v :: rest)))) : GoP p e below Φ (T.setTop (mkF m pc Ls (rest))) := by
  subst hp
  exact own_step (fun t q => Jvm.Stand.ldc2J X hx hown (mvT hZ w) rfl (hb hby hd) q) k
theorem own_getF (X : Stand p l e R s m args below meth c T locs cells slots) (hx : p.tables.exec = Jvm.exec) (hby : c.code = bytes) (hZ : Z.Warmed39 s.vm) {own R0 O n d host : String} {index : Nat} (hown : s.vm.findClass own = some m.cls) (w : (Jvm.Cond.fieldLink own index R0 n d).before a0 Z = true ∨ (Jvm.Cond.fieldLinkNest own index R0 n d host).before a0 Z = true) (via : Via Z R0 O n d) (eT : T.heap = h) {a : Addr} {v : Value} (F : Fld Z h a O n d v) (hd : decode bytes pc = .ok (.getfield index, 3)) (hp : pc + 3 = pc') (k : ∀ T' : State, Stand p l e R s m args below meth c T' locs cells slots → T'.heap = h → GoP p e below Φ (T'.setTop (mkF m pc' Ls (v :: rest)))) : GoP p e below Φ (T.setTop (mkF m pc Ls (.ref a :: rest))) := by
  subst hp
  obtain ⟨T', X', e', st'⟩ := getF X hx hZ hown w via eT F (g := mkF m pc Ls (.ref a :: rest)) rfl rfl (hb hby hd)
  exact own_step st' (k T' X' e')
theorem own_getS (X : Stand p l e R s m args below meth c T locs cells slots) (hx : p.tables.exec = Jvm.exec) (hby : c.code = bytes) (hZ : Z.Warmed39 s.vm) {own R0 O n d host : String} {index : Nat} (hown : s.vm.findClass own = some m.cls) (w : (Jvm.Cond.fieldLink own index R0 n d).before a0 Z = true ∨ (Jvm.Cond.fieldLinkNest own index R0 n d host).before a0 Z = true) (via : Via Z R0 O n d) (eT : T.heap = h) {v : Value} (F : Sta Z h O n d v) (hd : decode bytes pc = .ok (.getstatic index, 3)) (hp : pc + 3 = pc') (k : ∀ T' : State, Stand p l e R s m args below meth c T' locs cells slots → T'.heap = h → GoP p e below Φ (T'.setTop (mkF m pc' Ls (v :: rest)))) : GoP p e below Φ (T.setTop (mkF m pc Ls (rest))) := by
  subst hp
  obtain ⟨T', X', e', st'⟩ := getS2 X hx hZ hown w via eT F (g := mkF m pc Ls rest) rfl (hb hby hd)
  exact own_step st' (k T' X' e')
theorem own_putF (X : Stand p l e R s m args below meth c T locs cells slots) (hx : p.tables.exec = Jvm.exec) (hby : c.code = bytes) (hZ : Z.Warmed39 s.vm) {own R0 O n d host : String} {index : Nat} (hown : s.vm.findClass own = some m.cls) (w : (Jvm.Cond.fieldLink own index R0 n d).before a0 Z = true ∨ (Jvm.Cond.fieldLinkNest own index R0 n d host).before a0 Z = true) (via : Via Z R0 O n d) (eT : T.heap = h) {C : String} {kk : Nat} {ty : FieldType} {a : Addr} {v old : Value} (F : Fld Z h a O n d old) (E : Exa Z h a C) (L : (Jvm.Cond.lays C O n d).before a0 Z = true ∨ ((Jvm.Cond.laysFinal C O n d).before a0 Z = true ∧ own = O ∧ meth.name = "<init>")) (wi : (Jvm.Cond.instantiable C kk).before a0 Z = true) (hty : parseFieldDescriptor d = some ty) (hn : narrow ty v = v) (hf : fits ty v = true) (hd : decode bytes pc = .ok (.putfield index, 3)) (hp : pc + 3 = pc') (k : ∀ (T' : State) (h' : Heap), Stand p l e R s m args below meth c T' (locs ++ [⟨a, Jvm.RoadKit.slotOf Z O n d⟩]) cells slots → T'.heap = h' → Wr h h' a (Jvm.RoadKit.slotOf Z O n d) v → GoP p e below Φ (T'.setTop (mkF m pc' Ls rest))) : GoP p e below Φ (T.setTop (mkF m pc Ls (v :: .ref a :: rest))) := by
  subst hp
  obtain ⟨T', h', X', e', W', st'⟩ := putF X hx hZ hown w via eT F E L wi hty hn hf (g := mkF m pc Ls (v :: .ref a :: rest)) rfl rfl (hb hby hd)
  exact own_step st' (k T' h' X' e' W')
/-- a contract of one body at one heap: with these arguments it returns, and Q says what it leaves -/
def Con (l : Launch) (Z : State) (y : MethodName) (bytes : ByteArray) (maxL : Nat) (ret : Option FieldType) (ws : List Jvm.Cond) (rm : Room) (as' : Array Value) (h0 : Heap) (Q : Option Value → Heap → List Loc → Prop) : Prop :=
  MetFree l y (head1 (Jvm.Cond.code y bytes maxL ret :: ws) rm) (fun a U => a = as' ∧ Z.Warmed39 U.vm ∧ U.heap = h0) (fun _ _ _ _ _ => True) (fun _ U o U' => ∃ v L, o = .returned v ∧ Q v U'.heap L ∧ FrameEnd U o U' L rm.cells rm.slots)
/-- where a body may end: at a state that stands, with a value that Q takes -/
def Fin (p : Program) (l : Launch) (e : Env) (R : Room) (s : State) (m : MethodId) (args : Array Value) (below : List Frame) (meth : Method) (c : Code) (Q : Option Value → State → List Loc → Prop) (Φ : State → Prop) : Prop :=
  ∀ (T : State) (locs : List Loc) (cells slots : Nat) (v : Option Value), Stand p l e R s m args below meth c T locs cells slots → (meth.sig.returnType = none → v = none) → Q v T locs → cells ≤ R.cells → slots ≤ R.slots →
    ∃ fs, (∀ (f : JFrame) (acts : List Action), f.method = m → f.locked = none → f.entered = [] → (doReturn e (T.setTop f) acts v).1 = T.setFrames fs) ∧ Φ (T.setFrames fs)
theorem Con.of {y : MethodName} {maxL : Nat} {ret : Option FieldType} {ws : List Jvm.Cond} {rm : Room} {as' : Array Value} {h0 : Heap} {Q : Option Value → Heap → List Loc → Prop} (hpn : plainFor y = true)
    (body : ∀ (p : Program) (e : Env) (s : State) (m : MethodId) (below : List Frame) (meth : Method) (c : Code) (T : State), Stand p l e rm s m as' below meth c T [] 0 0 → p.tables.exec = Jvm.exec → c.code = bytes → c.maxLocals = maxL → s.vm.findClass y.cls = some m.cls → meth.name = y.name → meth.sig.returnType = ret → T.heap = h0 → Z.Warmed39 s.vm → s.heap = h0 →
      ∀ Φ : State → Prop, Fin p l e rm s m as' below meth c (fun v T L => Q v T.heap L) Φ → GoP p e below Φ (T.setTop (entryFrame m as' maxL))) : Con l Z y bytes maxL ret ws rm as' h0 Q := by
  refine MetFree.of_bodySF hpn hisR ?_
  intro p e s m args below meth c s₁ Bd hml0 hP hK
  obtain ⟨rfl, hZ, hh⟩ := hP
  have e0 : s₁.heap = h0 := by rw [← hh, Bd.state]; rfl
  have hlk : meth.locks = false := Bd.notSynchronized
  obtain ⟨t, h1, o, h2⟩ := body p e s m below meth c s₁ (Stand.of_body Bd) Bd.exec Bd.bytes hml0 (findClass_of_methodNamed Bd.named) (name_of_methodNamed Bd.named Bd.method).1 Bd.returns e0 hZ hh
    (fun t => ∃ o, t.status = .running ∧ Ended t below o ∧ ∃ v L, o = .returned v ∧ Q v t.heap L ∧ FrameEnd s o t L rm.cells rm.slots)
    (fun T locs cells slots v X hv hQ hc hs => by
      obtain ⟨fs, hr, hrun, hended, hW, hsame⟩ := X.leave (v := v) hv hlk
      exact ⟨fs, hr, _, hrun, hended, v, locs, rfl, hQ, ⟨_, rfl⟩, hW, hsame.mono hc hs⟩)
  exact ⟨t, o, h1, h2⟩
theorem own_retV (X : Stand p l e R s m args below meth c T locs cells slots) (hx : p.tables.exec = Jvm.exec) (hby : c.code = bytes) {Q : Option Value → State → List Loc → Prop} (fin : Fin p l e R s m args below meth c Q Φ) {t : FieldType} (hret : meth.sig.returnType = some t) {w : Value} {i : Instr} (hn : narrow t w = w)
    (hi : (i = .ireturn ∧ (t = .int ∨ t = .boolean ∨ t = .byte ∨ t = .char ∨ t = .short) ∧ ∃ z, w = .int z) ∨ (i = .lreturn ∧ t = .long ∧ ∃ z, w = .long z) ∨ (i = .dreturn ∧ t = .double ∧ ∃ z, w = .double z) ∨ (i = .freturn ∧ t = .float ∧ ∃ z, w = .float z) ∨ (i = .areturn ∧ t.isReference = true ∧ w.isRef = true))
    (hd : decode bytes pc = .ok (i, 1)) (hc : cells ≤ R.cells) (hs : slots ≤ R.slots) (hQ : Q (some w) T locs) : GoP p e below Φ (T.setTop (mkF m pc Ls (w :: rest))) := by
  obtain ⟨fs, hr, hΦ⟩ := fin _ _ _ _ (some w) X (fun q => by rw [hret] at q; cases q) hQ hc hs
  exact ⟨_, retOut X hx hret hn hi (hb hby hd) hr, hΦ⟩
theorem own_retI (X : Stand p l e R s m args below meth c T locs cells slots) (hx : p.tables.exec = Jvm.exec) (hby : c.code = bytes) {Q : Option Value → State → List Loc → Prop} (fin : Fin p l e R s m args below meth c Q Φ) (hret : meth.sig.returnType = some .int) {z : Int32} (hd : decode bytes pc = .ok (.ireturn, 1)) (hc : cells ≤ R.cells) (hs : slots ≤ R.slots) (hQ : Q (some (.int z)) T locs) : GoP p e below Φ (T.setTop (mkF m pc Ls (.int z :: rest))) :=
  own_retV X hx hby fin hret rfl (Or.inl ⟨rfl, Or.inl rfl, z, rfl⟩) hd hc hs hQ
theorem own_retN (X : Stand p l e R s m args below meth c T locs cells slots) (hx : p.tables.exec = Jvm.exec) (hby : c.code = bytes) {Q : Option Value → State → List Loc → Prop} (fin : Fin p l e R s m args below meth c Q Φ) {t : FieldType} (hret : meth.sig.returnType = some t) (ht : t = .int ∨ t = .boolean ∨ t = .byte ∨ t = .char ∨ t = .short) {z : Int32} (hn : narrow t (.int z) = .int z) (hd : decode bytes pc = .ok (.ireturn, 1)) (hc : cells ≤ R.cells) (hs : slots ≤ R.slots) (hQ : Q (some (.int z)) T locs) : GoP p e below Φ (T.setTop (mkF m pc Ls (.int z :: rest))) :=
  own_retV X hx hby fin hret hn (Or.inl ⟨rfl, ht, z, rfl⟩) hd hc hs hQ
theorem own_retJ (X : Stand p l e R s m args below meth c T locs cells slots) (hx : p.tables.exec = Jvm.exec) (hby : c.code = bytes) {Q : Option Value → State → List Loc → Prop} (fin : Fin p l e R s m args below meth c Q Φ) (hret : meth.sig.returnType = some .long) {z : Int64} (hd : decode bytes pc = .ok (.lreturn, 1)) (hc : cells ≤ R.cells) (hs : slots ≤ R.slots) (hQ : Q (some (.long z)) T locs) : GoP p e below Φ (T.setTop (mkF m pc Ls (.long z :: rest))) :=
  own_retV X hx hby fin hret rfl (Or.inr (Or.inl ⟨rfl, rfl, z, rfl⟩)) hd hc hs hQ
theorem own_retA (X : Stand p l e R s m args below meth c T locs cells slots) (hx : p.tables.exec = Jvm.exec) (hby : c.code = bytes) {Q : Option Value → State → List Loc → Prop} (fin : Fin p l e R s m args below meth c Q Φ) {t : FieldType} (hret : meth.sig.returnType = some t) (ht : t.isReference = true) {w : Value} (hw : w.isRef = true) (hn : narrow t w = w) (hd : decode bytes pc = .ok (.areturn, 1)) (hc : cells ≤ R.cells) (hs : slots ≤ R.slots) (hQ : Q (some w) T locs) : GoP p e below Φ (T.setTop (mkF m pc Ls (w :: rest))) :=
  own_retV X hx hby fin hret hn (Or.inr (Or.inr (Or.inr (Or.inr ⟨rfl, ht, hw⟩)))) hd hc hs hQ
theorem own_ret0 (X : Stand p l e R s m args below meth c T locs cells slots) (hx : p.tables.exec = Jvm.exec) (hby : c.code = bytes) {Q : Option Value → State → List Loc → Prop} (fin : Fin p l e R s m args below meth c Q Φ) (hret : meth.sig.returnType = none) (hd : decode bytes pc = .ok (.return_, 1)) (hc : cells ≤ R.cells) (hs : slots ≤ R.slots) (hQ : Q none T locs) : GoP p e below Φ (T.setTop (mkF m pc Ls ([]))) := by
  obtain ⟨fs, hr, hΦ⟩ := fin _ _ _ _ none X (fun _ => rfl) hQ hc hs
  exact ⟨_, X.returnOut hx hret (hb hby hd) hr, hΦ⟩
theorem own_callS (X : Stand p l e R s m args below meth c T locs cells slots) (hx : p.tables.exec = Jvm.exec) (hby : c.code = bytes) (hZ : Z.Warmed39 s.vm) (hml : Ls.size = c.maxLocals) {own : String} {index : Nat} {y : MethodName} (hown : s.vm.findClass own = some m.cls) (w1 : (Jvm.Cond.methodLink own index y).before a0 Z = true) (w2 : (Jvm.Cond.static y).before a0 Z = true) (w3 : (Jvm.Cond.initialized y.cls).before a0 Z = true) {bytes' : ByteArray} {maxL : Nat} {ret : Option FieldType} (w4 : (Jvm.Cond.code y bytes' maxL ret).before a0 Z = true) (hy : y.cls ≠ "java/lang/invoke/MethodHandle" ∧ y.cls ≠ "java/lang/invoke/VarHandle") {rm : Room} {Q : Option Value → Heap → List Loc → Prop} (eT : T.heap = h) (W : Nat) (hf : rm.frames + 1 ≤ R.frames) (hl : W + (maxL + 11) + rm.locals ≤ R.locals) (hc : cells + rm.cells ≤ R.cells) (hs : slots + rm.slots ≤ R.slots) {argsL rest : List Value} {st : List Value} (hlen : ∀ sig, parseMethodDescriptor y.desc = some sig → argsL.length = sig.parameters.length) (hst : st = argsL.reverse ++ rest) (hM : Con l Z y bytes' maxL ret [] rm argsL.toArray h Q) (hW : (rest.map fun v => v.category).sum ≤ W) (hd : decode bytes pc = .ok (.invokestatic index, 3)) (hp : pc + 3 = pc') (k : ∀ (v : Option Value) (T' : State) (L : List Loc), Stand p l e R s m args below meth c T' (locs ++ L) (cells + rm.cells) (slots + rm.slots) → Q v T'.heap L → GoP p e below Φ (T'.setTop (mkF m pc' Ls (v.toList ++ rest)))) : GoP p e below Φ (T.setTop (mkF m pc Ls st)) := by
  obtain ⟨v, _, ⟨T', L', k', n'⟩, -, X', ⟨L, hQ, l1, y1, z1⟩, st'⟩ := Jvm.LawKit.callS X hx (y := y) hown (mvT hZ w1) (mvT hZ w2) (mvT hZ w3) (mvT hZ w4) hy (backOf (W := W) hM hZ w4 w3 hf hl) (g := mkF m pc Ls st) rfl hml (argsL := argsL) (rest := rest) hlen hst (by show 2 * 0 + _ ≤ _; omega) (hb hby hd) (fun _ _ => ⟨rfl, eT, hc, hs⟩)
  dsimp only [Pt.U, Pt.locs, Pt.cells, Pt.slots] at X' l1 y1 z1 st' hQ
  subst l1 y1 z1 hp
  exact own_step st' (k _ _ _ X' hQ)
theorem own_callI (X : Stand p l e R s m args below meth c T locs cells slots) (hx : p.tables.exec = Jvm.exec) (hby : c.code = bytes) (hZ : Z.Warmed39 s.vm) (hml : Ls.size = c.maxLocals) {own : String} {index : Nat} {y : MethodName} (hown : s.vm.findClass own = some m.cls) {a : Addr} (hn : y.name = "<init>") (w1 : (Jvm.Cond.methodLink own index y).before a0 Z = true) (w2 : (Jvm.Cond.instanceMethod y).before a0 Z = true) (w3 : (Jvm.Cond.initialized y.cls).before a0 Z = true) {bytes' : ByteArray} {maxL : Nat} (w4 : (Jvm.Cond.code y bytes' maxL none).before a0 Z = true) (hy : y.cls ≠ "java/lang/invoke/MethodHandle" ∧ y.cls ≠ "java/lang/invoke/VarHandle") {rm : Room} {Q : Option Value → Heap → List Loc → Prop} (eT : T.heap = h) (W : Nat) (hf : rm.frames + 1 ≤ R.frames) (hl : W + (maxL + 11) + rm.locals ≤ R.locals) (hc : cells + rm.cells ≤ R.cells) (hs : slots + rm.slots ≤ R.slots) {argsL rest : List Value} {st : List Value} (hlen : ∀ sig, parseMethodDescriptor y.desc = some sig → argsL.length = sig.parameters.length) (hst : st = argsL.reverse ++ .ref a :: rest) (hW : (rest.map fun v => v.category).sum ≤ W) (hM : Con l Z y bytes' maxL none [] rm (.ref a :: argsL).toArray h Q) (hd : decode bytes pc = .ok (.invokespecial index, 3)) (hp : pc + 3 = pc') (k : ∀ (v : Option Value) (T' : State) (L : List Loc), Stand p l e R s m args below meth c T' (locs ++ L) (cells + rm.cells) (slots + rm.slots) → Q v T'.heap L → GoP p e below Φ (T'.setTop (mkF m pc' Ls (v.toList ++ rest)))) : GoP p e below Φ (T.setTop (mkF m pc Ls st)) := by
  obtain ⟨v, _, ⟨T', L', k', n'⟩, -, X', ⟨L, hQ, l1, y1, z1⟩, st'⟩ := X.specialBack hx (y := y) hn hown (mvT hZ w1) (mvT hZ w2) (mvT hZ w4) hy (backOf (W := W) hM hZ w4 w3 hf hl) (g := mkF m pc Ls st) rfl hml (Steps.refl _) (a := a) (argsL := argsL) (rest := rest) hlen hst (by show 2 * 0 + _ ≤ _; omega) (hb hby hd) (fun _ _ => ⟨rfl, eT, hc, hs⟩)
  dsimp only [Pt.U, Pt.locs, Pt.cells, Pt.slots] at X' l1 y1 z1 st' hQ
  subst l1 y1 z1 hp
  exact own_trans st' (k _ _ _ X' hQ)
theorem own_callV (X : Stand p l e R s m args below meth c T locs cells slots) (hx : p.tables.exec = Jvm.exec) (hby : c.code = bytes) (hZ : Z.Warmed39 s.vm) (hml : Ls.size = c.maxLocals) {own : String} {index : Nat} {y : MethodName} (hown : s.vm.findClass own = some m.cls) {C : String} {b : Addr} (w1 : (Jvm.Cond.methodLink own index y).before a0 Z = true) (w2 : (Jvm.Cond.declares y).before a0 Z = true) (w5 : (Jvm.Cond.selects C y y).before a0 Z = true) (w6 : (Jvm.Cond.instanceMethod y).before a0 Z = true) (w3 : (Jvm.Cond.initialized y.cls).before a0 Z = true) {bytes' : ByteArray} {maxL : Nat} {ret : Option FieldType} (w4 : (Jvm.Cond.code y bytes' maxL ret).before a0 Z = true) (hy : y.cls ≠ "java/lang/invoke/MethodHandle" ∧ y.cls ≠ "java/lang/invoke/VarHandle") {rm : Room} {Q : Option Value → Heap → List Loc → Prop} (eT : T.heap = h) (W : Nat) (hf : rm.frames + 1 ≤ R.frames) (hl : W + (maxL + 11) + rm.locals ≤ R.locals) (hc : cells + rm.cells ≤ R.cells) (hs : slots + rm.slots ≤ R.slots) {argsL rest : List Value} {st : List Value} (hlen : ∀ sig, parseMethodDescriptor y.desc = some sig → argsL.length = sig.parameters.length) (hst : st = argsL.reverse ++ .ref b :: rest) (hW : (rest.map fun v => v.category).sum ≤ W) (E : Exa Z h b C) (hM : Con l Z y bytes' maxL ret [] rm (.ref b :: argsL).toArray h Q) (hd : decode bytes pc = .ok (.invokevirtual index, 3)) (hp : pc + 3 = pc') (k : ∀ (v : Option Value) (T' : State) (L : List Loc), Stand p l e R s m args below meth c T' (locs ++ L) (cells + rm.cells) (slots + rm.slots) → Q v T'.heap L → GoP p e below Φ (T'.setTop (mkF m pc' Ls (v.toList ++ rest)))) : GoP p e below Φ (T.setTop (mkF m pc Ls st)) := by
  obtain ⟨cq, kq, qa, qb, qc⟩ := isOf hZ eT E
  obtain ⟨v, _, ⟨T', L', k', n'⟩, -, X', ⟨L, hQ, l1, y1, z1⟩, st'⟩ := X.virtualBack hx (y := y) (z := y) hown (mvT hZ w1) (mvT hZ w2) (notFace_of_selects (args := #[]) (mvT hZ w5)) (mvT hZ w5) (mvT hZ w6) hy (backOf (W := W) hM hZ w4 w3 hf hl) qa qc (g := mkF m pc Ls st) rfl hml (Steps.refl _) (argsL := argsL) (rest := rest) hlen hst (by show 2 * 0 + _ ≤ _; omega) (hb hby hd) (fun _ _ => ⟨rfl, eT, hc, hs⟩)
  dsimp only [Pt.U, Pt.locs, Pt.cells, Pt.slots] at X' l1 y1 z1 st' hQ
  subst l1 y1 z1 hp
  exact own_trans st' (k _ _ _ X' hQ)
theorem own_callF (X : Stand p l e R s m args below meth c T locs cells slots) (hx : p.tables.exec = Jvm.exec) (hby : c.code = bytes) (hZ : Z.Warmed39 s.vm) (hml : Ls.size = c.maxLocals) {own : String} {index : Nat} {x0 y : MethodName} (hown : s.vm.findClass own = some m.cls) {count : Nat} {C : String} {b : Addr} (w1 : (Jvm.Cond.methodLink own index x0).before a0 Z = true) (w2 : (Jvm.Cond.declares x0).before a0 Z = true) (w7 : (Jvm.Cond.interfaceMethod x0.cls x0.cls x0.name x0.desc).before a0 Z = true) (w5 : (Jvm.Cond.selects C x0 y).before a0 Z = true) (w6 : (Jvm.Cond.instanceMethod y).before a0 Z = true) (w8 : (Jvm.Cond.publicMethod y).before a0 Z = true) (w9 : (Jvm.Cond.unhidden C x0.name x0.desc).before a0 Z = true) (w10 : (Jvm.Cond.castable C x0.cls).before a0 Z = true) (w3 : (Jvm.Cond.initialized y.cls).before a0 Z = true) (q7 : ((Jvm.Cond.interfaceMethod x0.cls x0.cls x0.name x0.desc).onTables && (Jvm.Cond.interfaceMethod x0.cls x0.cls x0.name x0.desc).keepsFace) = true) {bytes' : ByteArray} {maxL : Nat} {ret : Option FieldType} (w4 : (Jvm.Cond.code y bytes' maxL ret).before a0 Z = true) (hy : x0.cls ≠ "java/lang/invoke/MethodHandle" ∧ x0.cls ≠ "java/lang/invoke/VarHandle") {rm : Room} {Q : Option Value → Heap → List Loc → Prop} (eT : T.heap = h) (W : Nat) (hf : rm.frames + 1 ≤ R.frames) (hl : W + (maxL + 11) + rm.locals ≤ R.locals) (hc : cells + rm.cells ≤ R.cells) (hs : slots + rm.slots ≤ R.slots) {argsL rest : List Value} {st : List Value} (hlen : ∀ sig, parseMethodDescriptor x0.desc = some sig → argsL.length = sig.parameters.length) (hst : st = argsL.reverse ++ .ref b :: rest) (hW : (rest.map fun v => v.category).sum ≤ W) (E : Exa Z h b C) (hM : Con l Z y bytes' maxL ret [] rm (.ref b :: argsL).toArray h Q) (hd : decode bytes pc = .ok (.invokeinterface index count, 5)) (hp : pc + 5 = pc') (k : ∀ (v : Option Value) (T' : State) (L : List Loc), Stand p l e R s m args below meth c T' (locs ++ L) (cells + rm.cells) (slots + rm.slots) → Q v T'.heap L → GoP p e below Φ (T'.setTop (mkF m pc' Ls (v.toList ++ rest)))) : GoP p e below Φ (T.setTop (mkF m pc Ls st)) := by
  obtain ⟨cq, kq, qa, qb, qc⟩ := isOf hZ eT E
  obtain ⟨v, _, ⟨T', L', k', n'⟩, -, X', ⟨L, hQ, l1, y1, z1⟩, st'⟩ := X.interfaceBack hx (xi := x0) (y := y) hown (mvT hZ w1) (mvT hZ w2) (mvT hZ w7 q7) (mvT hZ w5) (mvT hZ w6) (mvT hZ w8) (mvT hZ w9) (mvT hZ w10) hy (backOf (W := W) hM hZ w4 w3 hf hl) qa qb qc (g := mkF m pc Ls st) rfl hml (Steps.refl _) (argsL := argsL) (rest := rest) hlen hst (by show 2 * 0 + _ ≤ _; omega) (hb hby hd) (fun _ _ => ⟨rfl, eT, hc, hs⟩)
  dsimp only [Pt.U, Pt.locs, Pt.cells, Pt.slots] at X' l1 y1 z1 st' hQ
  subst l1 y1 z1 hp
  exact own_trans st' (k _ _ _ X' hQ)
theorem own_callP (X : Stand p l e R s m args below meth c T locs cells slots) (hx : p.tables.exec = Jvm.exec) (hby : c.code = bytes) (hZ : Z.Warmed39 s.vm) (hml : Ls.size = c.maxLocals) {own : String} {index : Nat} {y : MethodName} (hown : s.vm.findClass own = some m.cls) {C : String} {b : Addr} (w1 : (Jvm.Cond.methodLink own index y).before a0 Z = true) (w2 : (Jvm.Cond.privateMethod y).before a0 Z = true) (w5 : (Jvm.Cond.selects y.cls y y).before a0 Z = true) (w6 : (Jvm.Cond.instanceMethod y).before a0 Z = true) (w3 : (Jvm.Cond.initialized y.cls).before a0 Z = true) {bytes' : ByteArray} {maxL : Nat} {ret : Option FieldType} (w4 : (Jvm.Cond.code y bytes' maxL ret).before a0 Z = true) (hy : y.cls ≠ "java/lang/invoke/MethodHandle" ∧ y.cls ≠ "java/lang/invoke/VarHandle") {rm : Room} {Q : Option Value → Heap → List Loc → Prop} (eT : T.heap = h) (W : Nat) (hf : rm.frames + 1 ≤ R.frames) (hl : W + (maxL + 11) + rm.locals ≤ R.locals) (hc : cells + rm.cells ≤ R.cells) (hs : slots + rm.slots ≤ R.slots) {argsL rest : List Value} {st : List Value} (hlen : ∀ sig, parseMethodDescriptor y.desc = some sig → argsL.length = sig.parameters.length) (hst : st = argsL.reverse ++ .ref b :: rest) (hW : (rest.map fun v => v.category).sum ≤ W) (E : Exa Z h b C) (hM : Con l Z y bytes' maxL ret [] rm (.ref b :: argsL).toArray h Q) (hd : decode bytes pc = .ok (.invokevirtual index, 3)) (hp : pc + 3 = pc') (k : ∀ (v : Option Value) (T' : State) (L : List Loc), Stand p l e R s m args below meth c T' (locs ++ L) (cells + rm.cells) (slots + rm.slots) → Q v T'.heap L → GoP p e below Φ (T'.setTop (mkF m pc' Ls (v.toList ++ rest)))) : GoP p e below Φ (T.setTop (mkF m pc Ls st)) := by
  obtain ⟨cq, q1, q2⟩ := E.cell
  obtain ⟨v, _, ⟨T', L', k', n'⟩, -, X', ⟨L, hQ, l1, y1, z1⟩, st'⟩ := X.privateBack hx (y := y) hown (mvT hZ w1) (mvT hZ w6) (mvT hZ w5) (Cond.privateMethod_at (mvP hZ w2 (args := #[]))) (mvT hZ w4) hy (backOf (W := W) hM hZ w4 w3 hf hl) (g := mkF m pc Ls st) rfl hml (Steps.refl _) (a := b) (by rw [eT]; exact q1) q2 (argsL := argsL) (rest := rest) hlen hst (by show 2 * 0 + _ ≤ _; omega) (hb hby hd) (fun _ _ => ⟨rfl, eT, hc, hs⟩)
  dsimp only [Pt.U, Pt.locs, Pt.cells, Pt.slots] at X' l1 y1 z1 st' hQ
  subst l1 y1 z1 hp
  exact own_trans st' (k _ _ _ X' hQ)
theorem own_stakeep {C n d : String} {w : Value} {h' : Heap} {ws : List Addr} (F : Sta Z h C n d w) (K : Keep h h' ws) (q : ∀ x ∈ ws, ∀ c : Cell, h[x]? = some c → c.vm.isStatics = false) : Sta Z h' C n d w := by
  obtain ⟨cf, i, k, f, st, cell, h1, h2, h3, h4, h5, h6, h7⟩ := F
  exact ⟨cf, i, k, f, st, cell, h1, h2, h3, h4, K.2.1 st cell h5 (fun y => by rw [q st y cell h5] at h6; cases h6), h6, h7⟩
theorem own_plainE {a : Addr} {C : String} (F : Exa Z h a C) : ∀ c : Cell, h[a]? = some c → c.vm.isStatics = false := fun c hc => by
  obtain ⟨cell, k, h1, h2, h3, h4, -⟩ := F
  cases hc.symm.trans h1; exact h4
/-- an int array of length n, of whatever ints -/
def IA (Z : State) (h : Heap) (a : Addr) (n : Int32) : Prop := ∃ cl : Cell, Arr Z h a cl .int ∧ cl.slots.size = n.toNatClampNeg ∧ ¬ n < 0 ∧ ∀ i, i < cl.slots.size → ∃ x, cl.slots[i]? = some (.int x)
theorem IA.lt {a : Addr} {n : Int32} (F : IA Z h a n) : a < h.size := by obtain ⟨cl, A, -⟩ := F; exact A.lt
theorem IA.ext {a : Addr} {n : Int32} {h' : Heap} (F : IA Z h a n) (E : Ext h h') : IA Z h' a n := by obtain ⟨cl, A, r⟩ := F; exact ⟨cl, A.ext E, r⟩
theorem IA.other {a b : Addr} {n : Int32} {h' : Heap} {sl : Nat} {v : Value} (F : IA Z h b n) (W : Wr h h' a sl v) (q : b ≠ a) : IA Z h' b n := by obtain ⟨cl, A, r⟩ := F; exact ⟨cl, A.other W q, r⟩
theorem IA.keep {a : Addr} {n : Int32} {h' : Heap} {ws : List Addr} (F : IA Z h a n) (K : Keep h h' ws) (q : a ∉ ws) : IA Z h' a n := by obtain ⟨cl, A, r⟩ := F; exact ⟨cl, ⟨K.2.1 a cl A.1 q, A.2⟩, r⟩
theorem IA.plain {a : Addr} {n : Int32} (F : IA Z h a n) : ∀ c : Cell, h[a]? = some c → c.vm.isStatics = false := fun c hc => by
  obtain ⟨cl, A, -⟩ := F
  cases hc.symm.trans A.1; exact A.plain
theorem IA.arv {a : Addr} {n : Int32} (F : IA Z h a n) : ∃ k vs, Arv Z h a k .int n vs (.int 0) ∧ vs.length = n.toNatClampNeg := by
  obtain ⟨cl, A, S, N, H⟩ := F
  have q : ∀ i, i < cl.slots.size → cl.slots[i]? = some (cl.slots.toList.getD i (.int 0)) := fun i hi => by
    rw [List.getD_eq_getElem?_getD, Array.getElem?_toList, Array.getElem?_eq_getElem hi]; rfl
  refine ⟨cl.cls, cl.slots.toList, ⟨cl, A, rfl, S, N, q, fun i hi => ?_⟩, by rw [Array.length_toList]; exact S⟩
  obtain ⟨x, hx⟩ := H i hi
  rw [← Option.some.inj ((hx.symm.trans (q i hi)))]; rfl
theorem IA.of {a : Addr} {n : Int32} {k : ClassId} {vs : List Value} {d : Value} (F : Arv Z h a k .int n vs d) : IA Z h a n := by
  obtain ⟨cl, A, -, S, N, H, G⟩ := F
  refine ⟨cl, A, S, N, fun i hi => ?_⟩
  obtain ⟨x, hx⟩ := fit_I (G i hi) (Or.inl rfl)
  exact ⟨x, by rw [H i hi, hx]⟩
theorem own_ltI {x y : Int32} (q : x.toInt < y.toInt) : x < y := Int32.lt_iff_toInt_lt.mpr q
theorem own_geI {x y : Int32} (q : y.toInt ≤ x.toInt) : ¬ x < y := fun u => by rw [Int32.lt_iff_toInt_lt] at u; omega
theorem own_add32 {x y : Int32} {k : Int} (q : x.toInt + y.toInt = k) (h1 : -2147483648 ≤ k) (h2 : k < 2147483648) : (x + y).toInt = k := by
  have a := c_iadd x y; have b := rng32 (x + y); omega
theorem IA.new {a : Addr} {k : ClassId} {n : Int32} (A : Arr Z h a (newA k .int n) .int) (q : ¬ n < 0) : IA Z h a n :=
  ⟨_, A, sz_new _ _ _, q, fun i hi => ⟨0, by simp [newA] at hi ⊢; simp [defaultValue, hi]⟩⟩
end OwnKit
section OwnKitV
variable {p : Program} {l : Launch} {e : Env} {R : Room} {s : State} {m : MethodId} {args : Array Value} {below : List Frame} {meth : Method} {c : Code} {T : State} {locs : List Loc} {cells slots : Nat} {bytes : ByteArray} {Φ : State → Prop} {pc pc' : Nat} {Ls Ls' : Array Slot} {rest : List Value} {Z : State} {a0 : Array Value} {h h' : Heap} {a b : Addr} {ty : FieldType} {vs : List Value} {v w : Value} {i : Nat}
/-- the array at a, of components ty, holds just vs -/
def AV (Z : State) (h : Heap) (a : Addr) (ty : FieldType) (vs : List Value) : Prop := ∃ cl : Cell, Arr Z h a cl ty ∧ cl.slots.toList = vs ∧ vs.length < 2 ^ 31
theorem AV.lt (F : AV Z h a ty vs) : a < h.size := by obtain ⟨cl, A, -⟩ := F; exact A.lt
theorem AV.ext (F : AV Z h a ty vs) (E : Ext h h') : AV Z h' a ty vs := by obtain ⟨cl, A, r⟩ := F; exact ⟨cl, A.ext E, r⟩
theorem AV.other (F : AV Z h b ty vs) (W : Wr h h' a i v) (q : b ≠ a) : AV Z h' b ty vs := by obtain ⟨cl, A, r⟩ := F; exact ⟨cl, A.other W q, r⟩
theorem AV.keep {ws : List Addr} (F : AV Z h a ty vs) (K : Keep h h' ws) (q : a ∉ ws) : AV Z h' a ty vs := by obtain ⟨cl, A, r⟩ := F; exact ⟨cl, ⟨K.2.1 a cl A.1 q, A.2⟩, r⟩
theorem AV.same (F : AV Z h a ty vs) (W : Wr h h' a i v) : AV Z h' a ty (vs.set i v) := by
  obtain ⟨cl, A, r1, r2⟩ := F
  exact ⟨_, A.same W, by rw [← r1]; simp [Cell.setSlot], by rw [List.length_set]; exact r2⟩
theorem AV.plain (F : AV Z h a ty vs) : ∀ c : Cell, h[a]? = some c → c.vm.isStatics = false := fun c hc => by
  obtain ⟨cl, A, -⟩ := F
  cases hc.symm.trans A.1; exact A.plain
theorem AV.new {k : ClassId} {n : Int32} (A : Arr Z h a (newA k ty n) ty) (q : ¬ n < 0) : AV Z h a ty (List.replicate n.toNatClampNeg (defaultValue ty)) :=
  ⟨_, A, by simp [newA], by rw [List.length_replicate]; exact (back32 q).2⟩
theorem own_inb {cl : Cell} {j : Int32} (r : cl.slots.toList = vs) (h0 : ¬ j < 0) (hl : j.toNatClampNeg < vs.length) : ¬ (j < 0 ∨ cl.slots.size ≤ j.toNatClampNeg) := fun q => q.elim h0 fun y => by
  rw [← r, Array.length_toList] at hl; omega
theorem own_get {cl : Cell} {j : Nat} (r : cl.slots.toList = vs) (hv : vs[j]? = some v) : cl.slots[j]? = some v := by rw [← Array.getElem?_toList, r]; exact hv
theorem own_lt {j : Nat} (hv : vs[j]? = some v) : j < vs.length := (List.getElem?_eq_some_iff.mp hv).1
theorem own_iaload (X : Stand p l e R s m args below meth c T locs cells slots) (hx : p.tables.exec = Jvm.exec) (hby : c.code = bytes) (hZ : Z.Warmed39 s.vm) (eT : T.heap = h) {j : Int32} (F : AV Z h a .int vs) (h0 : ¬ j < 0) (hv : vs[j.toNatClampNeg]? = some v) (hd : decode bytes pc = .ok (.iaload, 1)) (hp : pc + 1 = pc') (k : GoP p e below Φ (T.setTop (mkF m pc' Ls (v :: rest)))) : GoP p e below Φ (T.setTop (mkF m pc Ls (.int j :: .ref a :: rest))) := by
  subst hp
  obtain ⟨cl, A, r1, r2⟩ := F
  exact own_step (fun t u => X.iaload hx (j := j) (v := v) (by rw [eT]; exact A.1) (State.isArrayOf_alike hZ.alike A.2.1) A.2.2 (own_inb r1 h0 (own_lt hv)) (own_get r1 hv) (g := mkF m pc Ls (.int j :: .ref a :: rest)) rfl rfl (hb hby hd) t u) k
theorem own_laload (X : Stand p l e R s m args below meth c T locs cells slots) (hx : p.tables.exec = Jvm.exec) (hby : c.code = bytes) (hZ : Z.Warmed39 s.vm) (eT : T.heap = h) {j : Int32} (F : AV Z h a .long vs) (h0 : ¬ j < 0) (hv : vs[j.toNatClampNeg]? = some v) (hd : decode bytes pc = .ok (.laload, 1)) (hp : pc + 1 = pc') (k : GoP p e below Φ (T.setTop (mkF m pc' Ls (v :: rest)))) : GoP p e below Φ (T.setTop (mkF m pc Ls (.int j :: .ref a :: rest))) := by
  subst hp
  obtain ⟨cl, A, r1, r2⟩ := F
  exact own_step (fun t u => X.laload hx (j := j) (v := v) (by rw [eT]; exact A.1) (State.isArrayOf_alike hZ.alike A.2.1) A.2.2 (own_inb r1 h0 (own_lt hv)) (own_get r1 hv) (g := mkF m pc Ls (.int j :: .ref a :: rest)) rfl rfl (hb hby hd) t u) k
theorem own_aaload (X : Stand p l e R s m args below meth c T locs cells slots) (hx : p.tables.exec = Jvm.exec) (hby : c.code = bytes) (hZ : Z.Warmed39 s.vm) (eT : T.heap = h) {j : Int32} (F : AV Z h a ty vs) (hr : ty.isReference = true) (h0 : ¬ j < 0) (hv : vs[j.toNatClampNeg]? = some v) (hd : decode bytes pc = .ok (.aaload, 1)) (hp : pc + 1 = pc') (k : GoP p e below Φ (T.setTop (mkF m pc' Ls (v :: rest)))) : GoP p e below Φ (T.setTop (mkF m pc Ls (.int j :: .ref a :: rest))) := by
  subst hp
  obtain ⟨cl, A, r1, r2⟩ := F
  exact own_step (fun t u => X.aaload hx (j := j) (v := v) (by rw [eT]; exact A.1) (State.isArrayOf_alike hZ.alike A.2.1) hr A.2.2 (own_inb r1 h0 (own_lt hv)) (own_get r1 hv) (g := mkF m pc Ls (.int j :: .ref a :: rest)) rfl rfl (hb hby hd) t u) k
theorem own_alen (X : Stand p l e R s m args below meth c T locs cells slots) (hx : p.tables.exec = Jvm.exec) (hby : c.code = bytes) (hZ : Z.Warmed39 s.vm) (eT : T.heap = h) {n : Int32} (F : AV Z h a ty vs) (hn : Int32.ofNat vs.length = n) (hd : decode bytes pc = .ok (.arraylength, 1)) (hp : pc + 1 = pc') (k : GoP p e below Φ (T.setTop (mkF m pc' Ls (.int n :: rest)))) : GoP p e below Φ (T.setTop (mkF m pc Ls (.ref a :: rest))) := by
  subst hp
  obtain ⟨cl, A, r1, r2⟩ := F
  have q : cl.slots.size.toInt32 = n := by rw [← hn, ← r1, Array.length_toList]
  rw [← q] at k
  exact own_step (fun t u => X.arraylength hx (by rw [eT]; exact A.1) (State.isArrayOf_alike hZ.alike A.2.1) (g := mkF m pc Ls (.ref a :: rest)) rfl rfl (hb hby hd) t u) k
theorem own_iastore (X : Stand p l e R s m args below meth c T locs cells slots) (hx : p.tables.exec = Jvm.exec) (hby : c.code = bytes) (hZ : Z.Warmed39 s.vm) (eT : T.heap = h) {j : Int32} {x : Int32} (F : AV Z h a .int vs) (h0 : ¬ j < 0) (hl : j.toNatClampNeg < vs.length) (hd : decode bytes pc = .ok (.iastore, 1)) (hp : pc + 1 = pc') (k : ∀ (T' : State) (h' : Heap), Stand p l e R s m args below meth c T' (locs ++ [⟨a, j.toNatClampNeg⟩]) cells slots → T'.heap = h' → Wr h h' a j.toNatClampNeg (.int x) → AV Z h' a .int (vs.set j.toNatClampNeg (.int x)) → GoP p e below Φ (T'.setTop (mkF m pc' Ls rest))) : GoP p e below Φ (T.setTop (mkF m pc Ls ((.int x) :: .int j :: .ref a :: rest))) := by
  subst hp
  obtain ⟨cl, A, r1, r2⟩ := F
  obtain ⟨T', h', X', e', W', st'⟩ := stI X hx hZ eT A (j := j) (x := x) (own_inb r1 h0 hl) (g := mkF m pc Ls ((.int x) :: .int j :: .ref a :: rest)) rfl rfl (hb hby hd)
  exact own_step st' (k T' h' X' e' W' (AV.same ⟨cl, A, r1, r2⟩ W'))
theorem own_lastore (X : Stand p l e R s m args below meth c T locs cells slots) (hx : p.tables.exec = Jvm.exec) (hby : c.code = bytes) (hZ : Z.Warmed39 s.vm) (eT : T.heap = h) {j : Int32} {x : Int64} (F : AV Z h a .long vs) (h0 : ¬ j < 0) (hl : j.toNatClampNeg < vs.length) (hd : decode bytes pc = .ok (.lastore, 1)) (hp : pc + 1 = pc') (k : ∀ (T' : State) (h' : Heap), Stand p l e R s m args below meth c T' (locs ++ [⟨a, j.toNatClampNeg⟩]) cells slots → T'.heap = h' → Wr h h' a j.toNatClampNeg (.long x) → AV Z h' a .long (vs.set j.toNatClampNeg (.long x)) → GoP p e below Φ (T'.setTop (mkF m pc' Ls rest))) : GoP p e below Φ (T.setTop (mkF m pc Ls ((.long x) :: .int j :: .ref a :: rest))) := by
  subst hp
  obtain ⟨cl, A, r1, r2⟩ := F
  obtain ⟨T', h', X', e', W', st'⟩ := stJ X hx hZ eT A (j := j) (x := x) (own_inb r1 h0 hl) (g := mkF m pc Ls ((.long x) :: .int j :: .ref a :: rest)) rfl rfl (hb hby hd)
  exact own_step st' (k T' h' X' e' W' (AV.same ⟨cl, A, r1, r2⟩ W'))
theorem AV.of {k : ClassId} {n : Int32} {d : Value} (F : Arv Z h a k ty n vs d) (q : vs.length = n.toNatClampNeg) : AV Z h a ty vs := by
  obtain ⟨cl, A, -, S, N, H, G⟩ := F
  refine ⟨cl, A, List.ext_getElem? fun i => ?_, by rw [q]; exact (back32 N).2⟩
  rw [Array.getElem?_toList]
  by_cases hi : i < cl.slots.size
  · rw [H i hi, List.getElem?_eq_getElem (by rw [q, ← S]; exact hi), List.getD_eq_getElem?_getD, List.getElem?_eq_getElem (by rw [q, ← S]; exact hi)]; rfl
  · rw [Array.getElem?_eq_none (Nat.le_of_not_lt hi), List.getElem?_eq_none (by rw [q, ← S]; exact Nat.le_of_not_lt hi)]
end OwnKitV
section OwnKitR
variable {p : Program} {l : Launch} {e : Env} {R : Room} {s : State} {m : MethodId} {args : Array Value} {below : List Frame} {meth : Method} {c : Code} {T : State} {locs : List Loc} {cells slots : Nat} {bytes : ByteArray} {Φ : State → Prop} {pc pc' : Nat} {Ls Ls' : Array Slot} {rest : List Value} {Z : State} {a0 : Array Value} {h h' : Heap} {a b y : Addr} {ty : FieldType} {vs vd : List Value} {v w : Value} {i : Nat} {C : String}
/-- the array at a is one of components of the class C -/
def CM (Z : State) (h : Heap) (a : Addr) (C : String) : Prop := ∃ cl : Cell, h[a]? = some cl ∧ (Ovr Z cl.cls C ∨ ∃ ty, OvrA Z cl.cls ty C)
theorem CM.lt (F : CM Z h a C) : a < h.size := by obtain ⟨cl, q, -⟩ := F; exact (Array.getElem?_eq_some_iff.mp q).1
theorem CM.ext (F : CM Z h a C) (E : Ext h h') : CM Z h' a C := by obtain ⟨cl, q, O⟩ := F; exact ⟨cl, E.2 _ _ q, O⟩
theorem CM.wr (F : CM Z h a C) (W : Wr h h' b i v) : CM Z h' a C := by
  obtain ⟨cl, q, O⟩ := F
  obtain ⟨c', e1, e2, -⟩ := wr_at W q
  exact ⟨c', e1, by rw [e2]; exact O⟩
theorem CM.keep {ws : List Addr} (F : CM Z h a C) (K : Keep h h' ws) : CM Z h' a C := by
  obtain ⟨cl, q, O⟩ := F
  obtain ⟨c', e1, e2, -⟩ := K.2.2 _ _ q
  exact ⟨c', e1, by rw [e2]; exact O⟩
theorem own_sto (F : AV Z h a ty vs) (M : CM Z h a C) (I : Ins Z h y C true) : Sto Z h a (.ref y) := by
  obtain ⟨cl, A, -⟩ := F
  obtain ⟨cl', q, O⟩ := M
  cases A.1.symm.trans q
  rcases O with O | ⟨ty', O⟩
  · exact Sto.of A O I
  · exact Sto.ofVA A rfl O I
theorem AV.arv (F : AV Z h a ty vs) (d : Value) (q : vs.all (fits ty) = true) : ∃ k, Arv Z h a k ty (Int32.ofNat vs.length) vs d := by
  obtain ⟨cl, A, r1, r2⟩ := F
  have S : cl.slots.size = vs.length := by rw [← r1, Array.length_toList]
  have N : (Int32.ofNat vs.length).toInt = vs.length := Int32.toInt_ofNat_small r2
  have Nn : (Int32.ofNat vs.length).toNatClampNeg = vs.length := by simp only [Int32.toNatClampNeg]; omega
  have z0 : (0 : Int32).toInt = 0 := by decide
  refine ⟨cl.cls, cl, A, rfl, by rw [Nn, S], fun u => by rw [Int32.lt_iff_toInt_lt, N, z0] at u; omega, fun i hi => ?_, fun i hi => ?_⟩
  · rw [← Array.getElem?_toList, r1, List.getD_eq_getElem?_getD, List.getElem?_eq_getElem (by rw [← S]; exact hi)]; rfl
  · rw [List.getD_eq_getElem?_getD, List.getElem?_eq_getElem (by rw [← S]; exact hi)]
    exact List.all_eq_true.mp q _ (List.getElem_mem _)
theorem AV.len (F : AV Z h a ty vs) : (Int32.ofNat vs.length).toNatClampNeg = vs.length := by
  obtain ⟨cl, A, r1, r2⟩ := F
  have N : (Int32.ofNat vs.length).toInt = vs.length := Int32.toInt_ofNat_small r2
  simp only [Int32.toNatClampNeg]; omega
theorem own_aastore (X : Stand p l e R s m args below meth c T locs cells slots) (hx : p.tables.exec = Jvm.exec) (hby : c.code = bytes) (hZ : Z.Warmed39 s.vm) (eT : T.heap = h) {j : Int32} (F : AV Z h a ty vs) (hr : ty.isReference = true) (hS : Sto Z h a v) (h0 : ¬ j < 0) (hl : j.toNatClampNeg < vs.length) (hd : decode bytes pc = .ok (.aastore, 1)) (hp : pc + 1 = pc') (k : ∀ (T' : State) (h' : Heap), Stand p l e R s m args below meth c T' (locs ++ [⟨a, j.toNatClampNeg⟩]) cells slots → T'.heap = h' → Wr h h' a j.toNatClampNeg v → AV Z h' a ty (vs.set j.toNatClampNeg v) → GoP p e below Φ (T'.setTop (mkF m pc' Ls rest))) : GoP p e below Φ (T.setTop (mkF m pc Ls (v :: .int j :: .ref a :: rest))) := by
  subst hp
  obtain ⟨cl, A, r1, r2⟩ := F
  obtain ⟨T', h', X', e', W', st'⟩ := stR X hx hZ eT A (j := j) (v := v) (own_inb r1 h0 hl) hr hS (g := mkF m pc Ls (v :: .int j :: .ref a :: rest)) rfl rfl (hb hby hd)
  exact own_step st' (k T' h' X' e' W' (AV.same ⟨cl, A, r1, r2⟩ W'))
theorem own_newR (X : Stand p l e R s m args below meth c T locs cells slots) (hx : p.tables.exec = Jvm.exec) (hby : c.code = bytes) (hZ : Z.Warmed39 s.vm) {own : String} {index : Nat} (hown : s.vm.findClass own = some m.cls) (w1 : (Jvm.Cond.classLink own index C).before a0 Z = true) (w2 : (Jvm.Cond.arrayOver (.object C)).before a0 Z = true) (eT : T.heap = h) {n : Int32} (hn : ¬ n < 0) (cap : Nat) (hcap : n.toNatClampNeg ≤ cap) (hbb : cap * 8 ≤ 536870912) (hc : cells + 1 ≤ R.cells) (hl : slots + cap ≤ R.slots) (hd : decode bytes pc = .ok (.anewarray index, 3)) (hp : pc + 3 = pc')
    (k : ∀ (T' : State) (h' : Heap) (b : Addr), Stand p l e R s m args below meth c T' locs (cells + 1) (slots + cap) → T'.heap = h' → Ext h h' → b = h.size → AV Z h' b (.object C) (List.replicate n.toNatClampNeg .null) → CM Z h' b C → GoP p e below Φ (T'.setTop (mkF m pc' Ls (.ref b :: rest)))) : GoP p e below Φ (T.setTop (mkF m pc Ls (.int n :: rest))) := by
  subst hp
  obtain ⟨T', h', cA, X', e', E', A', O', st'⟩ := newR X hx hZ hown w1 w2 eT (g := mkF m pc Ls (.int n :: rest)) rfl (hb hby hd) rfl hn hcap hbb hc hl
  exact own_step st' (k T' h' _ X' e' E' rfl (AV.new A' hn) ⟨_, A'.1, Or.inl O'⟩)
theorem own_copyV (X : Stand p l e R s m args below meth c T locs cells slots) (hx : p.tables.exec = Jvm.exec) (hby : c.code = bytes) {dv : Value} (hZ : Z.Warmed39 s.vm) (hml : Ls.size = c.maxLocals) {own : String} {index : Nat} (hown : s.vm.findClass own = some m.cls) (w1 : (Jvm.Cond.methodLink own index Jvm.Stand.acN).before a0 Z = true) (w2 : (Jvm.Cond.native Jvm.Stand.acN).before a0 Z = true) (w3 : (Jvm.Cond.static Jvm.Stand.acN).before a0 Z = true) (w4 : (Jvm.Cond.initialized "java/lang/System").before a0 Z = true) (eT : T.heap = h) {sp dp nn : Int32} (A : AV Z h a ty vs) (B : AV Z h b ty vd) (qa : vs.all (fits ty) = true) (qb : vd.all (fits ty) = true) (hk : refKind ty = false) (h1 : ¬ sp < 0) (h2 : ¬ dp < 0) (h3 : ¬ nn < 0) (h4 : sp.toNatClampNeg + nn.toNatClampNeg ≤ vs.length) (h5 : dp.toNatClampNeg + nn.toNatClampNeg ≤ vd.length) {n0 : Nat} (N : Fr n0 locs) (ge : n0 ≤ b) (hf : 1 ≤ R.frames) (W : Nat) (hW : (rest.map fun v => v.category).sum ≤ W) (hlo : W + (nativeFrameWords "java/lang/System" "arraycopy" 5 + 11) ≤ R.locals) (hd : decode bytes pc = .ok (.invokestatic index, 3)) (hp : pc + 3 = pc') (k : ∀ (T' : State) (h' : Heap) (L : List Loc), Stand p l e R s m args below meth c T' L cells slots → T'.heap = h' → Fr n0 L → Keep h h' [b] → AV Z h' b ty (vd.take dp.toNatClampNeg ++ (List.range nn.toNatClampNeg).map (fun i => vs.getD (sp.toNatClampNeg + i) dv) ++ vd.drop (dp.toNatClampNeg + nn.toNatClampNeg)) → GoP p e below Φ (T'.setTop (mkF m pc' Ls rest))) : GoP p e below Φ (T.setTop (mkF m pc Ls (.int nn :: .int dp :: .ref b :: .int sp :: .ref a :: rest))) := by
  subst hp
  obtain ⟨k1, Av⟩ := A.arv dv qa
  obtain ⟨k2, Bv⟩ := B.arv dv qb
  obtain ⟨T', h', L, X', e', N', K', B', st'⟩ := cpA X hx hZ hown w1 w2 w3 w4 eT Av Bv (Or.inl ⟨rfl, hk⟩) h1 h2 h3 (by rw [A.len]; exact h4) (by rw [B.len]; exact h5) rfl h5 N ge (g := mkF m pc Ls (.int nn :: .int dp :: .ref b :: .int sp :: .ref a :: rest)) rfl hml rfl (hb hby hd) hf (W := W) (by show 2 * 0 + _ ≤ _; omega) hlo
  refine own_step st' (k T' h' L X' e' N' K' (AV.of B' ?_))
  rw [B.len, List.length_append, List.length_append, List.length_map, List.length_range, List.length_take, List.length_drop]; omega
theorem own_empty {cl : Cell} {t : Term} (ev : t.eval args s none [] s = some (.ref a)) (A : Arr s s.heap a cl ty) (q : (Jvm.Cond.eq (Jvm.Term.length t) (Jvm.Term.int 0)).value args s none s [] = some true) : AV s s.heap a ty [] := by
  obtain ⟨x, y, e1, e2, k1, k2⟩ := cmp_v (Or.inl q)
  have ey : y = .int 0 := Option.some.inj (e2.symm.trans (Term.int_eval 0))
  subst ey
  obtain ⟨z, rfl⟩ : ∃ z, x = .int z := k2
  have ez : z = 0 := by simpa [Cond.value, e1, e2] using q
  subst ez
  have hA : s.arrayAt? a = some cl := A.fin (Vm.Alike.refl _)
  simp [Term.eval, ev, hA] at e1
  have e3 : (Int32.ofNat cl.slots.size).toInt = cl.slots.size := Int32.toInt_ofNat_small (by omega)
  have e4 : (Int32.ofNat cl.slots.size) = 0 := e1.2
  have z0 : (0 : Int32).toInt = 0 := by decide
  rw [e4, z0] at e3
  exact ⟨cl, A, List.length_eq_zero_iff.mp (by rw [Array.length_toList]; omega), by decide⟩
end OwnKitR
section OwnKitD
variable {p : Program} {l : Launch} {e : Env} {R : Room} {s : State} {m : MethodId} {args : Array Value} {below : List Frame} {meth : Method} {c : Code} {T : State} {locs : List Loc} {cells slots : Nat} {bytes : ByteArray} {Φ : State → Prop} {pc pc' : Nat} {Ls Ls' : Array Slot} {rest : List Value} {Z : State} {a0 : Array Value} {h h' : Heap} {a b : Addr} {ty : FieldType} {vs vd : List Value} {v w : Value} {i : Nat} {ys zs : List Int32}
theorem own_dc10l : cmpValue (FP.dcmp FP.dconst1 FP.dconst0) .l = (1 : Int32) := by decide +kernel
theorem own_dc00l : cmpValue (FP.dcmp FP.dconst0 FP.dconst0) .l = (0 : Int32) := by decide +kernel
theorem own_retD (X : Stand p l e R s m args below meth c T locs cells slots) (hx : p.tables.exec = Jvm.exec) (hby : c.code = bytes) {Q : Option Value → State → List Loc → Prop} (fin : Fin p l e R s m args below meth c Q Φ) (hret : meth.sig.returnType = some .double) {z : UInt64} (hd : decode bytes pc = .ok (.dreturn, 1)) (hc : cells ≤ R.cells) (hs : slots ≤ R.slots) (hQ : Q (some (.double z)) T locs) : GoP p e below Φ (T.setTop (mkF m pc Ls (.double z :: rest))) :=
  own_retV X hx hby fin hret rfl (Or.inr (Or.inr (Or.inl ⟨rfl, rfl, z, rfl⟩))) hd hc hs hQ
/-- what stands at j; the list with x at j -/
def own_g (ys : List Int32) (j : Int32) : Int32 := ys.getD j.toNatClampNeg 0
def own_u (ys : List Int32) (j x : Int32) : List Int32 := ys.set j.toNatClampNeg x
theorem own_ulen (ys : List Int32) (j x : Int32) : (own_u ys j x).length = ys.length := List.length_set
theorem own_idx {j : Int32} {k : Nat} (h1 : 0 ≤ j.toInt) (h2 : j.toInt < k) : ¬ j < 0 ∧ j.toNatClampNeg < k :=
  ⟨fun q => by rw [Int32.lt_iff_toInt_lt, show (0 : Int32).toInt = 0 from by decide] at q; omega, by simp only [Int32.toNatClampNeg]; omega⟩
/-- the int array at a holds just ys -/
def LI (Z : State) (h : Heap) (a : Addr) (ys : List Int32) : Prop := AV Z h a .int (ys.map Value.int)
theorem LI.lt (F : LI Z h a ys) : a < h.size := AV.lt F
theorem LI.ext (F : LI Z h a ys) (E : Ext h h') : LI Z h' a ys := AV.ext F E
theorem LI.other (F : LI Z h b ys) (W : Wr h h' a i v) (q : b ≠ a) : LI Z h' b ys := AV.other F W q
theorem LI.keep {ws : List Addr} (F : LI Z h a ys) (K : Keep h h' ws) (q : a ∉ ws) : LI Z h' a ys := AV.keep F K q
theorem LI.plain (F : LI Z h a ys) : ∀ c : Cell, h[a]? = some c → c.vm.isStatics = false := AV.plain F
theorem LI.new {n : Int32} (F : AV Z h a .int (List.replicate n.toNatClampNeg (.int 0))) : LI Z h a (List.replicate n.toNatClampNeg 0) := by
  unfold LI; rw [List.map_replicate]; exact F
theorem own_lget {j : Int32} (hl : j.toNatClampNeg < ys.length) : (ys.map Value.int)[j.toNatClampNeg]? = some (.int (own_g ys j)) := by
  rw [List.getElem?_map, List.getElem?_eq_getElem hl, own_g, List.getD_eq_getElem?_getD, List.getElem?_eq_getElem hl]; rfl
theorem own_cpl {dv : Value} {n : Nat} (q : n ≤ ys.length) : (List.range n).map (fun i => (ys.map Value.int).getD (0 + i) dv) = (ys.take n).map Value.int := by
  apply List.ext_getElem
  · simp only [List.length_map, List.length_range, List.length_take]; omega
  · intro i h1 h2
    simp only [List.length_map, List.length_range] at h1
    have h3 : i < ys.length := by omega
    simp only [List.getElem_map, List.getElem_range, List.getElem_take, Nat.zero_add, List.getD_eq_getElem?_getD, List.getElem?_map, List.getElem?_eq_getElem h3, Option.map_some, Option.getD_some]
/-- the array at a, of components ty, has n of them -/
def LN (Z : State) (h : Heap) (a : Addr) (ty : FieldType) (n : Nat) : Prop := ∃ vs, vs.length = n ∧ AV Z h a ty vs
theorem LN.lt {n : Nat} (F : LN Z h a ty n) : a < h.size := by obtain ⟨vs, -, A⟩ := F; exact A.lt
theorem LN.ext {n : Nat} (F : LN Z h a ty n) (E : Ext h h') : LN Z h' a ty n := by obtain ⟨vs, q, A⟩ := F; exact ⟨vs, q, A.ext E⟩
theorem LN.other {n : Nat} (F : LN Z h b ty n) (W : Wr h h' a i v) (q : b ≠ a) : LN Z h' b ty n := by obtain ⟨vs, q', A⟩ := F; exact ⟨vs, q', A.other W q⟩
theorem LN.keep {n : Nat} {ws : List Addr} (F : LN Z h a ty n) (K : Keep h h' ws) (q : a ∉ ws) : LN Z h' a ty n := by obtain ⟨vs, q', A⟩ := F; exact ⟨vs, q', A.keep K q⟩
theorem LN.plain {n : Nat} (F : LN Z h a ty n) : ∀ c : Cell, h[a]? = some c → c.vm.isStatics = false := by obtain ⟨vs, q', A⟩ := F; exact A.plain
theorem own_ialoadL (X : Stand p l e R s m args below meth c T locs cells slots) (hx : p.tables.exec = Jvm.exec) (hby : c.code = bytes) (hZ : Z.Warmed39 s.vm) (eT : T.heap = h) {j : Int32} (F : LI Z h a ys) (hj : ¬ j < 0 ∧ j.toNatClampNeg < ys.length) (hd : decode bytes pc = .ok (.iaload, 1)) (hp : pc + 1 = pc') (k : GoP p e below Φ (T.setTop (mkF m pc' Ls (.int (own_g ys j) :: rest)))) : GoP p e below Φ (T.setTop (mkF m pc Ls (.int j :: .ref a :: rest))) := own_iaload X hx hby hZ eT F hj.1 (own_lget hj.2) hd hp k
theorem own_iastoreL (X : Stand p l e R s m args below meth c T locs cells slots) (hx : p.tables.exec = Jvm.exec) (hby : c.code = bytes) (hZ : Z.Warmed39 s.vm) (eT : T.heap = h) {j x : Int32} (F : LI Z h a ys) (hj : ¬ j < 0 ∧ j.toNatClampNeg < ys.length) (hd : decode bytes pc = .ok (.iastore, 1)) (hp : pc + 1 = pc') (k : ∀ (T' : State) (h' : Heap), Stand p l e R s m args below meth c T' (locs ++ [⟨a, j.toNatClampNeg⟩]) cells slots → T'.heap = h' → Wr h h' a j.toNatClampNeg (.int x) → LI Z h' a (own_u ys j x) → GoP p e below Φ (T'.setTop (mkF m pc' Ls rest))) : GoP p e below Φ (T.setTop (mkF m pc Ls (.int x :: .int j :: .ref a :: rest))) := own_iastore X hx hby hZ eT F hj.1 (by rw [List.length_map]; exact hj.2) hd hp (fun T' h' X' e' W' A' => k T' h' X' e' W' (by unfold LI own_u; rw [List.map_set]; exact A'))
theorem own_lastoreN (X : Stand p l e R s m args below meth c T locs cells slots) (hx : p.tables.exec = Jvm.exec) (hby : c.code = bytes) (hZ : Z.Warmed39 s.vm) (eT : T.heap = h) {j : Int32} {x : Int64} {n : Nat} (F : LN Z h a .long n) (hj : ¬ j < 0 ∧ j.toNatClampNeg < n) (hd : decode bytes pc = .ok (.lastore, 1)) (hp : pc + 1 = pc') (k : ∀ (T' : State) (h' : Heap), Stand p l e R s m args below meth c T' (locs ++ [⟨a, j.toNatClampNeg⟩]) cells slots → T'.heap = h' → Wr h h' a j.toNatClampNeg (.long x) → LN Z h' a .long n → GoP p e below Φ (T'.setTop (mkF m pc' Ls rest))) : GoP p e below Φ (T.setTop (mkF m pc Ls (.long x :: .int j :: .ref a :: rest))) := by
  obtain ⟨vs, q, A⟩ := F
  exact own_lastore X hx hby hZ eT A hj.1 (by rw [q]; exact hj.2) hd hp (fun T' h' X' e' W' A' => k T' h' X' e' W' ⟨_, by rw [List.length_set]; exact q, A'⟩)
theorem own_dastoreN (X : Stand p l e R s m args below meth c T locs cells slots) (hx : p.tables.exec = Jvm.exec) (hby : c.code = bytes) (hZ : Z.Warmed39 s.vm) (eT : T.heap = h) {j : Int32} {x : UInt64} {n : Nat} (F : LN Z h a .double n) (hj : ¬ j < 0 ∧ j.toNatClampNeg < n) (hd : decode bytes pc = .ok (.dastore, 1)) (hp : pc + 1 = pc') (k : ∀ (T' : State) (h' : Heap), Stand p l e R s m args below meth c T' (locs ++ [⟨a, j.toNatClampNeg⟩]) cells slots → T'.heap = h' → Wr h h' a j.toNatClampNeg (.double x) → LN Z h' a .double n → GoP p e below Φ (T'.setTop (mkF m pc' Ls rest))) : GoP p e below Φ (T.setTop (mkF m pc Ls (.double x :: .int j :: .ref a :: rest))) := by
  subst hp
  obtain ⟨vs, q, cl, A, r1, r2⟩ := F
  obtain ⟨T', h', X', e', W', st'⟩ := stD X hx hZ eT A (j := j) (x := x) (own_inb r1 hj.1 (by rw [q]; exact hj.2)) (g := mkF m pc Ls (.double x :: .int j :: .ref a :: rest)) rfl rfl (hb hby hd)
  exact own_step st' (k T' h' X' e' W' ⟨_, by rw [List.length_set]; exact q, AV.same ⟨cl, A, r1, r2⟩ W'⟩)
theorem own_fitsI (ys : List Int32) : (ys.map Value.int).all (fits .int) = true := List.all_eq_true.mpr fun x hx => by obtain ⟨z, -, rfl⟩ := List.mem_map.mp hx; rfl
theorem own_copyL (X : Stand p l e R s m args below meth c T locs cells slots) (hx : p.tables.exec = Jvm.exec) (hby : c.code = bytes) (hZ : Z.Warmed39 s.vm) (hml : Ls.size = c.maxLocals) {own : String} {index : Nat} (hown : s.vm.findClass own = some m.cls) (w1 : (Jvm.Cond.methodLink own index Jvm.Stand.acN).before a0 Z = true) (w2 : (Jvm.Cond.native Jvm.Stand.acN).before a0 Z = true) (w3 : (Jvm.Cond.static Jvm.Stand.acN).before a0 Z = true) (w4 : (Jvm.Cond.initialized "java/lang/System").before a0 Z = true) (eT : T.heap = h) {nn : Int32} (A : LI Z h a ys) (B : LI Z h b zs) (h3 : ¬ nn < 0) (h4 : nn.toNatClampNeg ≤ ys.length) (h5 : zs.length = nn.toNatClampNeg) {n0 : Nat} (N : Fr n0 locs) (ge : n0 ≤ b) (hf : 1 ≤ R.frames) (W : Nat) (hW : (rest.map fun v => v.category).sum ≤ W) (hlo : W + (nativeFrameWords "java/lang/System" "arraycopy" 5 + 11) ≤ R.locals) (hd : decode bytes pc = .ok (.invokestatic index, 3)) (hp : pc + 3 = pc') (k : ∀ (T' : State) (h' : Heap) (L : List Loc), Stand p l e R s m args below meth c T' L cells slots → T'.heap = h' → Fr n0 L → Keep h h' [b] → LI Z h' b (ys.take nn.toNatClampNeg) → GoP p e below Φ (T'.setTop (mkF m pc' Ls rest))) : GoP p e below Φ (T.setTop (mkF m pc Ls (.int nn :: .int 0 :: .ref b :: .int 0 :: .ref a :: rest))) := by
  refine own_copyV X hx hby (dv := .int 0) hZ hml hown w1 w2 w3 w4 eT (sp := 0) (dp := 0) A B (own_fitsI _) (own_fitsI _) rfl (by decide) (by decide) h3 (by rw [List.length_map]; show 0 + _ ≤ _; omega) (by rw [List.length_map]; show 0 + _ ≤ _; omega) N ge hf W hW hlo hd hp ?_
  intro T' h' L X' e' N' K' B'
  refine k T' h' L X' e' N' K' ?_
  unfold LI
  have q : ((zs.map Value.int).take (0 : Int32).toNatClampNeg ++ (List.range nn.toNatClampNeg).map (fun i => (ys.map Value.int).getD ((0 : Int32).toNatClampNeg + i) (.int 0)) ++ (zs.map Value.int).drop ((0 : Int32).toNatClampNeg + nn.toNatClampNeg)) = (ys.take nn.toNatClampNeg).map Value.int := by
    have z : (0 : Int32).toNatClampNeg = 0 := by decide
    rw [z, List.take_zero, List.nil_append, own_cpl h4, List.drop_eq_nil_of_le (by rw [List.length_map]; omega), List.append_nil]
  rw [← q]; exact B'
end OwnKitD
end Jvm.Pilot.@@N@@
namespace Jvm.Pilot.@@N@@
open Jvm Jvm.ClassFile Sem Op Lib Jvm.Free Jvm.Stand Jvm.LawKit Jvm.RoadKit Bundle Jvm.Pilot.@@N@@.Jvm.D
/-- one more at j -/
def own_inc (ys : List Int32) (j : Int32) : List Int32 := own_u ys j (own_g ys j + (1 : Int32))
theorem own_inclen (ys : List Int32) (j : Int32) : (own_inc ys j).length = ys.length := own_ulen _ _ _
/-- the sums from j on, d steps -/
def own_pre : Nat → Int32 → List Int32 → List Int32
  | 0, _, ys => ys
  | d + 1, j, ys => own_pre d (j + (1 : Int32)) (own_u ys (j + (1 : Int32)) (own_g ys (j + (1 : Int32)) + own_g ys j))
/-- fa's entries from j on, d of them -/
def own_cp (fa : List Int32) : Nat → Int32 → List Int32 → List Int32
  | 0, _, ys => ys
  | d + 1, j, ys => own_cp fa d (j + (1 : Int32)) (own_u ys j (own_g fa j))
theorem own_prelen : ∀ (d : Nat) (j : Int32) (ys : List Int32), (own_pre d j ys).length = ys.length
  | 0, _, _ => rfl
  | d + 1, j, ys => (own_prelen d _ _).trans (own_ulen _ _ _)
def own_fa (n t0 t1 t2 t3 : Int32) : List Int32 := own_pre n.toNatClampNeg (1 : Int32) (own_inc (own_inc (own_inc (own_inc (List.replicate (n + (2 : Int32)).toNatClampNeg 0) (t0 + (1 : Int32))) (t1 + (1 : Int32))) (t2 + (1 : Int32))) (t3 + (1 : Int32)))
def own_nx (n t0 t1 t2 t3 : Int32) : List Int32 := (own_fa n t0 t1 t2 t3).take (n + (1 : Int32)).toNatClampNeg
def own_na (n t0 t1 t2 t3 : Int32) : List Int32 := own_cp (own_fa n t0 t1 t2 t3) n.toNatClampNeg (1 : Int32) (List.replicate (n + (1 : Int32)).toNatClampNeg 0)
/-- the slots that four tails take -/
def own_s0 (ys : List Int32) (t0 : Int32) : Int32 := own_g ys t0
def own_s1 (ys : List Int32) (t0 t1 : Int32) : Int32 := own_g (own_inc ys t0) t1
def own_s2 (ys : List Int32) (t0 t1 t2 : Int32) : Int32 := own_g (own_inc (own_inc ys t0) t1) t2
def own_s3 (ys : List Int32) (t0 t1 t2 t3 : Int32) : Int32 := own_g (own_inc (own_inc (own_inc ys t0) t1) t2) t3
def own_good (a b c d : Int32) : Bool := decide (a ∈ [0, 1, 2, 3]) && decide (b ∈ [0, 1, 2, 3]) && decide (c ∈ [0, 1, 2, 3]) && decide (d ∈ [0, 1, 2, 3]) && decide (a ≠ b) && decide (a ≠ c) && decide (a ≠ d) && decide (b ≠ c) && decide (b ≠ d) && decide (c ≠ d)
def own_chk (n t0 t1 t2 t3 : Int32) : Bool :=
  let f := own_nx n t0 t1 t2 t3
  let w := own_na n t0 t1 t2 t3
  own_good (own_s0 f t0) (own_s1 f t0 t1) (own_s2 f t0 t1 t2) (own_s3 f t0 t1 t2 t3) && decide (own_s0 w t0 = own_s0 f t0) && decide (own_s1 w t0 t1 = own_s1 f t0 t1) && decide (own_s2 w t0 t1 t2 = own_s2 f t0 t1 t2) && decide (own_s3 w t0 t1 t2 t3 = own_s3 f t0 t1 t2 t3)
theorem own_all : ([4, 5, 6, 7] : List Int32).all (fun n => ([1, 2, 3, 4] : List Int32).all fun t0 => ([1, 2, 3, 4] : List Int32).all fun t1 => ([1, 2, 3, 4] : List Int32).all fun t2 => ([1, 2, 3, 4] : List Int32).all fun t3 => own_chk n t0 t1 t2 t3) = true := by decide +kernel
theorem own_sorted {n t0 t1 t2 t3 : Int32} (hn : n ∈ ([4, 5, 6, 7] : List Int32)) (h0 : t0 ∈ ([1, 2, 3, 4] : List Int32)) (h1 : t1 ∈ ([1, 2, 3, 4] : List Int32)) (h2 : t2 ∈ ([1, 2, 3, 4] : List Int32)) (h3 : t3 ∈ ([1, 2, 3, 4] : List Int32)) : own_chk n t0 t1 t2 t3 = true :=
  List.all_eq_true.mp (List.all_eq_true.mp (List.all_eq_true.mp (List.all_eq_true.mp (List.all_eq_true.mp own_all n hn) t0 h0) t1 h1) t2 h2) t3 h3
/-- four heads at four slots, each is found again -/
def own_hd (a b c d x y z w : Int32) : List Int32 := own_u (own_u (own_u (own_u [0, 0, 0, 0] a x) b y) c z) d w
theorem own_found {a b c d : Int32} (q : own_good a b c d = true) (x y z w : Int32) : own_g (own_hd a b c d x y z w) a = x ∧ own_g (own_hd a b c d x y z w) b = y ∧ own_g (own_hd a b c d x y z w) c = z ∧ own_g (own_hd a b c d x y z w) d = w := by
  simp only [own_good, Bool.and_eq_true, decide_eq_true_eq, List.mem_cons, List.not_mem_nil, or_false] at q
  obtain ⟨⟨⟨⟨⟨⟨⟨⟨⟨ha, hb⟩, hc⟩, hd⟩, n1⟩, n2⟩, n3⟩, n4⟩, n5⟩, n6⟩ := q
  rcases ha with rfl | rfl | rfl | rfl <;> rcases hb with rfl | rfl | rfl | rfl <;> first | exact absurd rfl n1 | (rcases hc with rfl | rfl | rfl | rfl <;> first | exact absurd rfl n2 | exact absurd rfl n4 | (rcases hd with rfl | rfl | rfl | rfl <;> first | exact absurd rfl n3 | exact absurd rfl n5 | exact absurd rfl n6 | exact ⟨rfl, rfl, rfl, rfl⟩))
theorem own_small {a b c d : Int32} (q : own_good a b c d = true) : (¬ a < 0 ∧ a.toNatClampNeg < 4) ∧ (¬ b < 0 ∧ b.toNatClampNeg < 4) ∧ (¬ c < 0 ∧ c.toNatClampNeg < 4) ∧ (¬ d < 0 ∧ d.toNatClampNeg < 4) := by
  simp only [own_good, Bool.and_eq_true, decide_eq_true_eq] at q
  have k : ∀ x ∈ ([0, 1, 2, 3] : List Int32), ¬ x < 0 ∧ x.toNatClampNeg < 4 := by decide
  obtain ⟨⟨⟨⟨⟨⟨⟨⟨⟨ha, hb⟩, hc⟩, hd⟩, -⟩, -⟩, -⟩, -⟩, -⟩, -⟩ := q
  exact ⟨k _ ha, k _ hb, k _ hc, k _ hd⟩
theorem own_z0 : (0 : Int32).toInt = 0 := by decide
theorem own_z1 : (1 : Int32).toInt = 1 := by decide
theorem own_z2 : (2 : Int32).toInt = 2 := by decide
theorem own_p1 {x : Int32} (h1 : 0 ≤ x.toInt) (h2 : x.toInt ≤ 9) : (x + (1 : Int32)).toInt = x.toInt + 1 := own_add32 (by rw [own_z1]) (by omega) (by omega)
theorem own_p2 {x : Int32} (h1 : 0 ≤ x.toInt) (h2 : x.toInt ≤ 9) : (x + (2 : Int32)).toInt = x.toInt + 2 := own_add32 (by rw [own_z2]) (by omega) (by omega)
theorem own_cl {x : Int32} (h1 : 0 ≤ x.toInt) : (x.toNatClampNeg : Int) = x.toInt := by simp only [Int32.toNatClampNeg]; omega
theorem ef_rmMx (m : MethodId) (x0 : Int32) (x1 : Int32) : entryFrame m #[(.int x0), (.int x1)] 2 = mkF m 0 #[.val (.int x0), .val (.int x1)] [] := by first | (simp [entryFrame, mkF, argsToLocals, Value.category]; done) | rfl
theorem jd_29_65__0 : decode jdk_29_method_65_code 0 = .ok (.iload_n 0, 1) := by decide +kernel
theorem jd_29_65__1 : decode jdk_29_method_65_code 1 = .ok (.iload_n 1, 1) := by decide +kernel
theorem jd_29_65__2 : decode jdk_29_method_65_code 2 = .ok (.if_icmp .lt 7, 3) := by decide +kernel
theorem jd_29_65__5 : decode jdk_29_method_65_code 5 = .ok (.iload_n 0, 1) := by decide +kernel
theorem jd_29_65__6 : decode jdk_29_method_65_code 6 = .ok (.goto 4, 3) := by decide +kernel
theorem jd_29_65__10 : decode jdk_29_method_65_code 10 = .ok (.ireturn, 1) := by decide +kernel
set_option maxRecDepth 65536 in
set_option maxHeartbeats 40000000 in
theorem rmMx (l : Launch) (Z : State) (a0 : Array Value) (hw : ∀ d ∈ tables_1, d.before a0 Z = true)  (h0 : Heap)  : Con l Z (⟨"java/lang/Math", "max", "(II)I"⟩ : MethodName) jdk_29_method_65_code 2 (some .int) [] ({ frames := 0, cells := 0, slots := 0, locals := 0 } : Room) #[(.int (10 : Int32)), (.int (1 : Int32))] h0 (fun v h L => v = some (.int (10 : Int32)) ∧ L = [] ∧ h = h0) := by
  refine Con.of (by decide +kernel) ?_
  intro p e s m below meth c T X hx hby hml hown hnm hret eT hZ hsh Φ fin
  replace hown : s.vm.findClass "java/lang/Math" = some m.cls := hown
  replace hml : 2 = c.maxLocals := hml.symm
  refine own_step (fun tq kq => castTop (ef_rmMx m (10 : Int32) (1 : Int32)) kq) ?_
  refine own_iloadN X hx hby jd_29_65__0 rfl (pc' := 1) rfl ?_
  refine own_iloadN X hx hby jd_29_65__1 rfl (pc' := 2) rfl ?_
  refine own_icmpN X hx hby jd_29_65__2 (flt (by decide)).1 (pc' := 5) rfl ?_
  refine own_iloadN X hx hby jd_29_65__5 rfl (pc' := 6) rfl ?_
  refine own_goto X hx hby jd_29_65__6 (by decide) (pc' := 10) (by decide) ?_
  exact own_retI X hx hby fin hret jd_29_65__10 (by decide) (by decide) ⟨rfl, rfl, eT⟩
theorem ef_rmSz (m : MethodId) (x0 : Addr) : entryFrame m #[(.ref x0)] 1 = mkF m 0 #[.val (.ref x0)] [] := by first | (simp [entryFrame, mkF, argsToLocals, Value.category]; done) | rfl
theorem pn_java_util_ArrayList : plainName "java/util/ArrayList" = true := by first | (simp [plainName, overriddenIn]; done) | decide +kernel
theorem jd_38_8__0 : decode jdk_38_method_8_code 0 = .ok (.aload_n 0, 1) := by decide +kernel
theorem jd_38_8__1 : decode jdk_38_method_8_code 1 = .ok (.getfield 48, 3) := by decide +kernel
theorem jd_38_8__4 : decode jdk_38_method_8_code 4 = .ok (.ireturn, 1) := by decide +kernel
set_option maxRecDepth 65536 in
set_option maxHeartbeats 40000000 in
theorem rmSz (l : Launch) (Z : State) (a0 : Array Value) (hw : ∀ d ∈ tables_1, d.before a0 Z = true) (a : Addr) (n : Int32) (h0 : Heap) (F : Fld Z h0 a "java/util/ArrayList" "size" "I" (.int n)) : Con l Z (⟨"java/util/ArrayList", "size", "()I"⟩ : MethodName) jdk_38_method_8_code 1 (some .int) [] ({ frames := 0, cells := 0, slots := 0, locals := 0 } : Room) #[(.ref a)] h0 (fun v h L => v = some (.int n) ∧ L = [] ∧ h = h0) := by
  refine Con.of (plainFor_of_name pn_java_util_ArrayList) ?_
  intro p e s m below meth c T X hx hby hml hown hnm hret eT hZ hsh Φ fin
  replace hown : s.vm.findClass "java/util/ArrayList" = some m.cls := hown
  replace hml : 1 = c.maxLocals := hml.symm
  refine own_step (fun tq kq => castTop (ef_rmSz m a) kq) ?_
  refine own_aloadN X hx hby jd_38_8__0 rfl rfl (pc' := 1) rfl ?_
  refine own_getF X hx hby hZ hown (host := "") (Or.inl (own_w hw 57 rfl)) Via.refl eT F jd_38_8__1 (pc' := 4) rfl ?_
  intro T1 X1 e1
  exact own_retI X1 hx hby fin hret jd_38_8__4 (by decide) (by decide) ⟨rfl, rfl, e1⟩
theorem ef_rmP (m : MethodId) (x0 : Int32) (x1 : Int32) : entryFrame m #[(.int x0), (.int x1), .null] 3 = mkF m 0 #[.val (.int x0), .val (.int x1), .val .null] [] := by first | (simp [entryFrame, mkF, argsToLocals, Value.category]; done) | rfl
theorem pn_jdk_internal_util_Preconditions : plainName "jdk/internal/util/Preconditions" = true := by first | (simp [plainName, overriddenIn]; done) | decide +kernel
theorem jd_41_11__0 : decode jdk_41_method_11_code 0 = .ok (.iload_n 0, 1) := by decide +kernel
theorem jd_41_11__1 : decode jdk_41_method_11_code 1 = .ok (.ifCond .lt 8, 3) := by decide +kernel
theorem jd_41_11__4 : decode jdk_41_method_11_code 4 = .ok (.iload_n 0, 1) := by decide +kernel
theorem jd_41_11__5 : decode jdk_41_method_11_code 5 = .ok (.iload_n 1, 1) := by decide +kernel
theorem jd_41_11__6 : decode jdk_41_method_11_code 6 = .ok (.if_icmp .lt 10, 3) := by decide +kernel
theorem jd_41_11__16 : decode jdk_41_method_11_code 16 = .ok (.iload_n 0, 1) := by decide +kernel
theorem jd_41_11__17 : decode jdk_41_method_11_code 17 = .ok (.ireturn, 1) := by decide +kernel
set_option maxRecDepth 65536 in
set_option maxHeartbeats 40000000 in
theorem rmP (l : Launch) (Z : State) (a0 : Array Value) (hw : ∀ d ∈ tables_1, d.before a0 Z = true) (i n : Int32) (h0 : Heap) (h1 : ¬ i < (0 : Int32)) (h2 : i < n) : Con l Z (⟨"jdk/internal/util/Preconditions", "checkIndex", "(IILjava/util/function/BiFunction;)I"⟩ : MethodName) jdk_41_method_11_code 3 (some .int) [] ({ frames := 0, cells := 0, slots := 0, locals := 0 } : Room) #[(.int i), (.int n), .null] h0 (fun v h L => v = some (.int i) ∧ L = [] ∧ h = h0) := by
  refine Con.of (plainFor_of_name pn_jdk_internal_util_Preconditions) ?_
  intro p e s m below meth c T X hx hby hml hown hnm hret eT hZ hsh Φ fin
  replace hown : s.vm.findClass "jdk/internal/util/Preconditions" = some m.cls := hown
  replace hml : 3 = c.maxLocals := hml.symm
  refine own_step (fun tq kq => castTop (ef_rmP m i n) kq) ?_
  refine own_iloadN X hx hby jd_41_11__0 rfl (pc' := 1) rfl ?_
  refine own_ifN X hx hby jd_41_11__1 ((if0 _ _).trans (flt h1).1) (pc' := 4) rfl ?_
  refine own_iloadN X hx hby jd_41_11__4 rfl (pc' := 5) rfl ?_
  refine own_iloadN X hx hby jd_41_11__5 rfl (pc' := 6) rfl ?_
  refine own_icmpY X hx hby jd_41_11__6 (tlt h2).1 (by decide) (pc' := 16) (by decide) ?_
  refine own_iloadN X hx hby jd_41_11__16 rfl (pc' := 17) rfl ?_
  exact own_retI X hx hby fin hret jd_41_11__17 (by decide) (by decide) ⟨rfl, rfl, eT⟩
theorem ef_rmOc (m : MethodId) (x0 : Int32) (x1 : Int32) : entryFrame m #[(.int x0), (.int x1)] 2 = mkF m 0 #[.val (.int x0), .val (.int x1)] [] := by first | (simp [entryFrame, mkF, argsToLocals, Value.category]; done) | rfl
theorem pn_java_util_Objects : plainName "java/util/Objects" = true := by first | (simp [plainName, overriddenIn]; done) | decide +kernel
theorem jd_31_17__0 : decode jdk_31_method_17_code 0 = .ok (.iload_n 0, 1) := by decide +kernel
theorem jd_31_17__1 : decode jdk_31_method_17_code 1 = .ok (.iload_n 1, 1) := by decide +kernel
theorem jd_31_17__2 : decode jdk_31_method_17_code 2 = .ok (.aconst_null, 1) := by decide +kernel
theorem jd_31_17__3 : decode jdk_31_method_17_code 3 = .ok (.invokestatic 105, 3) := by decide +kernel
theorem pd__IILjava_util_function_BiFunction__I : parseMethodDescriptor "(IILjava/util/function/BiFunction;)I" = some ⟨[.int, .int, (.object "java/util/function/BiFunction")], some .int⟩ := by decide +kernel
theorem jd_31_17__6 : decode jdk_31_method_17_code 6 = .ok (.ireturn, 1) := by decide +kernel
set_option maxRecDepth 65536 in
set_option maxHeartbeats 40000000 in
theorem rmOc (l : Launch) (Z : State) (a0 : Array Value) (hw : ∀ d ∈ tables_1, d.before a0 Z = true) (i n : Int32) (h0 : Heap) (h1 : ¬ i < (0 : Int32)) (h2 : i < n) : Con l Z (⟨"java/util/Objects", "checkIndex", "(II)I"⟩ : MethodName) jdk_31_method_17_code 2 (some .int) [] ({ frames := 1, cells := 0, slots := 0, locals := 20 } : Room) #[(.int i), (.int n)] h0 (fun v h L => v = some (.int i) ∧ L = [] ∧ h = h0) := by
  refine Con.of (plainFor_of_name pn_java_util_Objects) ?_
  intro p e s m below meth c T X hx hby hml hown hnm hret eT hZ hsh Φ fin
  replace hown : s.vm.findClass "java/util/Objects" = some m.cls := hown
  replace hml : 2 = c.maxLocals := hml.symm
  refine own_step (fun tq kq => castTop (ef_rmOc m i n) kq) ?_
  refine own_iloadN X hx hby jd_31_17__0 rfl (pc' := 1) rfl ?_
  refine own_iloadN X hx hby jd_31_17__1 rfl (pc' := 2) rfl ?_
  refine own_aconst_null X hx hby jd_31_17__2 (pc' := 3) rfl ?_
  refine own_callS X hx hby hZ (by exact hml) hown (own_w hw 110 rfl) (own_w hw 111 rfl) (own_w hw 112 rfl) (own_w hw 113 rfl) (by decide) eT 0 (by decide) (by decide) (by decide) (by decide) (argsL := [(.int i), (.int n), .null]) (rest := []) (lenOf pd__IILjava_util_function_BiFunction__I rfl) rfl (rmP l Z a0 hw i n h0 h1 h2) (Nat.le_of_eq rfl) jd_31_17__3 (pc' := 6) rfl ?_
  intro v1 T1 L1 X1 hQ1
  obtain ⟨rfl, rfl, e1⟩ := hQ1
  rw [List.append_nil] at X1
  replace e1 : T1.heap = h0 := e1
  show GoP p e below Φ (T1.setTop (mkF m 6 #[.val (.int i), .val (.int n)] [(.int i)]))
  exact own_retI X1 hx hby fin hret jd_31_17__6 (by decide) (by decide) ⟨rfl, rfl, e1⟩
theorem ef_rmE0 (m : MethodId) (x0 : Addr) (x1 : Int32) : entryFrame m #[(.ref x0), (.int x1)] 2 = mkF m 0 #[.val (.ref x0), .val (.int x1)] [] := by first | (simp [entryFrame, mkF, argsToLocals, Value.category]; done) | rfl
theorem jd_38_18__0 : decode jdk_38_method_18_code 0 = .ok (.aload_n 0, 1) := by decide +kernel
theorem jd_38_18__1 : decode jdk_38_method_18_code 1 = .ok (.getfield 9, 3) := by decide +kernel
theorem jd_38_18__4 : decode jdk_38_method_18_code 4 = .ok (.iload_n 1, 1) := by decide +kernel
theorem jd_38_18__5 : decode jdk_38_method_18_code 5 = .ok (.aaload, 1) := by decide +kernel
theorem jd_38_18__6 : decode jdk_38_method_18_code 6 = .ok (.areturn, 1) := by decide +kernel
set_option maxRecDepth 65536 in
set_option maxHeartbeats 40000000 in
theorem rmE0 (l : Launch) (Z : State) (a0 : Array Value) (hw : ∀ d ∈ tables_1, d.before a0 Z = true) (a es r : Addr) (w1 w2 w3 w4 w5 w6 w7 w8 w9 : Value) (h0 : Heap) (F : Fld Z h0 a "java/util/ArrayList" "elementData" "[Ljava/lang/Object;" (.ref es)) (V : AV Z h0 es (.object "java/lang/Object") [(.ref r), w1, w2, w3, w4, w5, w6, w7, w8, w9]) : Con l Z (⟨"java/util/ArrayList", "elementData", "(I)Ljava/lang/Object;"⟩ : MethodName) jdk_38_method_18_code 2 (some (.object "java/lang/Object")) [] ({ frames := 0, cells := 0, slots := 0, locals := 0 } : Room) #[(.ref a), (.int (0 : Int32))] h0 (fun v h L => v = some (.ref r) ∧ L = [] ∧ h = h0) := by
  refine Con.of (plainFor_of_name pn_java_util_ArrayList) ?_
  intro p e s m below meth c T X hx hby hml hown hnm hret eT hZ hsh Φ fin
  replace hown : s.vm.findClass "java/util/ArrayList" = some m.cls := hown
  replace hml : 2 = c.maxLocals := hml.symm
  refine own_step (fun tq kq => castTop (ef_rmE0 m a (0 : Int32)) kq) ?_
  refine own_aloadN X hx hby jd_38_18__0 rfl rfl (pc' := 1) rfl ?_
  refine own_getF X hx hby hZ hown (host := "") (Or.inl (own_w hw 24 rfl)) Via.refl eT F jd_38_18__1 (pc' := 4) rfl ?_
  intro T1 X1 e1
  refine own_iloadN X1 hx hby jd_38_18__4 rfl (pc' := 5) rfl ?_
  refine own_aaload X1 hx hby hZ e1 V rfl (by decide) (v := (.ref r)) rfl jd_38_18__5 (pc' := 6) rfl ?_
  exact own_retA X1 hx hby fin hret rfl rfl rfl jd_38_18__6 (by decide) (by decide) ⟨rfl, rfl, e1⟩
theorem ef_rmG0 (m : MethodId) (x0 : Addr) (x1 : Int32) : entryFrame m #[(.ref x0), (.int x1)] 2 = mkF m 0 #[.val (.ref x0), .val (.int x1)] [] := by first | (simp [entryFrame, mkF, argsToLocals, Value.category]; done) | rfl
theorem jd_38_20__0 : decode jdk_38_method_20_code 0 = .ok (.iload_n 1, 1) := by decide +kernel
theorem jd_38_20__1 : decode jdk_38_method_20_code 1 = .ok (.aload_n 0, 1) := by decide +kernel
theorem jd_38_20__2 : decode jdk_38_method_20_code 2 = .ok (.getfield 48, 3) := by decide +kernel
theorem jd_38_20__5 : decode jdk_38_method_20_code 5 = .ok (.invokestatic 118, 3) := by decide +kernel
theorem pd__II_I : parseMethodDescriptor "(II)I" = some ⟨[.int, .int], some .int⟩ := by decide +kernel
theorem jd_38_20__8 : decode jdk_38_method_20_code 8 = .ok (.pop, 1) := by decide +kernel
theorem jd_38_20__9 : decode jdk_38_method_20_code 9 = .ok (.aload_n 0, 1) := by decide +kernel
theorem jd_38_20__10 : decode jdk_38_method_20_code 10 = .ok (.iload_n 1, 1) := by decide +kernel
theorem jd_38_20__11 : decode jdk_38_method_20_code 11 = .ok (.invokevirtual 123, 3) := by decide +kernel
theorem pd__I_Ljava_lang_Object_ : parseMethodDescriptor "(I)Ljava/lang/Object;" = some ⟨[.int], some (.object "java/lang/Object")⟩ := by decide +kernel
theorem jd_38_20__14 : decode jdk_38_method_20_code 14 = .ok (.areturn, 1) := by decide +kernel
set_option maxRecDepth 65536 in
set_option maxHeartbeats 40000000 in
theorem rmG0 (l : Launch) (Z : State) (a0 : Array Value) (hw : ∀ d ∈ tables_1, d.before a0 Z = true) (a es r : Addr) (n : Int32) (w1 w2 w3 w4 w5 w6 w7 w8 w9 : Value) (h0 : Heap) (hn : (0 : Int32) < n) (E : Exa Z h0 a "java/util/ArrayList") (Fn : Fld Z h0 a "java/util/ArrayList" "size" "I" (.int n)) (Fe : Fld Z h0 a "java/util/ArrayList" "elementData" "[Ljava/lang/Object;" (.ref es)) (V : AV Z h0 es (.object "java/lang/Object") [(.ref r), w1, w2, w3, w4, w5, w6, w7, w8, w9]) : Con l Z (⟨"java/util/ArrayList", "get", "(I)Ljava/lang/Object;"⟩ : MethodName) jdk_38_method_20_code 2 (some (.object "java/lang/Object")) [] ({ frames := 2, cells := 0, slots := 0, locals := 40 } : Room) #[(.ref a), (.int (0 : Int32))] h0 (fun v h L => v = some (.ref r) ∧ L = [] ∧ h = h0) := by
  refine Con.of (plainFor_of_name pn_java_util_ArrayList) ?_
  intro p e s m below meth c T X hx hby hml hown hnm hret eT hZ hsh Φ fin
  replace hown : s.vm.findClass "java/util/ArrayList" = some m.cls := hown
  replace hml : 2 = c.maxLocals := hml.symm
  refine own_step (fun tq kq => castTop (ef_rmG0 m a (0 : Int32)) kq) ?_
  refine own_iloadN X hx hby jd_38_20__0 rfl (pc' := 1) rfl ?_
  refine own_aloadN X hx hby jd_38_20__1 rfl rfl (pc' := 2) rfl ?_
  refine own_getF X hx hby hZ hown (host := "") (Or.inl (own_w hw 57 rfl)) Via.refl eT Fn jd_38_20__2 (pc' := 5) rfl ?_
  intro T1 X1 e1
  refine own_callS X1 hx hby hZ (by exact hml) hown (own_w hw 106 rfl) (own_w hw 107 rfl) (own_w hw 108 rfl) (own_w hw 109 rfl) (by decide) e1 0 (by decide) (by decide) (by decide) (by decide) (argsL := [(.int (0 : Int32)), (.int n)]) (rest := []) (lenOf pd__II_I rfl) rfl (rmOc l Z a0 hw (0 : Int32) n h0 (by decide) hn) (Nat.le_of_eq rfl) jd_38_20__5 (pc' := 8) rfl ?_
  intro v2 T2 L2 X2 hQ2
  obtain ⟨rfl, rfl, e2⟩ := hQ2
  rw [List.append_nil] at X2
  replace e2 : T2.heap = h0 := e2
  show GoP p e below Φ (T2.setTop (mkF m 8 #[.val (.ref a), .val (.int (0 : Int32))] [(.int (0 : Int32))]))
  refine own_pop X2 hx hby jd_38_20__8 rfl (pc' := 9) rfl ?_
  refine own_aloadN X2 hx hby jd_38_20__9 rfl rfl (pc' := 10) rfl ?_
  refine own_iloadN X2 hx hby jd_38_20__10 rfl (pc' := 11) rfl ?_
  refine own_callV X2 hx hby hZ (by exact hml) hown (own_w hw 114 rfl) (own_w hw 115 rfl) (own_w hw 117 rfl) (own_w hw 116 rfl) (own_w hw 2 rfl) (own_w hw 118 rfl) (by decide) e2 0 (by decide) (by decide) (by decide) (by decide) (argsL := [(.int (0 : Int32))]) (rest := []) (lenOf pd__I_Ljava_lang_Object_ rfl) rfl (Nat.le_of_eq rfl) E (rmE0 l Z a0 hw a es r w1 w2 w3 w4 w5 w6 w7 w8 w9 h0 Fe V) jd_38_20__11 (pc' := 14) rfl ?_
  intro v3 T3 L3 X3 hQ3
  obtain ⟨rfl, rfl, e3⟩ := hQ3
  rw [List.append_nil] at X3
  replace e3 : T3.heap = h0 := e3
  show GoP p e below Φ (T3.setTop (mkF m 14 #[.val (.ref a), .val (.int (0 : Int32))] [(.ref r)]))
  exact own_retA X3 hx hby fin hret rfl rfl rfl jd_38_20__14 (by decide) (by decide) ⟨rfl, rfl, e3⟩
theorem ef_rmE1 (m : MethodId) (x0 : Addr) (x1 : Int32) : entryFrame m #[(.ref x0), (.int x1)] 2 = mkF m 0 #[.val (.ref x0), .val (.int x1)] [] := by first | (simp [entryFrame, mkF, argsToLocals, Value.category]; done) | rfl
set_option maxRecDepth 65536 in
set_option maxHeartbeats 40000000 in
theorem rmE1 (l : Launch) (Z : State) (a0 : Array Value) (hw : ∀ d ∈ tables_1, d.before a0 Z = true) (a es r : Addr) (w0 w2 w3 w4 w5 w6 w7 w8 w9 : Value) (h0 : Heap) (F : Fld Z h0 a "java/util/ArrayList" "elementData" "[Ljava/lang/Object;" (.ref es)) (V : AV Z h0 es (.object "java/lang/Object") [w0, (.ref r), w2, w3, w4, w5, w6, w7, w8, w9]) : Con l Z (⟨"java/util/ArrayList", "elementData", "(I)Ljava/lang/Object;"⟩ : MethodName) jdk_38_method_18_code 2 (some (.object "java/lang/Object")) [] ({ frames := 0, cells := 0, slots := 0, locals := 0 } : Room) #[(.ref a), (.int (1 : Int32))] h0 (fun v h L => v = some (.ref r) ∧ L = [] ∧ h = h0) := by
  refine Con.of (plainFor_of_name pn_java_util_ArrayList) ?_
  intro p e s m below meth c T X hx hby hml hown hnm hret eT hZ hsh Φ fin
  replace hown : s.vm.findClass "java/util/ArrayList" = some m.cls := hown
  replace hml : 2 = c.maxLocals := hml.symm
  refine own_step (fun tq kq => castTop (ef_rmE1 m a (1 : Int32)) kq) ?_
  refine own_aloadN X hx hby jd_38_18__0 rfl rfl (pc' := 1) rfl ?_
  refine own_getF X hx hby hZ hown (host := "") (Or.inl (own_w hw 24 rfl)) Via.refl eT F jd_38_18__1 (pc' := 4) rfl ?_
  intro T1 X1 e1
  refine own_iloadN X1 hx hby jd_38_18__4 rfl (pc' := 5) rfl ?_
  refine own_aaload X1 hx hby hZ e1 V rfl (by decide) (v := (.ref r)) rfl jd_38_18__5 (pc' := 6) rfl ?_
  exact own_retA X1 hx hby fin hret rfl rfl rfl jd_38_18__6 (by decide) (by decide) ⟨rfl, rfl, e1⟩
theorem ef_rmG1 (m : MethodId) (x0 : Addr) (x1 : Int32) : entryFrame m #[(.ref x0), (.int x1)] 2 = mkF m 0 #[.val (.ref x0), .val (.int x1)] [] := by first | (simp [entryFrame, mkF, argsToLocals, Value.category]; done) | rfl
set_option maxRecDepth 65536 in
set_option maxHeartbeats 40000000 in
theorem rmG1 (l : Launch) (Z : State) (a0 : Array Value) (hw : ∀ d ∈ tables_1, d.before a0 Z = true) (a es r : Addr) (n : Int32) (w0 w2 w3 w4 w5 w6 w7 w8 w9 : Value) (h0 : Heap) (hn : (1 : Int32) < n) (E : Exa Z h0 a "java/util/ArrayList") (Fn : Fld Z h0 a "java/util/ArrayList" "size" "I" (.int n)) (Fe : Fld Z h0 a "java/util/ArrayList" "elementData" "[Ljava/lang/Object;" (.ref es)) (V : AV Z h0 es (.object "java/lang/Object") [w0, (.ref r), w2, w3, w4, w5, w6, w7, w8, w9]) : Con l Z (⟨"java/util/ArrayList", "get", "(I)Ljava/lang/Object;"⟩ : MethodName) jdk_38_method_20_code 2 (some (.object "java/lang/Object")) [] ({ frames := 2, cells := 0, slots := 0, locals := 40 } : Room) #[(.ref a), (.int (1 : Int32))] h0 (fun v h L => v = some (.ref r) ∧ L = [] ∧ h = h0) := by
  refine Con.of (plainFor_of_name pn_java_util_ArrayList) ?_
  intro p e s m below meth c T X hx hby hml hown hnm hret eT hZ hsh Φ fin
  replace hown : s.vm.findClass "java/util/ArrayList" = some m.cls := hown
  replace hml : 2 = c.maxLocals := hml.symm
  refine own_step (fun tq kq => castTop (ef_rmG1 m a (1 : Int32)) kq) ?_
  refine own_iloadN X hx hby jd_38_20__0 rfl (pc' := 1) rfl ?_
  refine own_aloadN X hx hby jd_38_20__1 rfl rfl (pc' := 2) rfl ?_
  refine own_getF X hx hby hZ hown (host := "") (Or.inl (own_w hw 57 rfl)) Via.refl eT Fn jd_38_20__2 (pc' := 5) rfl ?_
  intro T1 X1 e1
  refine own_callS X1 hx hby hZ (by exact hml) hown (own_w hw 106 rfl) (own_w hw 107 rfl) (own_w hw 108 rfl) (own_w hw 109 rfl) (by decide) e1 0 (by decide) (by decide) (by decide) (by decide) (argsL := [(.int (1 : Int32)), (.int n)]) (rest := []) (lenOf pd__II_I rfl) rfl (rmOc l Z a0 hw (1 : Int32) n h0 (by decide) hn) (Nat.le_of_eq rfl) jd_38_20__5 (pc' := 8) rfl ?_
  intro v2 T2 L2 X2 hQ2
  obtain ⟨rfl, rfl, e2⟩ := hQ2
  rw [List.append_nil] at X2
  replace e2 : T2.heap = h0 := e2
  show GoP p e below Φ (T2.setTop (mkF m 8 #[.val (.ref a), .val (.int (1 : Int32))] [(.int (1 : Int32))]))
  refine own_pop X2 hx hby jd_38_20__8 rfl (pc' := 9) rfl ?_
  refine own_aloadN X2 hx hby jd_38_20__9 rfl rfl (pc' := 10) rfl ?_
  refine own_iloadN X2 hx hby jd_38_20__10 rfl (pc' := 11) rfl ?_
  refine own_callV X2 hx hby hZ (by exact hml) hown (own_w hw 114 rfl) (own_w hw 115 rfl) (own_w hw 117 rfl) (own_w hw 116 rfl) (own_w hw 2 rfl) (own_w hw 118 rfl) (by decide) e2 0 (by decide) (by decide) (by decide) (by decide) (argsL := [(.int (1 : Int32))]) (rest := []) (lenOf pd__I_Ljava_lang_Object_ rfl) rfl (Nat.le_of_eq rfl) E (rmE1 l Z a0 hw a es r w0 w2 w3 w4 w5 w6 w7 w8 w9 h0 Fe V) jd_38_20__11 (pc' := 14) rfl ?_
  intro v3 T3 L3 X3 hQ3
  obtain ⟨rfl, rfl, e3⟩ := hQ3
  rw [List.append_nil] at X3
  replace e3 : T3.heap = h0 := e3
  show GoP p e below Φ (T3.setTop (mkF m 14 #[.val (.ref a), .val (.int (1 : Int32))] [(.ref r)]))
  exact own_retA X3 hx hby fin hret rfl rfl rfl jd_38_20__14 (by decide) (by decide) ⟨rfl, rfl, e3⟩
theorem ef_rmE2 (m : MethodId) (x0 : Addr) (x1 : Int32) : entryFrame m #[(.ref x0), (.int x1)] 2 = mkF m 0 #[.val (.ref x0), .val (.int x1)] [] := by first | (simp [entryFrame, mkF, argsToLocals, Value.category]; done) | rfl
set_option maxRecDepth 65536 in
set_option maxHeartbeats 40000000 in
theorem rmE2 (l : Launch) (Z : State) (a0 : Array Value) (hw : ∀ d ∈ tables_1, d.before a0 Z = true) (a es r : Addr) (w0 w1 w3 w4 w5 w6 w7 w8 w9 : Value) (h0 : Heap) (F : Fld Z h0 a "java/util/ArrayList" "elementData" "[Ljava/lang/Object;" (.ref es)) (V : AV Z h0 es (.object "java/lang/Object") [w0, w1, (.ref r), w3, w4, w5, w6, w7, w8, w9]) : Con l Z (⟨"java/util/ArrayList", "elementData", "(I)Ljava/lang/Object;"⟩ : MethodName) jdk_38_method_18_code 2 (some (.object "java/lang/Object")) [] ({ frames := 0, cells := 0, slots := 0, locals := 0 } : Room) #[(.ref a), (.int (2 : Int32))] h0 (fun v h L => v = some (.ref r) ∧ L = [] ∧ h = h0) := by
  refine Con.of (plainFor_of_name pn_java_util_ArrayList) ?_
  intro p e s m below meth c T X hx hby hml hown hnm hret eT hZ hsh Φ fin
  replace hown : s.vm.findClass "java/util/ArrayList" = some m.cls := hown
  replace hml : 2 = c.maxLocals := hml.symm
  refine own_step (fun tq kq => castTop (ef_rmE2 m a (2 : Int32)) kq) ?_
  refine own_aloadN X hx hby jd_38_18__0 rfl rfl (pc' := 1) rfl ?_
  refine own_getF X hx hby hZ hown (host := "") (Or.inl (own_w hw 24 rfl)) Via.refl eT F jd_38_18__1 (pc' := 4) rfl ?_
  intro T1 X1 e1
  refine own_iloadN X1 hx hby jd_38_18__4 rfl (pc' := 5) rfl ?_
  refine own_aaload X1 hx hby hZ e1 V rfl (by decide) (v := (.ref r)) rfl jd_38_18__5 (pc' := 6) rfl ?_
  exact own_retA X1 hx hby fin hret rfl rfl rfl jd_38_18__6 (by decide) (by decide) ⟨rfl, rfl, e1⟩
theorem ef_rmG2 (m : MethodId) (x0 : Addr) (x1 : Int32) : entryFrame m #[(.ref x0), (.int x1)] 2 = mkF m 0 #[.val (.ref x0), .val (.int x1)] [] := by first | (simp [entryFrame, mkF, argsToLocals, Value.category]; done) | rfl
set_option maxRecDepth 65536 in
set_option maxHeartbeats 40000000 in
theorem rmG2 (l : Launch) (Z : State) (a0 : Array Value) (hw : ∀ d ∈ tables_1, d.before a0 Z = true) (a es r : Addr) (n : Int32) (w0 w1 w3 w4 w5 w6 w7 w8 w9 : Value) (h0 : Heap) (hn : (2 : Int32) < n) (E : Exa Z h0 a "java/util/ArrayList") (Fn : Fld Z h0 a "java/util/ArrayList" "size" "I" (.int n)) (Fe : Fld Z h0 a "java/util/ArrayList" "elementData" "[Ljava/lang/Object;" (.ref es)) (V : AV Z h0 es (.object "java/lang/Object") [w0, w1, (.ref r), w3, w4, w5, w6, w7, w8, w9]) : Con l Z (⟨"java/util/ArrayList", "get", "(I)Ljava/lang/Object;"⟩ : MethodName) jdk_38_method_20_code 2 (some (.object "java/lang/Object")) [] ({ frames := 2, cells := 0, slots := 0, locals := 40 } : Room) #[(.ref a), (.int (2 : Int32))] h0 (fun v h L => v = some (.ref r) ∧ L = [] ∧ h = h0) := by
  refine Con.of (plainFor_of_name pn_java_util_ArrayList) ?_
  intro p e s m below meth c T X hx hby hml hown hnm hret eT hZ hsh Φ fin
  replace hown : s.vm.findClass "java/util/ArrayList" = some m.cls := hown
  replace hml : 2 = c.maxLocals := hml.symm
  refine own_step (fun tq kq => castTop (ef_rmG2 m a (2 : Int32)) kq) ?_
  refine own_iloadN X hx hby jd_38_20__0 rfl (pc' := 1) rfl ?_
  refine own_aloadN X hx hby jd_38_20__1 rfl rfl (pc' := 2) rfl ?_
  refine own_getF X hx hby hZ hown (host := "") (Or.inl (own_w hw 57 rfl)) Via.refl eT Fn jd_38_20__2 (pc' := 5) rfl ?_
  intro T1 X1 e1
  refine own_callS X1 hx hby hZ (by exact hml) hown (own_w hw 106 rfl) (own_w hw 107 rfl) (own_w hw 108 rfl) (own_w hw 109 rfl) (by decide) e1 0 (by decide) (by decide) (by decide) (by decide) (argsL := [(.int (2 : Int32)), (.int n)]) (rest := []) (lenOf pd__II_I rfl) rfl (rmOc l Z a0 hw (2 : Int32) n h0 (by decide) hn) (Nat.le_of_eq rfl) jd_38_20__5 (pc' := 8) rfl ?_
  intro v2 T2 L2 X2 hQ2
  obtain ⟨rfl, rfl, e2⟩ := hQ2
  rw [List.append_nil] at X2
  replace e2 : T2.heap = h0 := e2
  show GoP p e below Φ (T2.setTop (mkF m 8 #[.val (.ref a), .val (.int (2 : Int32))] [(.int (2 : Int32))]))
  refine own_pop X2 hx hby jd_38_20__8 rfl (pc' := 9) rfl ?_
  refine own_aloadN X2 hx hby jd_38_20__9 rfl rfl (pc' := 10) rfl ?_
  refine own_iloadN X2 hx hby jd_38_20__10 rfl (pc' := 11) rfl ?_
  refine own_callV X2 hx hby hZ (by exact hml) hown (own_w hw 114 rfl) (own_w hw 115 rfl) (own_w hw 117 rfl) (own_w hw 116 rfl) (own_w hw 2 rfl) (own_w hw 118 rfl) (by decide) e2 0 (by decide) (by decide) (by decide) (by decide) (argsL := [(.int (2 : Int32))]) (rest := []) (lenOf pd__I_Ljava_lang_Object_ rfl) rfl (Nat.le_of_eq rfl) E (rmE2 l Z a0 hw a es r w0 w1 w3 w4 w5 w6 w7 w8 w9 h0 Fe V) jd_38_20__11 (pc' := 14) rfl ?_
  intro v3 T3 L3 X3 hQ3
  obtain ⟨rfl, rfl, e3⟩ := hQ3
  rw [List.append_nil] at X3
  replace e3 : T3.heap = h0 := e3
  show GoP p e below Φ (T3.setTop (mkF m 14 #[.val (.ref a), .val (.int (2 : Int32))] [(.ref r)]))
  exact own_retA X3 hx hby fin hret rfl rfl rfl jd_38_20__14 (by decide) (by decide) ⟨rfl, rfl, e3⟩
theorem ef_rmE3 (m : MethodId) (x0 : Addr) (x1 : Int32) : entryFrame m #[(.ref x0), (.int x1)] 2 = mkF m 0 #[.val (.ref x0), .val (.int x1)] [] := by first | (simp [entryFrame, mkF, argsToLocals, Value.category]; done) | rfl
set_option maxRecDepth 65536 in
set_option maxHeartbeats 40000000 in
theorem rmE3 (l : Launch) (Z : State) (a0 : Array Value) (hw : ∀ d ∈ tables_1, d.before a0 Z = true) (a es r : Addr) (w0 w1 w2 w4 w5 w6 w7 w8 w9 : Value) (h0 : Heap) (F : Fld Z h0 a "java/util/ArrayList" "elementData" "[Ljava/lang/Object;" (.ref es)) (V : AV Z h0 es (.object "java/lang/Object") [w0, w1, w2, (.ref r), w4, w5, w6, w7, w8, w9]) : Con l Z (⟨"java/util/ArrayList", "elementData", "(I)Ljava/lang/Object;"⟩ : MethodName) jdk_38_method_18_code 2 (some (.object "java/lang/Object")) [] ({ frames := 0, cells := 0, slots := 0, locals := 0 } : Room) #[(.ref a), (.int (3 : Int32))] h0 (fun v h L => v = some (.ref r) ∧ L = [] ∧ h = h0) := by
  refine Con.of (plainFor_of_name pn_java_util_ArrayList) ?_
  intro p e s m below meth c T X hx hby hml hown hnm hret eT hZ hsh Φ fin
  replace hown : s.vm.findClass "java/util/ArrayList" = some m.cls := hown
  replace hml : 2 = c.maxLocals := hml.symm
  refine own_step (fun tq kq => castTop (ef_rmE3 m a (3 : Int32)) kq) ?_
  refine own_aloadN X hx hby jd_38_18__0 rfl rfl (pc' := 1) rfl ?_
  refine own_getF X hx hby hZ hown (host := "") (Or.inl (own_w hw 24 rfl)) Via.refl eT F jd_38_18__1 (pc' := 4) rfl ?_
  intro T1 X1 e1
  refine own_iloadN X1 hx hby jd_38_18__4 rfl (pc' := 5) rfl ?_
  refine own_aaload X1 hx hby hZ e1 V rfl (by decide) (v := (.ref r)) rfl jd_38_18__5 (pc' := 6) rfl ?_
  exact own_retA X1 hx hby fin hret rfl rfl rfl jd_38_18__6 (by decide) (by decide) ⟨rfl, rfl, e1⟩
theorem ef_rmG3 (m : MethodId) (x0 : Addr) (x1 : Int32) : entryFrame m #[(.ref x0), (.int x1)] 2 = mkF m 0 #[.val (.ref x0), .val (.int x1)] [] := by first | (simp [entryFrame, mkF, argsToLocals, Value.category]; done) | rfl
set_option maxRecDepth 65536 in
set_option maxHeartbeats 40000000 in
theorem rmG3 (l : Launch) (Z : State) (a0 : Array Value) (hw : ∀ d ∈ tables_1, d.before a0 Z = true) (a es r : Addr) (n : Int32) (w0 w1 w2 w4 w5 w6 w7 w8 w9 : Value) (h0 : Heap) (hn : (3 : Int32) < n) (E : Exa Z h0 a "java/util/ArrayList") (Fn : Fld Z h0 a "java/util/ArrayList" "size" "I" (.int n)) (Fe : Fld Z h0 a "java/util/ArrayList" "elementData" "[Ljava/lang/Object;" (.ref es)) (V : AV Z h0 es (.object "java/lang/Object") [w0, w1, w2, (.ref r), w4, w5, w6, w7, w8, w9]) : Con l Z (⟨"java/util/ArrayList", "get", "(I)Ljava/lang/Object;"⟩ : MethodName) jdk_38_method_20_code 2 (some (.object "java/lang/Object")) [] ({ frames := 2, cells := 0, slots := 0, locals := 40 } : Room) #[(.ref a), (.int (3 : Int32))] h0 (fun v h L => v = some (.ref r) ∧ L = [] ∧ h = h0) := by
  refine Con.of (plainFor_of_name pn_java_util_ArrayList) ?_
  intro p e s m below meth c T X hx hby hml hown hnm hret eT hZ hsh Φ fin
  replace hown : s.vm.findClass "java/util/ArrayList" = some m.cls := hown
  replace hml : 2 = c.maxLocals := hml.symm
  refine own_step (fun tq kq => castTop (ef_rmG3 m a (3 : Int32)) kq) ?_
  refine own_iloadN X hx hby jd_38_20__0 rfl (pc' := 1) rfl ?_
  refine own_aloadN X hx hby jd_38_20__1 rfl rfl (pc' := 2) rfl ?_
  refine own_getF X hx hby hZ hown (host := "") (Or.inl (own_w hw 57 rfl)) Via.refl eT Fn jd_38_20__2 (pc' := 5) rfl ?_
  intro T1 X1 e1
  refine own_callS X1 hx hby hZ (by exact hml) hown (own_w hw 106 rfl) (own_w hw 107 rfl) (own_w hw 108 rfl) (own_w hw 109 rfl) (by decide) e1 0 (by decide) (by decide) (by decide) (by decide) (argsL := [(.int (3 : Int32)), (.int n)]) (rest := []) (lenOf pd__II_I rfl) rfl (rmOc l Z a0 hw (3 : Int32) n h0 (by decide) hn) (Nat.le_of_eq rfl) jd_38_20__5 (pc' := 8) rfl ?_
  intro v2 T2 L2 X2 hQ2
  obtain ⟨rfl, rfl, e2⟩ := hQ2
  rw [List.append_nil] at X2
  replace e2 : T2.heap = h0 := e2
  show GoP p e below Φ (T2.setTop (mkF m 8 #[.val (.ref a), .val (.int (3 : Int32))] [(.int (3 : Int32))]))
  refine own_pop X2 hx hby jd_38_20__8 rfl (pc' := 9) rfl ?_
  refine own_aloadN X2 hx hby jd_38_20__9 rfl rfl (pc' := 10) rfl ?_
  refine own_iloadN X2 hx hby jd_38_20__10 rfl (pc' := 11) rfl ?_
  refine own_callV X2 hx hby hZ (by exact hml) hown (own_w hw 114 rfl) (own_w hw 115 rfl) (own_w hw 117 rfl) (own_w hw 116 rfl) (own_w hw 2 rfl) (own_w hw 118 rfl) (by decide) e2 0 (by decide) (by decide) (by decide) (by decide) (argsL := [(.int (3 : Int32))]) (rest := []) (lenOf pd__I_Ljava_lang_Object_ rfl) rfl (Nat.le_of_eq rfl) E (rmE3 l Z a0 hw a es r w0 w1 w2 w4 w5 w6 w7 w8 w9 h0 Fe V) jd_38_20__11 (pc' := 14) rfl ?_
  intro v3 T3 L3 X3 hQ3
  obtain ⟨rfl, rfl, e3⟩ := hQ3
  rw [List.append_nil] at X3
  replace e3 : T3.heap = h0 := e3
  show GoP p e below Φ (T3.setTop (mkF m 14 #[.val (.ref a), .val (.int (3 : Int32))] [(.ref r)]))
  exact own_retA X3 hx hby fin hret rfl rfl rfl jd_38_20__14 (by decide) (by decide) ⟨rfl, rfl, e3⟩
theorem ef_rmAC (m : MethodId) (x0 : Addr) : entryFrame m #[(.ref x0)] 1 = mkF m 0 #[.val (.ref x0)] [] := by first | (simp [entryFrame, mkF, argsToLocals, Value.category]; done) | rfl
theorem pn_java_util_AbstractCollection : plainName "java/util/AbstractCollection" = true := by first | (simp [plainName, overriddenIn]; done) | decide +kernel
theorem jd_22_1__0 : decode jdk_22_method_1_code 0 = .ok (.aload_n 0, 1) := by decide +kernel
theorem jd_22_1__1 : decode jdk_22_method_1_code 1 = .ok (.invokespecial 1, 3) := by decide +kernel
theorem jd_22_1__4 : decode jdk_22_method_1_code 4 = .ok (.return_, 1) := by decide +kernel
set_option maxRecDepth 65536 in
set_option maxHeartbeats 40000000 in
theorem rmAC (l : Launch) (Z : State) (a0 : Array Value) (hw : ∀ d ∈ tables_1, d.before a0 Z = true) (a : Addr) (h0 : Heap)  : Con l Z (⟨"java/util/AbstractCollection", "<init>", "()V"⟩ : MethodName) jdk_22_method_1_code 1 none [] ({ frames := 1, cells := 0, slots := 0, locals := 12 } : Room) #[(.ref a)] h0 (fun v h L => v = none ∧ L = [] ∧ h = h0) := by
  refine Con.of (plainFor_of_name pn_java_util_AbstractCollection) ?_
  intro p e s m below meth c T X hx hby hml hown hnm hret eT hZ hsh Φ fin
  replace hown : s.vm.findClass "java/util/AbstractCollection" = some m.cls := hown
  replace hml : 1 = c.maxLocals := hml.symm
  refine own_step (fun tq kq => castTop (ef_rmAC m a) kq) ?_
  refine own_aloadN X hx hby jd_22_1__0 rfl rfl (pc' := 1) rfl ?_
  obtain ⟨T1, X1, e1, st1⟩ := initO X hx hZ hown (own_w hw 18 rfl) (own_w hw 19 rfl) (own_w hw 20 rfl) eT (g := (mkF m 1 #[.val (.ref a)] [(.ref a)])) rfl hml rfl (hb hby jd_22_1__1) (by decide) (W := 0) (by show 2 * 0 + _ ≤ _; exact Nat.le_of_eq rfl) (by decide)
  refine own_step st1 ?_
  show GoP p e below Φ (T1.setTop (mkF m 4 #[.val (.ref a)] []))
  exact own_ret0 X1 hx hby fin hret jd_22_1__4 (by decide) (by decide) ⟨rfl, rfl, e1⟩
theorem ef_rmRc (m : MethodId) (x0 : Addr) : entryFrame m #[(.ref x0)] 1 = mkF m 0 #[.val (.ref x0)] [] := by first | (simp [entryFrame, mkF, argsToLocals, Value.category]; done) | rfl
theorem pn_java_lang_Record : plainName "java/lang/Record" = true := by first | (simp [plainName, overriddenIn]; done) | decide +kernel
theorem jd_30_1__0 : decode jdk_30_method_1_code 0 = .ok (.aload_n 0, 1) := by decide +kernel
theorem jd_30_1__1 : decode jdk_30_method_1_code 1 = .ok (.invokespecial 1, 3) := by decide +kernel
theorem jd_30_1__4 : decode jdk_30_method_1_code 4 = .ok (.return_, 1) := by decide +kernel
set_option maxRecDepth 65536 in
set_option maxHeartbeats 40000000 in
theorem rmRc (l : Launch) (Z : State) (a0 : Array Value) (hw : ∀ d ∈ tables_1, d.before a0 Z = true) (a : Addr) (h0 : Heap)  : Con l Z (⟨"java/lang/Record", "<init>", "()V"⟩ : MethodName) jdk_30_method_1_code 1 none [] ({ frames := 1, cells := 0, slots := 0, locals := 12 } : Room) #[(.ref a)] h0 (fun v h L => v = none ∧ L = [] ∧ h = h0) := by
  refine Con.of (plainFor_of_name pn_java_lang_Record) ?_
  intro p e s m below meth c T X hx hby hml hown hnm hret eT hZ hsh Φ fin
  replace hown : s.vm.findClass "java/lang/Record" = some m.cls := hown
  replace hml : 1 = c.maxLocals := hml.symm
  refine own_step (fun tq kq => castTop (ef_rmRc m a) kq) ?_
  refine own_aloadN X hx hby jd_30_1__0 rfl rfl (pc' := 1) rfl ?_
  obtain ⟨T1, X1, e1, st1⟩ := initO X hx hZ hown (own_w hw 37 rfl) (own_w hw 19 rfl) (own_w hw 20 rfl) eT (g := (mkF m 1 #[.val (.ref a)] [(.ref a)])) rfl hml rfl (hb hby jd_30_1__1) (by decide) (W := 0) (by show 2 * 0 + _ ≤ _; exact Nat.le_of_eq rfl) (by decide)
  refine own_step st1 ?_
  show GoP p e below Φ (T1.setTop (mkF m 4 #[.val (.ref a)] []))
  exact own_ret0 X1 hx hby fin hret jd_30_1__4 (by decide) (by decide) ⟨rfl, rfl, e1⟩
theorem ef_rmAL (m : MethodId) (x0 : Addr) : entryFrame m #[(.ref x0)] 1 = mkF m 0 #[.val (.ref x0)] [] := by first | (simp [entryFrame, mkF, argsToLocals, Value.category]; done) | rfl
theorem pn_java_util_AbstractList : plainName "java/util/AbstractList" = true := by first | (simp [plainName, overriddenIn]; done) | decide +kernel
theorem jd_39_1__0 : decode jdk_39_method_1_code 0 = .ok (.aload_n 0, 1) := by decide +kernel
theorem jd_39_1__1 : decode jdk_39_method_1_code 1 = .ok (.invokespecial 1, 3) := by decide +kernel
theorem pd___V : parseMethodDescriptor "()V" = some ⟨[], none⟩ := by decide +kernel
theorem jd_39_1__4 : decode jdk_39_method_1_code 4 = .ok (.aload_n 0, 1) := by decide +kernel
theorem jd_39_1__5 : decode jdk_39_method_1_code 5 = .ok (.iconst 0, 1) := by decide +kernel
theorem jd_39_1__6 : decode jdk_39_method_1_code 6 = .ok (.putfield 7, 3) := by decide +kernel
theorem jd_39_1__9 : decode jdk_39_method_1_code 9 = .ok (.return_, 1) := by decide +kernel
set_option maxRecDepth 65536 in
set_option maxHeartbeats 40000000 in
theorem rmAL (l : Launch) (Z : State) (a0 : Array Value) (hw : ∀ d ∈ tables_1, d.before a0 Z = true) (a aD : Addr) (n0 : Nat) (h0 : Heap) (n0_a : n0 ≤ a) (E : Exa Z h0 a "java/util/ArrayList") (F1 : Fld Z h0 a "java/util/AbstractList" "modCount" "I" (.int (0 : Int32))) (F2 : Fld Z h0 a "java/util/ArrayList" "elementData" "[Ljava/lang/Object;" .null) (F3 : Fld Z h0 a "java/util/ArrayList" "size" "I" (.int (0 : Int32))) (S : Sta Z h0 "java/util/ArrayList" "DEFAULTCAPACITY_EMPTY_ELEMENTDATA" "[Ljava/lang/Object;" (.ref aD)) : Con l Z (⟨"java/util/AbstractList", "<init>", "()V"⟩ : MethodName) jdk_39_method_1_code 1 none [] ({ frames := 2, cells := 0, slots := 0, locals := 24 } : Room) #[(.ref a)] h0 (fun v h L => v = none ∧ Fr n0 L ∧ Keep h0 h [a] ∧ Exa Z h a "java/util/ArrayList" ∧ Fld Z h a "java/util/AbstractList" "modCount" "I" (.int (0 : Int32)) ∧ Fld Z h a "java/util/ArrayList" "elementData" "[Ljava/lang/Object;" .null ∧ Fld Z h a "java/util/ArrayList" "size" "I" (.int (0 : Int32)) ∧ Sta Z h "java/util/ArrayList" "DEFAULTCAPACITY_EMPTY_ELEMENTDATA" "[Ljava/lang/Object;" (.ref aD)) := by
  refine Con.of (plainFor_of_name pn_java_util_AbstractList) ?_
  intro p e s m below meth c T X hx hby hml hown hnm hret eT hZ hsh Φ fin
  replace hown : s.vm.findClass "java/util/AbstractList" = some m.cls := hown
  replace hml : 1 = c.maxLocals := hml.symm
  refine own_step (fun tq kq => castTop (ef_rmAL m a) kq) ?_
  have N0 := Fr.nil n0
  have K0 : Keep h0 h0 [a] := Keep.refl h0 [a]
  refine own_aloadN X hx hby jd_39_1__0 rfl rfl (pc' := 1) rfl ?_
  refine own_callI X hx hby hZ (by exact hml) hown rfl (own_w hw 12 rfl) (own_w hw 13 rfl) (own_w hw 16 rfl) (own_w hw 17 rfl) (by decide) eT 0 (by decide) (by decide) (by decide) (by decide) (argsL := []) (rest := []) (lenOf pd___V rfl) rfl (Nat.le_of_eq rfl) (rmAC l Z a0 hw a h0) jd_39_1__1 (pc' := 4) rfl ?_
  intro v1 T1 L1 X1 hQ1
  obtain ⟨rfl, rfl, e1⟩ := hQ1
  rw [List.append_nil] at X1
  replace e1 : T1.heap = h0 := e1
  show GoP p e below Φ (T1.setTop (mkF m 4 #[.val (.ref a)] []))
  refine own_aloadN X1 hx hby jd_39_1__4 rfl rfl (pc' := 5) rfl ?_
  refine own_iconst X1 hx hby jd_39_1__5 (v := (0 : Int32)) rfl (pc' := 6) rfl ?_
  refine own_putF X1 hx hby hZ hown (host := "") (Or.inl (own_w hw 21 rfl)) Via.refl e1 F1 E (Or.inl (own_w hw 22 rfl)) (own_w hw 1 rfl) (ty := .int) (by decide) rfl rfl jd_39_1__6 (pc' := 9) rfl ?_
  intro T2 h2 X2 e2 W2
  have E3_a := E.wr W2
  have F4_modCount := F1.same W2
  have F5_elementData := F2.other W2 (Or.inr (slot_ne (Or.inl (own_w hw 25 rfl)) (Or.inl (own_w hw 22 rfl)) (by decide) (t := (.array (.object "java/lang/Object"))) (t' := .int) (by decide) (by decide)))
  have F6_size := F3.other W2 (Or.inr (slot_ne (Or.inl (own_w hw 58 rfl)) (Or.inl (own_w hw 22 rfl)) (by decide) (t := .int) (t' := .int) (by decide) (by decide)))
  have S7_DEFAULTCAPACITY_EMPTY_ELEMENTDATA := S.wr W2
  have N2 := Fr.snoc X2 N0 n0_a
  have K2 : Keep h0 h2 [a] := K0.wr W2 (Or.inl (List.mem_of_getElem? (i := 0) rfl))
  exact own_ret0 X2 hx hby fin hret jd_39_1__9 (by decide) (by decide) (by rw [e2]; exact ⟨rfl, N2, K2, E3_a, F4_modCount, F5_elementData, F6_size, S7_DEFAULTCAPACITY_EMPTY_ELEMENTDATA⟩)
theorem ef_rmAI (m : MethodId) (x0 : Addr) : entryFrame m #[(.ref x0)] 1 = mkF m 0 #[.val (.ref x0)] [] := by first | (simp [entryFrame, mkF, argsToLocals, Value.category]; done) | rfl
theorem jd_38_2__0 : decode jdk_38_method_2_code 0 = .ok (.aload_n 0, 1) := by decide +kernel
theorem jd_38_2__1 : decode jdk_38_method_2_code 1 = .ok (.invokespecial 1, 3) := by decide +kernel
theorem jd_38_2__4 : decode jdk_38_method_2_code 4 = .ok (.aload_n 0, 1) := by decide +kernel
theorem jd_38_2__5 : decode jdk_38_method_2_code 5 = .ok (.getstatic 39, 3) := by decide +kernel
theorem jd_38_2__8 : decode jdk_38_method_2_code 8 = .ok (.putfield 9, 3) := by decide +kernel
theorem jd_38_2__11 : decode jdk_38_method_2_code 11 = .ok (.return_, 1) := by decide +kernel
set_option maxRecDepth 65536 in
set_option maxHeartbeats 40000000 in
theorem rmAI (l : Launch) (Z : State) (a0 : Array Value) (hw : ∀ d ∈ tables_1, d.before a0 Z = true) (a aD : Addr) (n0 : Nat) (h0 : Heap) (n0_a : n0 ≤ a) (E : Exa Z h0 a "java/util/ArrayList") (F1 : Fld Z h0 a "java/util/AbstractList" "modCount" "I" (.int (0 : Int32))) (F2 : Fld Z h0 a "java/util/ArrayList" "elementData" "[Ljava/lang/Object;" .null) (F3 : Fld Z h0 a "java/util/ArrayList" "size" "I" (.int (0 : Int32))) (S : Sta Z h0 "java/util/ArrayList" "DEFAULTCAPACITY_EMPTY_ELEMENTDATA" "[Ljava/lang/Object;" (.ref aD)) : Con l Z (⟨"java/util/ArrayList", "<init>", "()V"⟩ : MethodName) jdk_38_method_2_code 1 none [] ({ frames := 3, cells := 0, slots := 0, locals := 36 } : Room) #[(.ref a)] h0 (fun v h L => v = none ∧ Fr n0 L ∧ Keep h0 h [a] ∧ Exa Z h a "java/util/ArrayList" ∧ Fld Z h a "java/util/AbstractList" "modCount" "I" (.int (0 : Int32)) ∧ Fld Z h a "java/util/ArrayList" "elementData" "[Ljava/lang/Object;" (.ref aD) ∧ Fld Z h a "java/util/ArrayList" "size" "I" (.int (0 : Int32)) ∧ Sta Z h "java/util/ArrayList" "DEFAULTCAPACITY_EMPTY_ELEMENTDATA" "[Ljava/lang/Object;" (.ref aD)) := by
  refine Con.of (plainFor_of_name pn_java_util_ArrayList) ?_
  intro p e s m below meth c T X hx hby hml hown hnm hret eT hZ hsh Φ fin
  replace hown : s.vm.findClass "java/util/ArrayList" = some m.cls := hown
  replace hml : 1 = c.maxLocals := hml.symm
  refine own_step (fun tq kq => castTop (ef_rmAI m a) kq) ?_
  have N0 := Fr.nil n0
  have K0 : Keep h0 h0 [a] := Keep.refl h0 [a]
  refine own_aloadN X hx hby jd_38_2__0 rfl rfl (pc' := 1) rfl ?_
  refine own_callI X hx hby hZ (by exact hml) hown rfl (own_w hw 6 rfl) (own_w hw 7 rfl) (own_w hw 10 rfl) (own_w hw 11 rfl) (by decide) eT 0 (by decide) (by decide) (by decide) (by decide) (argsL := []) (rest := []) (lenOf pd___V rfl) rfl (Nat.le_of_eq rfl) (rmAL l Z a0 hw a aD n0 h0 n0_a E F1 F2 F3 S) jd_38_2__1 (pc' := 4) rfl ?_
  intro v1 T1 L1 X1 hQ1
  obtain ⟨rfl, Nq1, K1, E1, G11, G21, G31, S1⟩ := hQ1
  have N1 := Fr.app N0 Nq1
  have KK1 : Keep h0 T1.heap [a] := K0.trans K1 (allS (Or.inl (List.mem_of_getElem? (i := 0) rfl)) all0)
  show GoP p e below Φ (T1.setTop (mkF m 4 #[.val (.ref a)] []))
  refine own_aloadN X1 hx hby jd_38_2__4 rfl rfl (pc' := 5) rfl ?_
  refine own_getS X1 hx hby hZ hown (host := "") (Or.inl (own_w hw 23 rfl)) Via.refl rfl S1 jd_38_2__5 (pc' := 8) rfl ?_
  intro T2 X2 e2
  refine own_putF X2 hx hby hZ hown (host := "") (Or.inl (own_w hw 24 rfl)) Via.refl e2 G21 E1 (Or.inl (own_w hw 25 rfl)) (own_w hw 1 rfl) (ty := (.array (.object "java/lang/Object"))) (by decide) rfl rfl jd_38_2__8 (pc' := 11) rfl ?_
  intro T3 h3 X3 e3 W3
  have E4_a := E1.wr W3
  have F5_modCount := G11.other W3 (Or.inr (slot_ne (Or.inl (own_w hw 22 rfl)) (Or.inl (own_w hw 25 rfl)) (by decide) (t := .int) (t' := (.array (.object "java/lang/Object"))) (by decide) (by decide)))
  have F6_elementData := G21.same W3
  have F7_size := G31.other W3 (Or.inr (slot_ne (Or.inl (own_w hw 58 rfl)) (Or.inl (own_w hw 25 rfl)) (by decide) (t := .int) (t' := (.array (.object "java/lang/Object"))) (by decide) (by decide)))
  have S8_DEFAULTCAPACITY_EMPTY_ELEMENTDATA := S1.wr W3
  have N3 := Fr.snoc X3 N1 n0_a
  have K3 : Keep h0 h3 [a] := KK1.wr W3 (Or.inl (List.mem_of_getElem? (i := 0) rfl))
  exact own_ret0 X3 hx hby fin hret jd_38_2__11 (by decide) (by decide) (by rw [e3]; exact ⟨rfl, N3, K3, E4_a, F5_modCount, F6_elementData, F7_size, S8_DEFAULTCAPACITY_EMPTY_ELEMENTDATA⟩)
theorem ef_rmGr1 (m : MethodId) (x0 : Addr) (x1 : Int32) : entryFrame m #[(.ref x0), (.int x1)] 4 = mkF m 0 #[.val (.ref x0), .val (.int x1), .unset, .unset] [] := by first | (simp [entryFrame, mkF, argsToLocals, Value.category]; done) | rfl
theorem jd_38_6__0 : decode jdk_38_method_6_code 0 = .ok (.aload_n 0, 1) := by decide +kernel
theorem jd_38_6__1 : decode jdk_38_method_6_code 1 = .ok (.getfield 9, 3) := by decide +kernel
theorem jd_38_6__4 : decode jdk_38_method_6_code 4 = .ok (.arraylength, 1) := by decide +kernel
theorem jd_38_6__5 : decode jdk_38_method_6_code 5 = .ok (.istore_n 2, 1) := by decide +kernel
theorem jd_38_6__6 : decode jdk_38_method_6_code 6 = .ok (.iload_n 2, 1) := by decide +kernel
theorem jd_38_6__7 : decode jdk_38_method_6_code 7 = .ok (.ifCond .gt 13, 3) := by decide +kernel
theorem jd_38_6__10 : decode jdk_38_method_6_code 10 = .ok (.aload_n 0, 1) := by decide +kernel
theorem jd_38_6__11 : decode jdk_38_method_6_code 11 = .ok (.getfield 9, 3) := by decide +kernel
theorem jd_38_6__14 : decode jdk_38_method_6_code 14 = .ok (.getstatic 39, 3) := by decide +kernel
theorem jd_38_6__17 : decode jdk_38_method_6_code 17 = .ok (.if_acmp .eq 28, 3) := by decide +kernel
theorem jd_38_6__45 : decode jdk_38_method_6_code 45 = .ok (.aload_n 0, 1) := by decide +kernel
theorem jd_38_6__46 : decode jdk_38_method_6_code 46 = .ok (.bipush 10, 2) := by decide +kernel
theorem jd_38_6__48 : decode jdk_38_method_6_code 48 = .ok (.iload_n 1, 1) := by decide +kernel
theorem jd_38_6__49 : decode jdk_38_method_6_code 49 = .ok (.invokestatic 79, 3) := by decide +kernel
theorem jd_38_6__52 : decode jdk_38_method_6_code 52 = .ok (.anewarray 7, 3) := by decide +kernel
theorem jd_38_6__55 : decode jdk_38_method_6_code 55 = .ok (.dup_x1, 1) := by decide +kernel
theorem jd_38_6__56 : decode jdk_38_method_6_code 56 = .ok (.putfield 9, 3) := by decide +kernel
theorem jd_38_6__59 : decode jdk_38_method_6_code 59 = .ok (.areturn, 1) := by decide +kernel
set_option maxRecDepth 65536 in
set_option maxHeartbeats 40000000 in
theorem rmGr1 (l : Launch) (Z : State) (a0 : Array Value) (hw : ∀ d ∈ tables_1, d.before a0 Z = true) (a aD : Addr) (n0 : Nat) (h0 : Heap) (n0_a : n0 ≤ a) (Z0 : n0 ≤ h0.size) (ne_a_aD : a ≠ aD) (E : Exa Z h0 a "java/util/ArrayList") (F1 : Fld Z h0 a "java/util/AbstractList" "modCount" "I" (.int (1 : Int32))) (F2 : Fld Z h0 a "java/util/ArrayList" "elementData" "[Ljava/lang/Object;" (.ref aD)) (F3 : Fld Z h0 a "java/util/ArrayList" "size" "I" (.int (0 : Int32))) (S : Sta Z h0 "java/util/ArrayList" "DEFAULTCAPACITY_EMPTY_ELEMENTDATA" "[Ljava/lang/Object;" (.ref aD)) (VD : AV Z h0 aD (.object "java/lang/Object") []) : Con l Z (⟨"java/util/ArrayList", "grow", "(I)[Ljava/lang/Object;"⟩ : MethodName) jdk_38_method_6_code 4 (some (.array (.object "java/lang/Object"))) [] ({ frames := 1, cells := 1, slots := 10, locals := 20 } : Room) #[(.ref a), (.int (1 : Int32))] h0 (fun v h L => ∃ es : Addr, v = some (.ref es) ∧ Fr n0 L ∧ Keep h0 h [a] ∧ h0.size ≤ es ∧ Exa Z h a "java/util/ArrayList" ∧ Fld Z h a "java/util/AbstractList" "modCount" "I" (.int (1 : Int32)) ∧ Fld Z h a "java/util/ArrayList" "elementData" "[Ljava/lang/Object;" (.ref es) ∧ Fld Z h a "java/util/ArrayList" "size" "I" (.int (0 : Int32)) ∧ AV Z h es (.object "java/lang/Object") [.null, .null, .null, .null, .null, .null, .null, .null, .null, .null] ∧ CM Z h es "java/lang/Object") := by
  refine Con.of (plainFor_of_name pn_java_util_ArrayList) ?_
  intro p e s m below meth c T X hx hby hml hown hnm hret eT hZ hsh Φ fin
  replace hown : s.vm.findClass "java/util/ArrayList" = some m.cls := hown
  replace hml : 4 = c.maxLocals := hml.symm
  refine own_step (fun tq kq => castTop (ef_rmGr1 m a (1 : Int32)) kq) ?_
  have N0 := Fr.nil n0
  have K0 : Keep h0 h0 [a] := Keep.refl h0 [a]
  refine own_aloadN X hx hby jd_38_6__0 rfl rfl (pc' := 1) rfl ?_
  refine own_getF X hx hby hZ hown (host := "") (Or.inl (own_w hw 24 rfl)) Via.refl eT F2 jd_38_6__1 (pc' := 4) rfl ?_
  intro T1 X1 e1
  refine own_alen X1 hx hby hZ e1 (n := (0 : Int32)) VD rfl jd_38_6__4 (pc' := 5) rfl ?_
  refine own_istoreN X1 hx hby jd_38_6__5  (Ls' := #[.val (.ref a), .val (.int (1 : Int32)), .val (.int (0 : Int32)), .unset]) rfl (pc' := 6) rfl ?_
  refine own_iloadN X1 hx hby jd_38_6__6 rfl (pc' := 7) rfl ?_
  refine own_ifN X1 hx hby jd_38_6__7 ((if0 _ _).trans (flt (by decide)).2.2.1) (pc' := 10) rfl ?_
  refine own_aloadN X1 hx hby jd_38_6__10 rfl rfl (pc' := 11) rfl ?_
  refine own_getF X1 hx hby hZ hown (host := "") (Or.inl (own_w hw 24 rfl)) Via.refl e1 F2 jd_38_6__11 (pc' := 14) rfl ?_
  intro T2 X2 e2
  refine own_getS X2 hx hby hZ hown (host := "") (Or.inl (own_w hw 23 rfl)) Via.refl e2 S jd_38_6__14 (pc' := 17) rfl ?_
  intro T3 X3 e3
  refine own_acmp X3 hx hby jd_38_6__17 rfl rfl (same := true) (decide_eq_true (congrArg Value.ref rfl)) (by decide) (pc' := 45) (by decide) ?_
  refine own_aloadN X3 hx hby jd_38_6__45 rfl rfl (pc' := 46) rfl ?_
  refine own_bipush X3 hx hby jd_38_6__46 (v := (10 : Int32)) rfl (pc' := 48) rfl ?_
  refine own_iloadN X3 hx hby jd_38_6__48 rfl (pc' := 49) rfl ?_
  refine own_callS X3 hx hby hZ (by exact hml) hown (own_w hw 74 rfl) (own_w hw 75 rfl) (own_w hw 76 rfl) (own_w hw 77 rfl) (by decide) e3 1 (by decide) (by decide) (by decide) (by decide) (argsL := [(.int (10 : Int32)), (.int (1 : Int32))]) (rest := [(.ref a)]) (lenOf pd__II_I rfl) rfl (rmMx l Z a0 hw h0) (Nat.le_of_eq rfl) jd_38_6__49 (pc' := 52) rfl ?_
  intro v4 T4 L4 X4 hQ4
  obtain ⟨rfl, rfl, e4⟩ := hQ4
  rw [List.append_nil] at X4
  replace e4 : T4.heap = h0 := e4
  show GoP p e below Φ (T4.setTop (mkF m 52 #[.val (.ref a), .val (.int (1 : Int32)), .val (.int (0 : Int32)), .unset] [(.int (10 : Int32)), (.ref a)]))
  refine own_newR X4 hx hby hZ hown (own_w hw 78 rfl) (own_w hw 79 rfl) e4 (by decide) 10 (by decide) (by decide) (by decide) (by decide) jd_38_6__52 (pc' := 55) rfl ?_
  intro T5 h5 b5 X5 e5 E5 g5 V5 Y5
  have ne_a_b5 : a ≠ b5 := Nat.ne_of_lt (g5 ▸ E.lt)
  have ne_aD_b5 : aD ≠ b5 := Nat.ne_of_lt (g5 ▸ VD.lt)
  have E6_a := E.ext E5
  have F7_modCount := F1.ext E5
  have F8_elementData := F2.ext E5
  have F9_size := F3.ext E5
  have S10_DEFAULTCAPACITY_EMPTY_ELEMENTDATA := S.ext E5
  have V11_aD := VD.ext E5
  have Z5 : n0 ≤ h5.size := Nat.le_trans Z0 E5.1
  have n0_b5 : n0 ≤ b5 := g5 ▸ Z0
  have sz_b5 : h0.size ≤ b5 := g5 ▸ K0.1
  have K5 : Keep h0 h5 [a] := K0.ext E5
  replace V5 : AV Z h5 b5 (.object "java/lang/Object") [.null, .null, .null, .null, .null, .null, .null, .null, .null, .null] := V5
  show GoP p e below Φ (T5.setTop (mkF m 55 #[.val (.ref a), .val (.int (1 : Int32)), .val (.int (0 : Int32)), .unset] [(.ref b5), (.ref a)]))
  refine own_dup_x1 X5 hx hby jd_38_6__55 rfl rfl (pc' := 56) rfl ?_
  refine own_putF X5 hx hby hZ hown (host := "") (Or.inl (own_w hw 24 rfl)) Via.refl e5 F8_elementData E6_a (Or.inl (own_w hw 25 rfl)) (own_w hw 1 rfl) (ty := (.array (.object "java/lang/Object"))) (by decide) rfl rfl jd_38_6__56 (pc' := 59) rfl ?_
  intro T12 h12 X12 e12 W12
  have E13_a := E6_a.wr W12
  have F14_modCount := F7_modCount.other W12 (Or.inr (slot_ne (Or.inl (own_w hw 22 rfl)) (Or.inl (own_w hw 25 rfl)) (by decide) (t := .int) (t' := (.array (.object "java/lang/Object"))) (by decide) (by decide)))
  have F15_elementData := F8_elementData.same W12
  have F16_size := F9_size.other W12 (Or.inr (slot_ne (Or.inl (own_w hw 58 rfl)) (Or.inl (own_w hw 25 rfl)) (by decide) (t := .int) (t' := (.array (.object "java/lang/Object"))) (by decide) (by decide)))
  have S17_DEFAULTCAPACITY_EMPTY_ELEMENTDATA := S10_DEFAULTCAPACITY_EMPTY_ELEMENTDATA.wr W12
  have V18_aD := V11_aD.other W12 (Ne.symm ne_a_aD)
  have V19_b5 := V5.other W12 (Ne.symm ne_a_b5)
  have Y20_b5 := Y5.wr W12
  have Z12 : n0 ≤ h12.size := by rw [W12.size]; exact Z5
  have N12 := Fr.snoc X12 N0 n0_a
  have K12 : Keep h0 h12 [a] := K5.wr W12 (Or.inl (List.mem_of_getElem? (i := 0) rfl))
  exact own_retA X12 hx hby fin hret rfl rfl rfl jd_38_6__59 (by decide) (by decide) (by rw [e12]; exact ⟨b5, rfl, N12, K12, sz_b5, E13_a, F14_modCount, F15_elementData, F16_size, V19_b5, Y20_b5⟩)
theorem ef_rmGr0 (m : MethodId) (x0 : Addr) : entryFrame m #[(.ref x0)] 1 = mkF m 0 #[.val (.ref x0)] [] := by first | (simp [entryFrame, mkF, argsToLocals, Value.category]; done) | rfl
theorem jd_38_7__0 : decode jdk_38_method_7_code 0 = .ok (.aload_n 0, 1) := by decide +kernel
theorem jd_38_7__1 : decode jdk_38_method_7_code 1 = .ok (.aload_n 0, 1) := by decide +kernel
theorem jd_38_7__2 : decode jdk_38_method_7_code 2 = .ok (.getfield 48, 3) := by decide +kernel
theorem jd_38_7__5 : decode jdk_38_method_7_code 5 = .ok (.iconst 1, 1) := by decide +kernel
theorem jd_38_7__6 : decode jdk_38_method_7_code 6 = .ok (.iadd, 1) := by decide +kernel
theorem jd_38_7__7 : decode jdk_38_method_7_code 7 = .ok (.invokevirtual 69, 3) := by decide +kernel
theorem pd__I__Ljava_lang_Object_ : parseMethodDescriptor "(I)[Ljava/lang/Object;" = some ⟨[.int], some (.array (.object "java/lang/Object"))⟩ := by decide +kernel
theorem jd_38_7__10 : decode jdk_38_method_7_code 10 = .ok (.areturn, 1) := by decide +kernel
set_option maxRecDepth 65536 in
set_option maxHeartbeats 40000000 in
theorem rmGr0 (l : Launch) (Z : State) (a0 : Array Value) (hw : ∀ d ∈ tables_1, d.before a0 Z = true) (a aD : Addr) (n0 : Nat) (h0 : Heap) (n0_a : n0 ≤ a) (Z0 : n0 ≤ h0.size) (ne_a_aD : a ≠ aD) (E : Exa Z h0 a "java/util/ArrayList") (F1 : Fld Z h0 a "java/util/AbstractList" "modCount" "I" (.int (1 : Int32))) (F2 : Fld Z h0 a "java/util/ArrayList" "elementData" "[Ljava/lang/Object;" (.ref aD)) (F3 : Fld Z h0 a "java/util/ArrayList" "size" "I" (.int (0 : Int32))) (S : Sta Z h0 "java/util/ArrayList" "DEFAULTCAPACITY_EMPTY_ELEMENTDATA" "[Ljava/lang/Object;" (.ref aD)) (VD : AV Z h0 aD (.object "java/lang/Object") []) : Con l Z (⟨"java/util/ArrayList", "grow", "()[Ljava/lang/Object;"⟩ : MethodName) jdk_38_method_7_code 1 (some (.array (.object "java/lang/Object"))) [] ({ frames := 2, cells := 1, slots := 10, locals := 40 } : Room) #[(.ref a)] h0 (fun v h L => ∃ es : Addr, v = some (.ref es) ∧ Fr n0 L ∧ Keep h0 h [a] ∧ h0.size ≤ es ∧ Exa Z h a "java/util/ArrayList" ∧ Fld Z h a "java/util/AbstractList" "modCount" "I" (.int (1 : Int32)) ∧ Fld Z h a "java/util/ArrayList" "elementData" "[Ljava/lang/Object;" (.ref es) ∧ Fld Z h a "java/util/ArrayList" "size" "I" (.int (0 : Int32)) ∧ AV Z h es (.object "java/lang/Object") [.null, .null, .null, .null, .null, .null, .null, .null, .null, .null] ∧ CM Z h es "java/lang/Object") := by
  refine Con.of (plainFor_of_name pn_java_util_ArrayList) ?_
  intro p e s m below meth c T X hx hby hml hown hnm hret eT hZ hsh Φ fin
  replace hown : s.vm.findClass "java/util/ArrayList" = some m.cls := hown
  replace hml : 1 = c.maxLocals := hml.symm
  refine own_step (fun tq kq => castTop (ef_rmGr0 m a) kq) ?_
  have N0 := Fr.nil n0
  have K0 : Keep h0 h0 [a] := Keep.refl h0 [a]
  refine own_aloadN X hx hby jd_38_7__0 rfl rfl (pc' := 1) rfl ?_
  refine own_aloadN X hx hby jd_38_7__1 rfl rfl (pc' := 2) rfl ?_
  refine own_getF X hx hby hZ hown (host := "") (Or.inl (own_w hw 57 rfl)) Via.refl eT F3 jd_38_7__2 (pc' := 5) rfl ?_
  intro T1 X1 e1
  refine own_iconst X1 hx hby jd_38_7__5 (v := (1 : Int32)) rfl (pc' := 6) rfl ?_
  refine own_iadd X1 hx hby jd_38_7__6 (pc' := 7) rfl ?_
  show GoP p e below Φ (T1.setTop (mkF m 7 #[.val (.ref a)] [(.int (1 : Int32)), (.ref a)]))
  refine own_callP X1 hx hby hZ (by exact hml) hown (own_w hw 69 rfl) (own_w hw 71 rfl) (own_w hw 72 rfl) (own_w hw 70 rfl) (own_w hw 2 rfl) (own_w hw 73 rfl) (by decide) e1 0 (by decide) (by decide) (by decide) (by decide) (argsL := [(.int (1 : Int32))]) (rest := []) (lenOf pd__I__Ljava_lang_Object_ rfl) rfl (Nat.le_of_eq rfl) E (rmGr1 l Z a0 hw a aD n0 h0 n0_a Z0 ne_a_aD E F1 F2 F3 S VD) jd_38_7__7 (pc' := 10) rfl ?_
  intro v2 T2 L2 X2 hQ2
  obtain ⟨es, rfl, Nq2, K2, se2, E2, G12, G22, G32, V2, Y2⟩ := hQ2
  have ne_a_es : a ≠ es := Nat.ne_of_lt (Nat.lt_of_lt_of_le E.lt se2)
  have sz_es : h0.size ≤ es := Nat.le_trans K0.1 se2
  have n0_es : n0 ≤ es := Nat.le_trans Z0 sz_es
  have N2 := Fr.app N0 Nq2
  have Z2 : n0 ≤ T2.heap.size := Nat.le_trans Z0 K2.1
  have KK2 : Keep h0 T2.heap [a] := K0.trans K2 (allS (Or.inl (List.mem_of_getElem? (i := 0) rfl)) all0)
  show GoP p e below Φ (T2.setTop (mkF m 10 #[.val (.ref a)] [(.ref es)]))
  exact own_retA X2 hx hby fin hret rfl rfl rfl jd_38_7__10 (by decide) (by decide) ⟨es, rfl, N2, KK2, sz_es, E2, G12, G22, G32, V2, Y2⟩
theorem ef_rmA3 (m : MethodId) (x0 : Addr) (x1 : Addr) (x2 : Addr) (x3 : Int32) : entryFrame m #[(.ref x0), (.ref x1), (.ref x2), (.int x3)] 4 = mkF m 0 #[.val (.ref x0), .val (.ref x1), .val (.ref x2), .val (.int x3)] [] := by first | (simp [entryFrame, mkF, argsToLocals, Value.category]; done) | rfl
theorem jd_38_24__0 : decode jdk_38_method_24_code 0 = .ok (.iload_n 3, 1) := by decide +kernel
theorem jd_38_24__1 : decode jdk_38_method_24_code 1 = .ok (.aload_n 2, 1) := by decide +kernel
theorem jd_38_24__2 : decode jdk_38_method_24_code 2 = .ok (.arraylength, 1) := by decide +kernel
theorem jd_38_24__3 : decode jdk_38_method_24_code 3 = .ok (.if_icmp .ne 8, 3) := by decide +kernel
theorem jd_38_24__6 : decode jdk_38_method_24_code 6 = .ok (.aload_n 0, 1) := by decide +kernel
theorem jd_38_24__7 : decode jdk_38_method_24_code 7 = .ok (.invokevirtual 129, 3) := by decide +kernel
theorem pd____Ljava_lang_Object_ : parseMethodDescriptor "()[Ljava/lang/Object;" = some ⟨[], some (.array (.object "java/lang/Object"))⟩ := by decide +kernel
theorem jd_38_24__10 : decode jdk_38_method_24_code 10 = .ok (.astore_n 2, 1) := by decide +kernel
theorem jd_38_24__11 : decode jdk_38_method_24_code 11 = .ok (.aload_n 2, 1) := by decide +kernel
theorem jd_38_24__12 : decode jdk_38_method_24_code 12 = .ok (.iload_n 3, 1) := by decide +kernel
theorem jd_38_24__13 : decode jdk_38_method_24_code 13 = .ok (.aload_n 1, 1) := by decide +kernel
theorem jd_38_24__14 : decode jdk_38_method_24_code 14 = .ok (.aastore, 1) := by decide +kernel
theorem jd_38_24__15 : decode jdk_38_method_24_code 15 = .ok (.aload_n 0, 1) := by decide +kernel
theorem jd_38_24__16 : decode jdk_38_method_24_code 16 = .ok (.iload_n 3, 1) := by decide +kernel
theorem jd_38_24__17 : decode jdk_38_method_24_code 17 = .ok (.iconst 1, 1) := by decide +kernel
theorem jd_38_24__18 : decode jdk_38_method_24_code 18 = .ok (.iadd, 1) := by decide +kernel
theorem jd_38_24__19 : decode jdk_38_method_24_code 19 = .ok (.putfield 48, 3) := by decide +kernel
theorem jd_38_24__22 : decode jdk_38_method_24_code 22 = .ok (.return_, 1) := by decide +kernel
set_option maxRecDepth 65536 in
set_option maxHeartbeats 40000000 in
theorem rmA3 (l : Launch) (Z : State) (a0 : Array Value) (hw : ∀ d ∈ tables_1, d.before a0 Z = true) (a aD x : Addr) (n0 : Nat) (h0 : Heap) (n0_a : n0 ≤ a) (Z0 : n0 ≤ h0.size) (ne_a_aD : a ≠ aD) (E : Exa Z h0 a "java/util/ArrayList") (F1 : Fld Z h0 a "java/util/AbstractList" "modCount" "I" (.int (1 : Int32))) (F2 : Fld Z h0 a "java/util/ArrayList" "elementData" "[Ljava/lang/Object;" (.ref aD)) (F3 : Fld Z h0 a "java/util/ArrayList" "size" "I" (.int (0 : Int32))) (S : Sta Z h0 "java/util/ArrayList" "DEFAULTCAPACITY_EMPTY_ELEMENTDATA" "[Ljava/lang/Object;" (.ref aD)) (VD : AV Z h0 aD (.object "java/lang/Object") []) (ne_a_x : a ≠ x) (Ex : Exa Z h0 x "com/example/wayfold/wayfold/TrafficNetwork$Link") : Con l Z (⟨"java/util/ArrayList", "add", "(Ljava/lang/Object;[Ljava/lang/Object;I)V"⟩ : MethodName) jdk_38_method_24_code 4 none [] ({ frames := 3, cells := 1, slots := 10, locals := 60 } : Room) #[(.ref a), (.ref x), (.ref aD), (.int (0 : Int32))] h0 (fun v h L => ∃ es : Addr, v = none ∧ Fr n0 L ∧ Keep h0 h [a] ∧ h0.size ≤ es ∧ Exa Z h a "java/util/ArrayList" ∧ Fld Z h a "java/util/AbstractList" "modCount" "I" (.int (1 : Int32)) ∧ Fld Z h a "java/util/ArrayList" "elementData" "[Ljava/lang/Object;" (.ref es) ∧ Fld Z h a "java/util/ArrayList" "size" "I" (.int (1 : Int32)) ∧ AV Z h es (.object "java/lang/Object") [(.ref x), .null, .null, .null, .null, .null, .null, .null, .null, .null] ∧ CM Z h es "java/lang/Object") := by
  refine Con.of (plainFor_of_name pn_java_util_ArrayList) ?_
  intro p e s m below meth c T X hx hby hml hown hnm hret eT hZ hsh Φ fin
  replace hown : s.vm.findClass "java/util/ArrayList" = some m.cls := hown
  replace hml : 4 = c.maxLocals := hml.symm
  refine own_step (fun tq kq => castTop (ef_rmA3 m a x aD (0 : Int32)) kq) ?_
  have N0 := Fr.nil n0
  have K0 : Keep h0 h0 [a] := Keep.refl h0 [a]
  refine own_iloadN X hx hby jd_38_24__0 rfl (pc' := 1) rfl ?_
  refine own_aloadN X hx hby jd_38_24__1 rfl rfl (pc' := 2) rfl ?_
  refine own_alen X hx hby hZ eT (n := (0 : Int32)) VD rfl jd_38_24__2 (pc' := 3) rfl ?_
  refine own_icmpN X hx hby jd_38_24__3 (teq (by decide)).2 (pc' := 6) rfl ?_
  refine own_aloadN X hx hby jd_38_24__6 rfl rfl (pc' := 7) rfl ?_
  refine own_callP X hx hby hZ (by exact hml) hown (own_w hw 64 rfl) (own_w hw 66 rfl) (own_w hw 67 rfl) (own_w hw 65 rfl) (own_w hw 2 rfl) (own_w hw 68 rfl) (by decide) eT 0 (by decide) (by decide) (by decide) (by decide) (argsL := []) (rest := []) (lenOf pd____Ljava_lang_Object_ rfl) rfl (Nat.le_of_eq rfl) E (rmGr0 l Z a0 hw a aD n0 h0 n0_a Z0 ne_a_aD E F1 F2 F3 S VD) jd_38_24__7 (pc' := 10) rfl ?_
  intro v1 T1 L1 X1 hQ1
  obtain ⟨es, rfl, Nq1, K1, se1, E1, G11, G21, G31, V1, Y1⟩ := hQ1
  have ne_a_es : a ≠ es := Nat.ne_of_lt (Nat.lt_of_lt_of_le E.lt se1)
  have ne_x_es : x ≠ es := Nat.ne_of_lt (Nat.lt_of_lt_of_le Ex.lt se1)
  have sz_es : h0.size ≤ es := Nat.le_trans K0.1 se1
  have n0_es : n0 ≤ es := Nat.le_trans Z0 sz_es
  have E2_x := Ex.keep K1
  have N1 := Fr.app N0 Nq1
  have Z1 : n0 ≤ T1.heap.size := Nat.le_trans Z0 K1.1
  have KK1 : Keep h0 T1.heap [a] := K0.trans K1 (allS (Or.inl (List.mem_of_getElem? (i := 0) rfl)) all0)
  show GoP p e below Φ (T1.setTop (mkF m 10 #[.val (.ref a), .val (.ref x), .val (.ref aD), .val (.int (0 : Int32))] [(.ref es)]))
  refine own_astoreN X1 hx hby jd_38_24__10 rfl (Ls' := #[.val (.ref a), .val (.ref x), .val (.ref es), .val (.int (0 : Int32))]) rfl (pc' := 11) rfl ?_
  refine own_aloadN X1 hx hby jd_38_24__11 rfl rfl (pc' := 12) rfl ?_
  refine own_iloadN X1 hx hby jd_38_24__12 rfl (pc' := 13) rfl ?_
  refine own_aloadN X1 hx hby jd_38_24__13 rfl rfl (pc' := 14) rfl ?_
  refine own_aastore X1 hx hby hZ rfl V1 rfl (own_sto V1 Y1 (Ins.of_exa E2_x (own_w hw 80 rfl))) (by decide) (Nat.le_of_ble_eq_true rfl) jd_38_24__14 (pc' := 15) rfl ?_
  intro T3 h3 X3 e3 W3 V3
  replace V3 : AV Z h3 es (.object "java/lang/Object") [(.ref x), .null, .null, .null, .null, .null, .null, .null, .null, .null] := V3
  have E4_a := E1.wr W3
  have F5_modCount := G11.other W3 (Or.inl ne_a_es)
  have F6_elementData := G21.other W3 (Or.inl ne_a_es)
  have F7_size := G31.other W3 (Or.inl ne_a_es)
  have E8_x := E2_x.wr W3
  have Y10_es := Y1.wr W3
  have Z3 : n0 ≤ h3.size := by rw [W3.size]; exact Z1
  have N3 := Fr.snoc X3 N1 n0_es
  have K3 : Keep h0 h3 [a] := KK1.wr W3 (Or.inr sz_es)
  refine own_aloadN X3 hx hby jd_38_24__15 rfl rfl (pc' := 16) rfl ?_
  refine own_iloadN X3 hx hby jd_38_24__16 rfl (pc' := 17) rfl ?_
  refine own_iconst X3 hx hby jd_38_24__17 (v := (1 : Int32)) rfl (pc' := 18) rfl ?_
  refine own_iadd X3 hx hby jd_38_24__18 (pc' := 19) rfl ?_
  show GoP p e below Φ (T3.setTop (mkF m 19 #[.val (.ref a), .val (.ref x), .val (.ref es), .val (.int (0 : Int32))] [(.int (1 : Int32)), (.ref a)]))
  refine own_putF X3 hx hby hZ hown (host := "") (Or.inl (own_w hw 57 rfl)) Via.refl e3 F7_size E4_a (Or.inl (own_w hw 58 rfl)) (own_w hw 1 rfl) (ty := .int) (by decide) rfl rfl jd_38_24__19 (pc' := 22) rfl ?_
  intro T11 h11 X11 e11 W11
  have E12_a := E4_a.wr W11
  have F13_modCount := F5_modCount.other W11 (Or.inr (slot_ne (Or.inl (own_w hw 22 rfl)) (Or.inl (own_w hw 58 rfl)) (by decide) (t := .int) (t' := .int) (by decide) (by decide)))
  have F14_elementData := F6_elementData.other W11 (Or.inr (slot_ne (Or.inl (own_w hw 25 rfl)) (Or.inl (own_w hw 58 rfl)) (by decide) (t := (.array (.object "java/lang/Object"))) (t' := .int) (by decide) (by decide)))
  have F15_size := F7_size.same W11
  have E16_x := E8_x.wr W11
  have V17_es := V3.other W11 (Ne.symm ne_a_es)
  have Y18_es := Y10_es.wr W11
  have Z11 : n0 ≤ h11.size := by rw [W11.size]; exact Z3
  have N11 := Fr.snoc X11 N3 n0_a
  have K11 : Keep h0 h11 [a] := K3.wr W11 (Or.inl (List.mem_of_getElem? (i := 0) rfl))
  exact own_ret0 X11 hx hby fin hret jd_38_24__22 (by decide) (by decide) (by rw [e11]; exact ⟨es, rfl, N11, K11, sz_es, E12_a, F13_modCount, F14_elementData, F15_size, V17_es, Y18_es⟩)
theorem ef_rmA1 (m : MethodId) (x0 : Addr) (x1 : Addr) : entryFrame m #[(.ref x0), (.ref x1)] 2 = mkF m 0 #[.val (.ref x0), .val (.ref x1)] [] := by first | (simp [entryFrame, mkF, argsToLocals, Value.category]; done) | rfl
theorem jd_38_25__0 : decode jdk_38_method_25_code 0 = .ok (.aload_n 0, 1) := by decide +kernel
theorem jd_38_25__1 : decode jdk_38_method_25_code 1 = .ok (.dup, 1) := by decide +kernel
theorem jd_38_25__2 : decode jdk_38_method_25_code 2 = .ok (.getfield 63, 3) := by decide +kernel
theorem jd_38_25__5 : decode jdk_38_method_25_code 5 = .ok (.iconst 1, 1) := by decide +kernel
theorem jd_38_25__6 : decode jdk_38_method_25_code 6 = .ok (.iadd, 1) := by decide +kernel
theorem jd_38_25__7 : decode jdk_38_method_25_code 7 = .ok (.putfield 63, 3) := by decide +kernel
theorem jd_38_25__10 : decode jdk_38_method_25_code 10 = .ok (.aload_n 0, 1) := by decide +kernel
theorem jd_38_25__11 : decode jdk_38_method_25_code 11 = .ok (.aload_n 1, 1) := by decide +kernel
theorem jd_38_25__12 : decode jdk_38_method_25_code 12 = .ok (.aload_n 0, 1) := by decide +kernel
theorem jd_38_25__13 : decode jdk_38_method_25_code 13 = .ok (.getfield 9, 3) := by decide +kernel
theorem jd_38_25__16 : decode jdk_38_method_25_code 16 = .ok (.aload_n 0, 1) := by decide +kernel
theorem jd_38_25__17 : decode jdk_38_method_25_code 17 = .ok (.getfield 48, 3) := by decide +kernel
theorem jd_38_25__20 : decode jdk_38_method_25_code 20 = .ok (.invokevirtual 131, 3) := by decide +kernel
theorem pd__Ljava_lang_Object__Ljava_lang_Object_I_V : parseMethodDescriptor "(Ljava/lang/Object;[Ljava/lang/Object;I)V" = some ⟨[(.object "java/lang/Object"), (.array (.object "java/lang/Object")), .int], none⟩ := by decide +kernel
theorem jd_38_25__23 : decode jdk_38_method_25_code 23 = .ok (.iconst 1, 1) := by decide +kernel
theorem jd_38_25__24 : decode jdk_38_method_25_code 24 = .ok (.ireturn, 1) := by decide +kernel
set_option maxRecDepth 65536 in
set_option maxHeartbeats 40000000 in
theorem rmA1 (l : Launch) (Z : State) (a0 : Array Value) (hw : ∀ d ∈ tables_1, d.before a0 Z = true) (a aD x : Addr) (n0 : Nat) (h0 : Heap) (n0_a : n0 ≤ a) (Z0 : n0 ≤ h0.size) (ne_a_aD : a ≠ aD) (E : Exa Z h0 a "java/util/ArrayList") (F1 : Fld Z h0 a "java/util/AbstractList" "modCount" "I" (.int (0 : Int32))) (F2 : Fld Z h0 a "java/util/ArrayList" "elementData" "[Ljava/lang/Object;" (.ref aD)) (F3 : Fld Z h0 a "java/util/ArrayList" "size" "I" (.int (0 : Int32))) (S : Sta Z h0 "java/util/ArrayList" "DEFAULTCAPACITY_EMPTY_ELEMENTDATA" "[Ljava/lang/Object;" (.ref aD)) (VD : AV Z h0 aD (.object "java/lang/Object") []) (ne_a_x : a ≠ x) (Ex : Exa Z h0 x "com/example/wayfold/wayfold/TrafficNetwork$Link") : Con l Z (⟨"java/util/ArrayList", "add", "(Ljava/lang/Object;)Z"⟩ : MethodName) jdk_38_method_25_code 2 (some .boolean) [] ({ frames := 4, cells := 1, slots := 10, locals := 90 } : Room) #[(.ref a), (.ref x)] h0 (fun v h L => ∃ es : Addr, v = some (.int (1 : Int32)) ∧ Fr n0 L ∧ Keep h0 h [a] ∧ h0.size ≤ es ∧ Exa Z h a "java/util/ArrayList" ∧ Fld Z h a "java/util/AbstractList" "modCount" "I" (.int (1 : Int32)) ∧ Fld Z h a "java/util/ArrayList" "elementData" "[Ljava/lang/Object;" (.ref es) ∧ Fld Z h a "java/util/ArrayList" "size" "I" (.int (1 : Int32)) ∧ AV Z h es (.object "java/lang/Object") [(.ref x), .null, .null, .null, .null, .null, .null, .null, .null, .null] ∧ CM Z h es "java/lang/Object") := by
  refine Con.of (plainFor_of_name pn_java_util_ArrayList) ?_
  intro p e s m below meth c T X hx hby hml hown hnm hret eT hZ hsh Φ fin
  replace hown : s.vm.findClass "java/util/ArrayList" = some m.cls := hown
  replace hml : 2 = c.maxLocals := hml.symm
  refine own_step (fun tq kq => castTop (ef_rmA1 m a x) kq) ?_
  have N0 := Fr.nil n0
  have K0 : Keep h0 h0 [a] := Keep.refl h0 [a]
  refine own_aloadN X hx hby jd_38_25__0 rfl rfl (pc' := 1) rfl ?_
  refine own_dup X hx hby jd_38_25__1 rfl (pc' := 2) rfl ?_
  refine own_getF X hx hby hZ hown (host := "") (Or.inl (own_w hw 55 rfl)) (Via.of (own_w hw 56 rfl)) eT F1 jd_38_25__2 (pc' := 5) rfl ?_
  intro T1 X1 e1
  refine own_iconst X1 hx hby jd_38_25__5 (v := (1 : Int32)) rfl (pc' := 6) rfl ?_
  refine own_iadd X1 hx hby jd_38_25__6 (pc' := 7) rfl ?_
  show GoP p e below Φ (T1.setTop (mkF m 7 #[.val (.ref a), .val (.ref x)] [(.int (1 : Int32)), (.ref a)]))
  refine own_putF X1 hx hby hZ hown (host := "") (Or.inl (own_w hw 55 rfl)) (Via.of (own_w hw 56 rfl)) e1 F1 E (Or.inl (own_w hw 22 rfl)) (own_w hw 1 rfl) (ty := .int) (by decide) rfl rfl jd_38_25__7 (pc' := 10) rfl ?_
  intro T2 h2 X2 e2 W2
  have E3_a := E.wr W2
  have F4_modCount := F1.same W2
  have F5_elementData := F2.other W2 (Or.inr (slot_ne (Or.inl (own_w hw 25 rfl)) (Or.inl (own_w hw 22 rfl)) (by decide) (t := (.array (.object "java/lang/Object"))) (t' := .int) (by decide) (by decide)))
  have F6_size := F3.other W2 (Or.inr (slot_ne (Or.inl (own_w hw 58 rfl)) (Or.inl (own_w hw 22 rfl)) (by decide) (t := .int) (t' := .int) (by decide) (by decide)))
  have S7_DEFAULTCAPACITY_EMPTY_ELEMENTDATA := S.wr W2
  have V8_aD := VD.other W2 (Ne.symm ne_a_aD)
  have E9_x := Ex.wr W2
  have Z2 : n0 ≤ h2.size := by rw [W2.size]; exact Z0
  have N2 := Fr.snoc X2 N0 n0_a
  have K2 : Keep h0 h2 [a] := K0.wr W2 (Or.inl (List.mem_of_getElem? (i := 0) rfl))
  refine own_aloadN X2 hx hby jd_38_25__10 rfl rfl (pc' := 11) rfl ?_
  refine own_aloadN X2 hx hby jd_38_25__11 rfl rfl (pc' := 12) rfl ?_
  refine own_aloadN X2 hx hby jd_38_25__12 rfl rfl (pc' := 13) rfl ?_
  refine own_getF X2 hx hby hZ hown (host := "") (Or.inl (own_w hw 24 rfl)) Via.refl e2 F5_elementData jd_38_25__13 (pc' := 16) rfl ?_
  intro T10 X10 e10
  refine own_aloadN X10 hx hby jd_38_25__16 rfl rfl (pc' := 17) rfl ?_
  refine own_getF X10 hx hby hZ hown (host := "") (Or.inl (own_w hw 57 rfl)) Via.refl e10 F6_size jd_38_25__17 (pc' := 20) rfl ?_
  intro T11 X11 e11
  refine own_callP X11 hx hby hZ (by exact hml) hown (own_w hw 59 rfl) (own_w hw 61 rfl) (own_w hw 62 rfl) (own_w hw 60 rfl) (own_w hw 2 rfl) (own_w hw 63 rfl) (by decide) e11 0 (by decide) (by decide) (by decide) (by decide) (argsL := [(.ref x), (.ref aD), (.int (0 : Int32))]) (rest := []) (lenOf pd__Ljava_lang_Object__Ljava_lang_Object_I_V rfl) rfl (Nat.le_of_eq rfl) E3_a (rmA3 l Z a0 hw a aD x n0 h2 n0_a Z2 ne_a_aD E3_a F4_modCount F5_elementData F6_size S7_DEFAULTCAPACITY_EMPTY_ELEMENTDATA V8_aD ne_a_x E9_x) jd_38_25__20 (pc' := 23) rfl ?_
  intro v12 T12 L12 X12 hQ12
  obtain ⟨es, rfl, Nq12, K12, se12, E12, G112, G212, G312, V12, Y12⟩ := hQ12
  have sz_es : h0.size ≤ es := Nat.le_trans K2.1 se12
  have N12 := Fr.app N2 Nq12
  have Z12 : n0 ≤ T12.heap.size := Nat.le_trans Z2 K12.1
  have KK12 : Keep h0 T12.heap [a] := K2.trans K12 (allS (Or.inl (List.mem_of_getElem? (i := 0) rfl)) all0)
  show GoP p e below Φ (T12.setTop (mkF m 23 #[.val (.ref a), .val (.ref x)] []))
  refine own_iconst X12 hx hby jd_38_25__23 (v := (1 : Int32)) rfl (pc' := 24) rfl ?_
  exact own_retN X12 hx hby fin hret (by simp) rfl jd_38_25__24 (by decide) (by decide) ⟨es, rfl, N12, KK12, sz_es, E12, G112, G212, G312, V12, Y12⟩
theorem ef_rmA3_1 (m : MethodId) (x0 : Addr) (x1 : Addr) (x2 : Addr) (x3 : Int32) : entryFrame m #[(.ref x0), (.ref x1), (.ref x2), (.int x3)] 4 = mkF m 0 #[.val (.ref x0), .val (.ref x1), .val (.ref x2), .val (.int x3)] [] := by first | (simp [entryFrame, mkF, argsToLocals, Value.category]; done) | rfl
set_option maxRecDepth 65536 in
set_option maxHeartbeats 40000000 in
theorem rmA3_1 (l : Launch) (Z : State) (a0 : Array Value) (hw : ∀ d ∈ tables_1, d.before a0 Z = true) (a es x r0 : Addr) (n0 : Nat) (h0 : Heap) (n0_a : n0 ≤ a) (n0_es : n0 ≤ es) (ne_a_es : a ≠ es) (E : Exa Z h0 a "java/util/ArrayList") (F1 : Fld Z h0 a "java/util/AbstractList" "modCount" "I" (.int (2 : Int32))) (F2 : Fld Z h0 a "java/util/ArrayList" "elementData" "[Ljava/lang/Object;" (.ref es)) (F3 : Fld Z h0 a "java/util/ArrayList" "size" "I" (.int (1 : Int32))) (V : AV Z h0 es (.object "java/lang/Object") [(.ref r0), .null, .null, .null, .null, .null, .null, .null, .null, .null]) (Y : CM Z h0 es "java/lang/Object") (Ex : Exa Z h0 x "com/example/wayfold/wayfold/TrafficNetwork$Link") : Con l Z (⟨"java/util/ArrayList", "add", "(Ljava/lang/Object;[Ljava/lang/Object;I)V"⟩ : MethodName) jdk_38_method_24_code 4 none [] ({ frames := 0, cells := 0, slots := 0, locals := 0 } : Room) #[(.ref a), (.ref x), (.ref es), (.int (1 : Int32))] h0 (fun v h L => v = none ∧ Fr n0 L ∧ Keep h0 h [a, es] ∧ Fld Z h a "java/util/AbstractList" "modCount" "I" (.int (2 : Int32)) ∧ Fld Z h a "java/util/ArrayList" "elementData" "[Ljava/lang/Object;" (.ref es) ∧ Fld Z h a "java/util/ArrayList" "size" "I" (.int (2 : Int32)) ∧ AV Z h es (.object "java/lang/Object") [(.ref r0), (.ref x), .null, .null, .null, .null, .null, .null, .null, .null]) := by
  refine Con.of (plainFor_of_name pn_java_util_ArrayList) ?_
  intro p e s m below meth c T X hx hby hml hown hnm hret eT hZ hsh Φ fin
  replace hown : s.vm.findClass "java/util/ArrayList" = some m.cls := hown
  replace hml : 4 = c.maxLocals := hml.symm
  refine own_step (fun tq kq => castTop (ef_rmA3_1 m a x es (1 : Int32)) kq) ?_
  have N0 := Fr.nil n0
  have K0 : Keep h0 h0 [a, es] := Keep.refl h0 [a, es]
  refine own_iloadN X hx hby jd_38_24__0 rfl (pc' := 1) rfl ?_
  refine own_aloadN X hx hby jd_38_24__1 rfl rfl (pc' := 2) rfl ?_
  refine own_alen X hx hby hZ eT (n := (10 : Int32)) V rfl jd_38_24__2 (pc' := 3) rfl ?_
  refine own_icmpY X hx hby jd_38_24__3 (feq (by decide)).2 (by decide) (pc' := 11) (by decide) ?_
  refine own_aloadN X hx hby jd_38_24__11 rfl rfl (pc' := 12) rfl ?_
  refine own_iloadN X hx hby jd_38_24__12 rfl (pc' := 13) rfl ?_
  refine own_aloadN X hx hby jd_38_24__13 rfl rfl (pc' := 14) rfl ?_
  refine own_aastore X hx hby hZ eT V rfl (own_sto V Y (Ins.of_exa Ex (own_w hw 80 rfl))) (by decide) (Nat.le_of_ble_eq_true rfl) jd_38_24__14 (pc' := 15) rfl ?_
  intro T1 h1 X1 e1 W1 V1
  replace V1 : AV Z h1 es (.object "java/lang/Object") [(.ref r0), (.ref x), .null, .null, .null, .null, .null, .null, .null, .null] := V1
  have E2_a := E.wr W1
  have F3_modCount := F1.other W1 (Or.inl ne_a_es)
  have F4_elementData := F2.other W1 (Or.inl ne_a_es)
  have F5_size := F3.other W1 (Or.inl ne_a_es)
  have Y7_es := Y.wr W1
  have E8_x := Ex.wr W1
  have N1 := Fr.snoc X1 N0 n0_es
  have K1 : Keep h0 h1 [a, es] := K0.wr W1 (Or.inl (List.mem_of_getElem? (i := 1) rfl))
  refine own_aloadN X1 hx hby jd_38_24__15 rfl rfl (pc' := 16) rfl ?_
  refine own_iloadN X1 hx hby jd_38_24__16 rfl (pc' := 17) rfl ?_
  refine own_iconst X1 hx hby jd_38_24__17 (v := (1 : Int32)) rfl (pc' := 18) rfl ?_
  refine own_iadd X1 hx hby jd_38_24__18 (pc' := 19) rfl ?_
  show GoP p e below Φ (T1.setTop (mkF m 19 #[.val (.ref a), .val (.ref x), .val (.ref es), .val (.int (1 : Int32))] [(.int (2 : Int32)), (.ref a)]))
  refine own_putF X1 hx hby hZ hown (host := "") (Or.inl (own_w hw 57 rfl)) Via.refl e1 F5_size E2_a (Or.inl (own_w hw 58 rfl)) (own_w hw 1 rfl) (ty := .int) (by decide) rfl rfl jd_38_24__19 (pc' := 22) rfl ?_
  intro T9 h9 X9 e9 W9
  have E10_a := E2_a.wr W9
  have F11_modCount := F3_modCount.other W9 (Or.inr (slot_ne (Or.inl (own_w hw 22 rfl)) (Or.inl (own_w hw 58 rfl)) (by decide) (t := .int) (t' := .int) (by decide) (by decide)))
  have F12_elementData := F4_elementData.other W9 (Or.inr (slot_ne (Or.inl (own_w hw 25 rfl)) (Or.inl (own_w hw 58 rfl)) (by decide) (t := (.array (.object "java/lang/Object"))) (t' := .int) (by decide) (by decide)))
  have F13_size := F5_size.same W9
  have V14_es := V1.other W9 (Ne.symm ne_a_es)
  have Y15_es := Y7_es.wr W9
  have E16_x := E8_x.wr W9
  have N9 := Fr.snoc X9 N1 n0_a
  have K9 : Keep h0 h9 [a, es] := K1.wr W9 (Or.inl (List.mem_of_getElem? (i := 0) rfl))
  exact own_ret0 X9 hx hby fin hret jd_38_24__22 (by decide) (by decide) (by rw [e9]; exact ⟨rfl, N9, K9, F11_modCount, F12_elementData, F13_size, V14_es⟩)
theorem ef_rmA1_1 (m : MethodId) (x0 : Addr) (x1 : Addr) : entryFrame m #[(.ref x0), (.ref x1)] 2 = mkF m 0 #[.val (.ref x0), .val (.ref x1)] [] := by first | (simp [entryFrame, mkF, argsToLocals, Value.category]; done) | rfl
set_option maxRecDepth 65536 in
set_option maxHeartbeats 40000000 in
theorem rmA1_1 (l : Launch) (Z : State) (a0 : Array Value) (hw : ∀ d ∈ tables_1, d.before a0 Z = true) (a es x r0 : Addr) (n0 : Nat) (h0 : Heap) (n0_a : n0 ≤ a) (n0_es : n0 ≤ es) (ne_a_es : a ≠ es) (E : Exa Z h0 a "java/util/ArrayList") (F1 : Fld Z h0 a "java/util/AbstractList" "modCount" "I" (.int (1 : Int32))) (F2 : Fld Z h0 a "java/util/ArrayList" "elementData" "[Ljava/lang/Object;" (.ref es)) (F3 : Fld Z h0 a "java/util/ArrayList" "size" "I" (.int (1 : Int32))) (V : AV Z h0 es (.object "java/lang/Object") [(.ref r0), .null, .null, .null, .null, .null, .null, .null, .null, .null]) (Y : CM Z h0 es "java/lang/Object") (Ex : Exa Z h0 x "com/example/wayfold/wayfold/TrafficNetwork$Link") : Con l Z (⟨"java/util/ArrayList", "add", "(Ljava/lang/Object;)Z"⟩ : MethodName) jdk_38_method_25_code 2 (some .boolean) [] ({ frames := 1, cells := 0, slots := 0, locals := 30 } : Room) #[(.ref a), (.ref x)] h0 (fun v h L => v = some (.int (1 : Int32)) ∧ Fr n0 L ∧ Keep h0 h [a, es] ∧ Fld Z h a "java/util/AbstractList" "modCount" "I" (.int (2 : Int32)) ∧ Fld Z h a "java/util/ArrayList" "elementData" "[Ljava/lang/Object;" (.ref es) ∧ Fld Z h a "java/util/ArrayList" "size" "I" (.int (2 : Int32)) ∧ AV Z h es (.object "java/lang/Object") [(.ref r0), (.ref x), .null, .null, .null, .null, .null, .null, .null, .null]) := by
  refine Con.of (plainFor_of_name pn_java_util_ArrayList) ?_
  intro p e s m below meth c T X hx hby hml hown hnm hret eT hZ hsh Φ fin
  replace hown : s.vm.findClass "java/util/ArrayList" = some m.cls := hown
  replace hml : 2 = c.maxLocals := hml.symm
  refine own_step (fun tq kq => castTop (ef_rmA1_1 m a x) kq) ?_
  have N0 := Fr.nil n0
  have K0 : Keep h0 h0 [a, es] := Keep.refl h0 [a, es]
  refine own_aloadN X hx hby jd_38_25__0 rfl rfl (pc' := 1) rfl ?_
  refine own_dup X hx hby jd_38_25__1 rfl (pc' := 2) rfl ?_
  refine own_getF X hx hby hZ hown (host := "") (Or.inl (own_w hw 55 rfl)) (Via.of (own_w hw 56 rfl)) eT F1 jd_38_25__2 (pc' := 5) rfl ?_
  intro T1 X1 e1
  refine own_iconst X1 hx hby jd_38_25__5 (v := (1 : Int32)) rfl (pc' := 6) rfl ?_
  refine own_iadd X1 hx hby jd_38_25__6 (pc' := 7) rfl ?_
  show GoP p e below Φ (T1.setTop (mkF m 7 #[.val (.ref a), .val (.ref x)] [(.int (2 : Int32)), (.ref a)]))
  refine own_putF X1 hx hby hZ hown (host := "") (Or.inl (own_w hw 55 rfl)) (Via.of (own_w hw 56 rfl)) e1 F1 E (Or.inl (own_w hw 22 rfl)) (own_w hw 1 rfl) (ty := .int) (by decide) rfl rfl jd_38_25__7 (pc' := 10) rfl ?_
  intro T2 h2 X2 e2 W2
  have E3_a := E.wr W2
  have F4_modCount := F1.same W2
  have F5_elementData := F2.other W2 (Or.inr (slot_ne (Or.inl (own_w hw 25 rfl)) (Or.inl (own_w hw 22 rfl)) (by decide) (t := (.array (.object "java/lang/Object"))) (t' := .int) (by decide) (by decide)))
  have F6_size := F3.other W2 (Or.inr (slot_ne (Or.inl (own_w hw 58 rfl)) (Or.inl (own_w hw 22 rfl)) (by decide) (t := .int) (t' := .int) (by decide) (by decide)))
  have V7_es := V.other W2 (Ne.symm ne_a_es)
  have Y8_es := Y.wr W2
  have E9_x := Ex.wr W2
  have N2 := Fr.snoc X2 N0 n0_a
  have K2 : Keep h0 h2 [a, es] := K0.wr W2 (Or.inl (List.mem_of_getElem? (i := 0) rfl))
  refine own_aloadN X2 hx hby jd_38_25__10 rfl rfl (pc' := 11) rfl ?_
  refine own_aloadN X2 hx hby jd_38_25__11 rfl rfl (pc' := 12) rfl ?_
  refine own_aloadN X2 hx hby jd_38_25__12 rfl rfl (pc' := 13) rfl ?_
  refine own_getF X2 hx hby hZ hown (host := "") (Or.inl (own_w hw 24 rfl)) Via.refl e2 F5_elementData jd_38_25__13 (pc' := 16) rfl ?_
  intro T10 X10 e10
  refine own_aloadN X10 hx hby jd_38_25__16 rfl rfl (pc' := 17) rfl ?_
  refine own_getF X10 hx hby hZ hown (host := "") (Or.inl (own_w hw 57 rfl)) Via.refl e10 F6_size jd_38_25__17 (pc' := 20) rfl ?_
  intro T11 X11 e11
  refine own_callP X11 hx hby hZ (by exact hml) hown (own_w hw 59 rfl) (own_w hw 61 rfl) (own_w hw 62 rfl) (own_w hw 60 rfl) (own_w hw 2 rfl) (own_w hw 63 rfl) (by decide) e11 0 (by decide) (by decide) (by decide) (by decide) (argsL := [(.ref x), (.ref es), (.int (1 : Int32))]) (rest := []) (lenOf pd__Ljava_lang_Object__Ljava_lang_Object_I_V rfl) rfl (Nat.le_of_eq rfl) E3_a (rmA3_1 l Z a0 hw a es x r0 n0 h2 n0_a n0_es ne_a_es E3_a F4_modCount F5_elementData F6_size V7_es Y8_es E9_x) jd_38_25__20 (pc' := 23) rfl ?_
  intro v12 T12 L12 X12 hQ12
  obtain ⟨rfl, Nq12, K12, G112, G212, G312, V12⟩ := hQ12
  have E13_a := E3_a.keep K12
  have Y14_es := Y8_es.keep K12
  have E15_x := E9_x.keep K12
  have N12 := Fr.app N2 Nq12
  have KK12 : Keep h0 T12.heap [a, es] := K2.trans K12 (allS (Or.inl (List.mem_of_getElem? (i := 0) rfl)) (allS (Or.inl (List.mem_of_getElem? (i := 1) rfl)) all0))
  show GoP p e below Φ (T12.setTop (mkF m 23 #[.val (.ref a), .val (.ref x)] []))
  refine own_iconst X12 hx hby jd_38_25__23 (v := (1 : Int32)) rfl (pc' := 24) rfl ?_
  exact own_retN X12 hx hby fin hret (by simp) rfl jd_38_25__24 (by decide) (by decide) ⟨rfl, N12, KK12, G112, G212, G312, V12⟩
theorem ef_rmA3_2 (m : MethodId) (x0 : Addr) (x1 : Addr) (x2 : Addr) (x3 : Int32) : entryFrame m #[(.ref x0), (.ref x1), (.ref x2), (.int x3)] 4 = mkF m 0 #[.val (.ref x0), .val (.ref x1), .val (.ref x2), .val (.int x3)] [] := by first | (simp [entryFrame, mkF, argsToLocals, Value.category]; done) | rfl
set_option maxRecDepth 65536 in
set_option maxHeartbeats 40000000 in
theorem rmA3_2 (l : Launch) (Z : State) (a0 : Array Value) (hw : ∀ d ∈ tables_1, d.before a0 Z = true) (a es x r0 r1 : Addr) (n0 : Nat) (h0 : Heap) (n0_a : n0 ≤ a) (n0_es : n0 ≤ es) (ne_a_es : a ≠ es) (E : Exa Z h0 a "java/util/ArrayList") (F1 : Fld Z h0 a "java/util/AbstractList" "modCount" "I" (.int (3 : Int32))) (F2 : Fld Z h0 a "java/util/ArrayList" "elementData" "[Ljava/lang/Object;" (.ref es)) (F3 : Fld Z h0 a "java/util/ArrayList" "size" "I" (.int (2 : Int32))) (V : AV Z h0 es (.object "java/lang/Object") [(.ref r0), (.ref r1), .null, .null, .null, .null, .null, .null, .null, .null]) (Y : CM Z h0 es "java/lang/Object") (Ex : Exa Z h0 x "com/example/wayfold/wayfold/TrafficNetwork$Link") : Con l Z (⟨"java/util/ArrayList", "add", "(Ljava/lang/Object;[Ljava/lang/Object;I)V"⟩ : MethodName) jdk_38_method_24_code 4 none [] ({ frames := 0, cells := 0, slots := 0, locals := 0 } : Room) #[(.ref a), (.ref x), (.ref es), (.int (2 : Int32))] h0 (fun v h L => v = none ∧ Fr n0 L ∧ Keep h0 h [a, es] ∧ Fld Z h a "java/util/AbstractList" "modCount" "I" (.int (3 : Int32)) ∧ Fld Z h a "java/util/ArrayList" "elementData" "[Ljava/lang/Object;" (.ref es) ∧ Fld Z h a "java/util/ArrayList" "size" "I" (.int (3 : Int32)) ∧ AV Z h es (.object "java/lang/Object") [(.ref r0), (.ref r1), (.ref x), .null, .null, .null, .null, .null, .null, .null]) := by
  refine Con.of (plainFor_of_name pn_java_util_ArrayList) ?_
  intro p e s m below meth c T X hx hby hml hown hnm hret eT hZ hsh Φ fin
  replace hown : s.vm.findClass "java/util/ArrayList" = some m.cls := hown
  replace hml : 4 = c.maxLocals := hml.symm
  refine own_step (fun tq kq => castTop (ef_rmA3_2 m a x es (2 : Int32)) kq) ?_
  have N0 := Fr.nil n0
  have K0 : Keep h0 h0 [a, es] := Keep.refl h0 [a, es]
  refine own_iloadN X hx hby jd_38_24__0 rfl (pc' := 1) rfl ?_
  refine own_aloadN X hx hby jd_38_24__1 rfl rfl (pc' := 2) rfl ?_
  refine own_alen X hx hby hZ eT (n := (10 : Int32)) V rfl jd_38_24__2 (pc' := 3) rfl ?_
  refine own_icmpY X hx hby jd_38_24__3 (feq (by decide)).2 (by decide) (pc' := 11) (by decide) ?_
  refine own_aloadN X hx hby jd_38_24__11 rfl rfl (pc' := 12) rfl ?_
  refine own_iloadN X hx hby jd_38_24__12 rfl (pc' := 13) rfl ?_
  refine own_aloadN X hx hby jd_38_24__13 rfl rfl (pc' := 14) rfl ?_
  refine own_aastore X hx hby hZ eT V rfl (own_sto V Y (Ins.of_exa Ex (own_w hw 80 rfl))) (by decide) (Nat.le_of_ble_eq_true rfl) jd_38_24__14 (pc' := 15) rfl ?_
  intro T1 h1 X1 e1 W1 V1
  replace V1 : AV Z h1 es (.object "java/lang/Object") [(.ref r0), (.ref r1), (.ref x), .null, .null, .null, .null, .null, .null, .null] := V1
  have E2_a := E.wr W1
  have F3_modCount := F1.other W1 (Or.inl ne_a_es)
  have F4_elementData := F2.other W1 (Or.inl ne_a_es)
  have F5_size := F3.other W1 (Or.inl ne_a_es)
  have Y7_es := Y.wr W1
  have E8_x := Ex.wr W1
  have N1 := Fr.snoc X1 N0 n0_es
  have K1 : Keep h0 h1 [a, es] := K0.wr W1 (Or.inl (List.mem_of_getElem? (i := 1) rfl))
  refine own_aloadN X1 hx hby jd_38_24__15 rfl rfl (pc' := 16) rfl ?_
  refine own_iloadN X1 hx hby jd_38_24__16 rfl (pc' := 17) rfl ?_
  refine own_iconst X1 hx hby jd_38_24__17 (v := (1 : Int32)) rfl (pc' := 18) rfl ?_
  refine own_iadd X1 hx hby jd_38_24__18 (pc' := 19) rfl ?_
  show GoP p e below Φ (T1.setTop (mkF m 19 #[.val (.ref a), .val (.ref x), .val (.ref es), .val (.int (2 : Int32))] [(.int (3 : Int32)), (.ref a)]))
  refine own_putF X1 hx hby hZ hown (host := "") (Or.inl (own_w hw 57 rfl)) Via.refl e1 F5_size E2_a (Or.inl (own_w hw 58 rfl)) (own_w hw 1 rfl) (ty := .int) (by decide) rfl rfl jd_38_24__19 (pc' := 22) rfl ?_
  intro T9 h9 X9 e9 W9
  have E10_a := E2_a.wr W9
  have F11_modCount := F3_modCount.other W9 (Or.inr (slot_ne (Or.inl (own_w hw 22 rfl)) (Or.inl (own_w hw 58 rfl)) (by decide) (t := .int) (t' := .int) (by decide) (by decide)))
  have F12_elementData := F4_elementData.other W9 (Or.inr (slot_ne (Or.inl (own_w hw 25 rfl)) (Or.inl (own_w hw 58 rfl)) (by decide) (t := (.array (.object "java/lang/Object"))) (t' := .int) (by decide) (by decide)))
  have F13_size := F5_size.same W9
  have V14_es := V1.other W9 (Ne.symm ne_a_es)
  have Y15_es := Y7_es.wr W9
  have E16_x := E8_x.wr W9
  have N9 := Fr.snoc X9 N1 n0_a
  have K9 : Keep h0 h9 [a, es] := K1.wr W9 (Or.inl (List.mem_of_getElem? (i := 0) rfl))
  exact own_ret0 X9 hx hby fin hret jd_38_24__22 (by decide) (by decide) (by rw [e9]; exact ⟨rfl, N9, K9, F11_modCount, F12_elementData, F13_size, V14_es⟩)
theorem ef_rmA1_2 (m : MethodId) (x0 : Addr) (x1 : Addr) : entryFrame m #[(.ref x0), (.ref x1)] 2 = mkF m 0 #[.val (.ref x0), .val (.ref x1)] [] := by first | (simp [entryFrame, mkF, argsToLocals, Value.category]; done) | rfl
set_option maxRecDepth 65536 in
set_option maxHeartbeats 40000000 in
theorem rmA1_2 (l : Launch) (Z : State) (a0 : Array Value) (hw : ∀ d ∈ tables_1, d.before a0 Z = true) (a es x r0 r1 : Addr) (n0 : Nat) (h0 : Heap) (n0_a : n0 ≤ a) (n0_es : n0 ≤ es) (ne_a_es : a ≠ es) (E : Exa Z h0 a "java/util/ArrayList") (F1 : Fld Z h0 a "java/util/AbstractList" "modCount" "I" (.int (2 : Int32))) (F2 : Fld Z h0 a "java/util/ArrayList" "elementData" "[Ljava/lang/Object;" (.ref es)) (F3 : Fld Z h0 a "java/util/ArrayList" "size" "I" (.int (2 : Int32))) (V : AV Z h0 es (.object "java/lang/Object") [(.ref r0), (.ref r1), .null, .null, .null, .null, .null, .null, .null, .null]) (Y : CM Z h0 es "java/lang/Object") (Ex : Exa Z h0 x "com/example/wayfold/wayfold/TrafficNetwork$Link") : Con l Z (⟨"java/util/ArrayList", "add", "(Ljava/lang/Object;)Z"⟩ : MethodName) jdk_38_method_25_code 2 (some .boolean) [] ({ frames := 1, cells := 0, slots := 0, locals := 30 } : Room) #[(.ref a), (.ref x)] h0 (fun v h L => v = some (.int (1 : Int32)) ∧ Fr n0 L ∧ Keep h0 h [a, es] ∧ Fld Z h a "java/util/AbstractList" "modCount" "I" (.int (3 : Int32)) ∧ Fld Z h a "java/util/ArrayList" "elementData" "[Ljava/lang/Object;" (.ref es) ∧ Fld Z h a "java/util/ArrayList" "size" "I" (.int (3 : Int32)) ∧ AV Z h es (.object "java/lang/Object") [(.ref r0), (.ref r1), (.ref x), .null, .null, .null, .null, .null, .null, .null]) := by
  refine Con.of (plainFor_of_name pn_java_util_ArrayList) ?_
  intro p e s m below meth c T X hx hby hml hown hnm hret eT hZ hsh Φ fin
  replace hown : s.vm.findClass "java/util/ArrayList" = some m.cls := hown
  replace hml : 2 = c.maxLocals := hml.symm
  refine own_step (fun tq kq => castTop (ef_rmA1_2 m a x) kq) ?_
  have N0 := Fr.nil n0
  have K0 : Keep h0 h0 [a, es] := Keep.refl h0 [a, es]
  refine own_aloadN X hx hby jd_38_25__0 rfl rfl (pc' := 1) rfl ?_
  refine own_dup X hx hby jd_38_25__1 rfl (pc' := 2) rfl ?_
  refine own_getF X hx hby hZ hown (host := "") (Or.inl (own_w hw 55 rfl)) (Via.of (own_w hw 56 rfl)) eT F1 jd_38_25__2 (pc' := 5) rfl ?_
  intro T1 X1 e1
  refine own_iconst X1 hx hby jd_38_25__5 (v := (1 : Int32)) rfl (pc' := 6) rfl ?_
  refine own_iadd X1 hx hby jd_38_25__6 (pc' := 7) rfl ?_
  show GoP p e below Φ (T1.setTop (mkF m 7 #[.val (.ref a), .val (.ref x)] [(.int (3 : Int32)), (.ref a)]))
  refine own_putF X1 hx hby hZ hown (host := "") (Or.inl (own_w hw 55 rfl)) (Via.of (own_w hw 56 rfl)) e1 F1 E (Or.inl (own_w hw 22 rfl)) (own_w hw 1 rfl) (ty := .int) (by decide) rfl rfl jd_38_25__7 (pc' := 10) rfl ?_
  intro T2 h2 X2 e2 W2
  have E3_a := E.wr W2
  have F4_modCount := F1.same W2
  have F5_elementData := F2.other W2 (Or.inr (slot_ne (Or.inl (own_w hw 25 rfl)) (Or.inl (own_w hw 22 rfl)) (by decide) (t := (.array (.object "java/lang/Object"))) (t' := .int) (by decide) (by decide)))
  have F6_size := F3.other W2 (Or.inr (slot_ne (Or.inl (own_w hw 58 rfl)) (Or.inl (own_w hw 22 rfl)) (by decide) (t := .int) (t' := .int) (by decide) (by decide)))
  have V7_es := V.other W2 (Ne.symm ne_a_es)
  have Y8_es := Y.wr W2
  have E9_x := Ex.wr W2
  have N2 := Fr.snoc X2 N0 n0_a
  have K2 : Keep h0 h2 [a, es] := K0.wr W2 (Or.inl (List.mem_of_getElem? (i := 0) rfl))
  refine own_aloadN X2 hx hby jd_38_25__10 rfl rfl (pc' := 11) rfl ?_
  refine own_aloadN X2 hx hby jd_38_25__11 rfl rfl (pc' := 12) rfl ?_
  refine own_aloadN X2 hx hby jd_38_25__12 rfl rfl (pc' := 13) rfl ?_
  refine own_getF X2 hx hby hZ hown (host := "") (Or.inl (own_w hw 24 rfl)) Via.refl e2 F5_elementData jd_38_25__13 (pc' := 16) rfl ?_
  intro T10 X10 e10
  refine own_aloadN X10 hx hby jd_38_25__16 rfl rfl (pc' := 17) rfl ?_
  refine own_getF X10 hx hby hZ hown (host := "") (Or.inl (own_w hw 57 rfl)) Via.refl e10 F6_size jd_38_25__17 (pc' := 20) rfl ?_
  intro T11 X11 e11
  refine own_callP X11 hx hby hZ (by exact hml) hown (own_w hw 59 rfl) (own_w hw 61 rfl) (own_w hw 62 rfl) (own_w hw 60 rfl) (own_w hw 2 rfl) (own_w hw 63 rfl) (by decide) e11 0 (by decide) (by decide) (by decide) (by decide) (argsL := [(.ref x), (.ref es), (.int (2 : Int32))]) (rest := []) (lenOf pd__Ljava_lang_Object__Ljava_lang_Object_I_V rfl) rfl (Nat.le_of_eq rfl) E3_a (rmA3_2 l Z a0 hw a es x r0 r1 n0 h2 n0_a n0_es ne_a_es E3_a F4_modCount F5_elementData F6_size V7_es Y8_es E9_x) jd_38_25__20 (pc' := 23) rfl ?_
  intro v12 T12 L12 X12 hQ12
  obtain ⟨rfl, Nq12, K12, G112, G212, G312, V12⟩ := hQ12
  have E13_a := E3_a.keep K12
  have Y14_es := Y8_es.keep K12
  have E15_x := E9_x.keep K12
  have N12 := Fr.app N2 Nq12
  have KK12 : Keep h0 T12.heap [a, es] := K2.trans K12 (allS (Or.inl (List.mem_of_getElem? (i := 0) rfl)) (allS (Or.inl (List.mem_of_getElem? (i := 1) rfl)) all0))
  show GoP p e below Φ (T12.setTop (mkF m 23 #[.val (.ref a), .val (.ref x)] []))
  refine own_iconst X12 hx hby jd_38_25__23 (v := (1 : Int32)) rfl (pc' := 24) rfl ?_
  exact own_retN X12 hx hby fin hret (by simp) rfl jd_38_25__24 (by decide) (by decide) ⟨rfl, N12, KK12, G112, G212, G312, V12⟩
theorem ef_rmA3_3 (m : MethodId) (x0 : Addr) (x1 : Addr) (x2 : Addr) (x3 : Int32) : entryFrame m #[(.ref x0), (.ref x1), (.ref x2), (.int x3)] 4 = mkF m 0 #[.val (.ref x0), .val (.ref x1), .val (.ref x2), .val (.int x3)] [] := by first | (simp [entryFrame, mkF, argsToLocals, Value.category]; done) | rfl
set_option maxRecDepth 65536 in
set_option maxHeartbeats 40000000 in
theorem rmA3_3 (l : Launch) (Z : State) (a0 : Array Value) (hw : ∀ d ∈ tables_1, d.before a0 Z = true) (a es x r0 r1 r2 : Addr) (n0 : Nat) (h0 : Heap) (n0_a : n0 ≤ a) (n0_es : n0 ≤ es) (ne_a_es : a ≠ es) (E : Exa Z h0 a "java/util/ArrayList") (F1 : Fld Z h0 a "java/util/AbstractList" "modCount" "I" (.int (4 : Int32))) (F2 : Fld Z h0 a "java/util/ArrayList" "elementData" "[Ljava/lang/Object;" (.ref es)) (F3 : Fld Z h0 a "java/util/ArrayList" "size" "I" (.int (3 : Int32))) (V : AV Z h0 es (.object "java/lang/Object") [(.ref r0), (.ref r1), (.ref r2), .null, .null, .null, .null, .null, .null, .null]) (Y : CM Z h0 es "java/lang/Object") (Ex : Exa Z h0 x "com/example/wayfold/wayfold/TrafficNetwork$Link") : Con l Z (⟨"java/util/ArrayList", "add", "(Ljava/lang/Object;[Ljava/lang/Object;I)V"⟩ : MethodName) jdk_38_method_24_code 4 none [] ({ frames := 0, cells := 0, slots := 0, locals := 0 } : Room) #[(.ref a), (.ref x), (.ref es), (.int (3 : Int32))] h0 (fun v h L => v = none ∧ Fr n0 L ∧ Keep h0 h [a, es] ∧ Fld Z h a "java/util/AbstractList" "modCount" "I" (.int (4 : Int32)) ∧ Fld Z h a "java/util/ArrayList" "elementData" "[Ljava/lang/Object;" (.ref es) ∧ Fld Z h a "java/util/ArrayList" "size" "I" (.int (4 : Int32)) ∧ AV Z h es (.object "java/lang/Object") [(.ref r0), (.ref r1), (.ref r2), (.ref x), .null, .null, .null, .null, .null, .null]) := by
  refine Con.of (plainFor_of_name pn_java_util_ArrayList) ?_
  intro p e s m below meth c T X hx hby hml hown hnm hret eT hZ hsh Φ fin
  replace hown : s.vm.findClass "java/util/ArrayList" = some m.cls := hown
  replace hml : 4 = c.maxLocals := hml.symm
  refine own_step (fun tq kq => castTop (ef_rmA3_3 m a x es (3 : Int32)) kq) ?_
  have N0 := Fr.nil n0
  have K0 : Keep h0 h0 [a, es] := Keep.refl h0 [a, es]
  refine own_iloadN X hx hby jd_38_24__0 rfl (pc' := 1) rfl ?_
  refine own_aloadN X hx hby jd_38_24__1 rfl rfl (pc' := 2) rfl ?_
  refine own_alen X hx hby hZ eT (n := (10 : Int32)) V rfl jd_38_24__2 (pc' := 3) rfl ?_
  refine own_icmpY X hx hby jd_38_24__3 (feq (by decide)).2 (by decide) (pc' := 11) (by decide) ?_
  refine own_aloadN X hx hby jd_38_24__11 rfl rfl (pc' := 12) rfl ?_
  refine own_iloadN X hx hby jd_38_24__12 rfl (pc' := 13) rfl ?_
  refine own_aloadN X hx hby jd_38_24__13 rfl rfl (pc' := 14) rfl ?_
  refine own_aastore X hx hby hZ eT V rfl (own_sto V Y (Ins.of_exa Ex (own_w hw 80 rfl))) (by decide) (Nat.le_of_ble_eq_true rfl) jd_38_24__14 (pc' := 15) rfl ?_
  intro T1 h1 X1 e1 W1 V1
  replace V1 : AV Z h1 es (.object "java/lang/Object") [(.ref r0), (.ref r1), (.ref r2), (.ref x), .null, .null, .null, .null, .null, .null] := V1
  have E2_a := E.wr W1
  have F3_modCount := F1.other W1 (Or.inl ne_a_es)
  have F4_elementData := F2.other W1 (Or.inl ne_a_es)
  have F5_size := F3.other W1 (Or.inl ne_a_es)
  have Y7_es := Y.wr W1
  have E8_x := Ex.wr W1
  have N1 := Fr.snoc X1 N0 n0_es
  have K1 : Keep h0 h1 [a, es] := K0.wr W1 (Or.inl (List.mem_of_getElem? (i := 1) rfl))
  refine own_aloadN X1 hx hby jd_38_24__15 rfl rfl (pc' := 16) rfl ?_
  refine own_iloadN X1 hx hby jd_38_24__16 rfl (pc' := 17) rfl ?_
  refine own_iconst X1 hx hby jd_38_24__17 (v := (1 : Int32)) rfl (pc' := 18) rfl ?_
  refine own_iadd X1 hx hby jd_38_24__18 (pc' := 19) rfl ?_
  show GoP p e below Φ (T1.setTop (mkF m 19 #[.val (.ref a), .val (.ref x), .val (.ref es), .val (.int (3 : Int32))] [(.int (4 : Int32)), (.ref a)]))
  refine own_putF X1 hx hby hZ hown (host := "") (Or.inl (own_w hw 57 rfl)) Via.refl e1 F5_size E2_a (Or.inl (own_w hw 58 rfl)) (own_w hw 1 rfl) (ty := .int) (by decide) rfl rfl jd_38_24__19 (pc' := 22) rfl ?_
  intro T9 h9 X9 e9 W9
  have E10_a := E2_a.wr W9
  have F11_modCount := F3_modCount.other W9 (Or.inr (slot_ne (Or.inl (own_w hw 22 rfl)) (Or.inl (own_w hw 58 rfl)) (by decide) (t := .int) (t' := .int) (by decide) (by decide)))
  have F12_elementData := F4_elementData.other W9 (Or.inr (slot_ne (Or.inl (own_w hw 25 rfl)) (Or.inl (own_w hw 58 rfl)) (by decide) (t := (.array (.object "java/lang/Object"))) (t' := .int) (by decide) (by decide)))
  have F13_size := F5_size.same W9
  have V14_es := V1.other W9 (Ne.symm ne_a_es)
  have Y15_es := Y7_es.wr W9
  have E16_x := E8_x.wr W9
  have N9 := Fr.snoc X9 N1 n0_a
  have K9 : Keep h0 h9 [a, es] := K1.wr W9 (Or.inl (List.mem_of_getElem? (i := 0) rfl))
  exact own_ret0 X9 hx hby fin hret jd_38_24__22 (by decide) (by decide) (by rw [e9]; exact ⟨rfl, N9, K9, F11_modCount, F12_elementData, F13_size, V14_es⟩)
theorem ef_rmA1_3 (m : MethodId) (x0 : Addr) (x1 : Addr) : entryFrame m #[(.ref x0), (.ref x1)] 2 = mkF m 0 #[.val (.ref x0), .val (.ref x1)] [] := by first | (simp [entryFrame, mkF, argsToLocals, Value.category]; done) | rfl
set_option maxRecDepth 65536 in
set_option maxHeartbeats 40000000 in
theorem rmA1_3 (l : Launch) (Z : State) (a0 : Array Value) (hw : ∀ d ∈ tables_1, d.before a0 Z = true) (a es x r0 r1 r2 : Addr) (n0 : Nat) (h0 : Heap) (n0_a : n0 ≤ a) (n0_es : n0 ≤ es) (ne_a_es : a ≠ es) (E : Exa Z h0 a "java/util/ArrayList") (F1 : Fld Z h0 a "java/util/AbstractList" "modCount" "I" (.int (3 : Int32))) (F2 : Fld Z h0 a "java/util/ArrayList" "elementData" "[Ljava/lang/Object;" (.ref es)) (F3 : Fld Z h0 a "java/util/ArrayList" "size" "I" (.int (3 : Int32))) (V : AV Z h0 es (.object "java/lang/Object") [(.ref r0), (.ref r1), (.ref r2), .null, .null, .null, .null, .null, .null, .null]) (Y : CM Z h0 es "java/lang/Object") (Ex : Exa Z h0 x "com/example/wayfold/wayfold/TrafficNetwork$Link") : Con l Z (⟨"java/util/ArrayList", "add", "(Ljava/lang/Object;)Z"⟩ : MethodName) jdk_38_method_25_code 2 (some .boolean) [] ({ frames := 1, cells := 0, slots := 0, locals := 30 } : Room) #[(.ref a), (.ref x)] h0 (fun v h L => v = some (.int (1 : Int32)) ∧ Fr n0 L ∧ Keep h0 h [a, es] ∧ Fld Z h a "java/util/AbstractList" "modCount" "I" (.int (4 : Int32)) ∧ Fld Z h a "java/util/ArrayList" "elementData" "[Ljava/lang/Object;" (.ref es) ∧ Fld Z h a "java/util/ArrayList" "size" "I" (.int (4 : Int32)) ∧ AV Z h es (.object "java/lang/Object") [(.ref r0), (.ref r1), (.ref r2), (.ref x), .null, .null, .null, .null, .null, .null]) := by
  refine Con.of (plainFor_of_name pn_java_util_ArrayList) ?_
  intro p e s m below meth c T X hx hby hml hown hnm hret eT hZ hsh Φ fin
  replace hown : s.vm.findClass "java/util/ArrayList" = some m.cls := hown
  replace hml : 2 = c.maxLocals := hml.symm
  refine own_step (fun tq kq => castTop (ef_rmA1_3 m a x) kq) ?_
  have N0 := Fr.nil n0
  have K0 : Keep h0 h0 [a, es] := Keep.refl h0 [a, es]
  refine own_aloadN X hx hby jd_38_25__0 rfl rfl (pc' := 1) rfl ?_
  refine own_dup X hx hby jd_38_25__1 rfl (pc' := 2) rfl ?_
  refine own_getF X hx hby hZ hown (host := "") (Or.inl (own_w hw 55 rfl)) (Via.of (own_w hw 56 rfl)) eT F1 jd_38_25__2 (pc' := 5) rfl ?_
  intro T1 X1 e1
  refine own_iconst X1 hx hby jd_38_25__5 (v := (1 : Int32)) rfl (pc' := 6) rfl ?_
  refine own_iadd X1 hx hby jd_38_25__6 (pc' := 7) rfl ?_
  show GoP p e below Φ (T1.setTop (mkF m 7 #[.val (.ref a), .val (.ref x)] [(.int (4 : Int32)), (.ref a)]))
  refine own_putF X1 hx hby hZ hown (host := "") (Or.inl (own_w hw 55 rfl)) (Via.of (own_w hw 56 rfl)) e1 F1 E (Or.inl (own_w hw 22 rfl)) (own_w hw 1 rfl) (ty := .int) (by decide) rfl rfl jd_38_25__7 (pc' := 10) rfl ?_
  intro T2 h2 X2 e2 W2
  have E3_a := E.wr W2
  have F4_modCount := F1.same W2
  have F5_elementData := F2.other W2 (Or.inr (slot_ne (Or.inl (own_w hw 25 rfl)) (Or.inl (own_w hw 22 rfl)) (by decide) (t := (.array (.object "java/lang/Object"))) (t' := .int) (by decide) (by decide)))
  have F6_size := F3.other W2 (Or.inr (slot_ne (Or.inl (own_w hw 58 rfl)) (Or.inl (own_w hw 22 rfl)) (by decide) (t := .int) (t' := .int) (by decide) (by decide)))
  have V7_es := V.other W2 (Ne.symm ne_a_es)
  have Y8_es := Y.wr W2
  have E9_x := Ex.wr W2
  have N2 := Fr.snoc X2 N0 n0_a
  have K2 : Keep h0 h2 [a, es] := K0.wr W2 (Or.inl (List.mem_of_getElem? (i := 0) rfl))
  refine own_aloadN X2 hx hby jd_38_25__10 rfl rfl (pc' := 11) rfl ?_
  refine own_aloadN X2 hx hby jd_38_25__11 rfl rfl (pc' := 12) rfl ?_
  refine own_aloadN X2 hx hby jd_38_25__12 rfl rfl (pc' := 13) rfl ?_
  refine own_getF X2 hx hby hZ hown (host := "") (Or.inl (own_w hw 24 rfl)) Via.refl e2 F5_elementData jd_38_25__13 (pc' := 16) rfl ?_
  intro T10 X10 e10
  refine own_aloadN X10 hx hby jd_38_25__16 rfl rfl (pc' := 17) rfl ?_
  refine own_getF X10 hx hby hZ hown (host := "") (Or.inl (own_w hw 57 rfl)) Via.refl e10 F6_size jd_38_25__17 (pc' := 20) rfl ?_
  intro T11 X11 e11
  refine own_callP X11 hx hby hZ (by exact hml) hown (own_w hw 59 rfl) (own_w hw 61 rfl) (own_w hw 62 rfl) (own_w hw 60 rfl) (own_w hw 2 rfl) (own_w hw 63 rfl) (by decide) e11 0 (by decide) (by decide) (by decide) (by decide) (argsL := [(.ref x), (.ref es), (.int (3 : Int32))]) (rest := []) (lenOf pd__Ljava_lang_Object__Ljava_lang_Object_I_V rfl) rfl (Nat.le_of_eq rfl) E3_a (rmA3_3 l Z a0 hw a es x r0 r1 r2 n0 h2 n0_a n0_es ne_a_es E3_a F4_modCount F5_elementData F6_size V7_es Y8_es E9_x) jd_38_25__20 (pc' := 23) rfl ?_
  intro v12 T12 L12 X12 hQ12
  obtain ⟨rfl, Nq12, K12, G112, G212, G312, V12⟩ := hQ12
  have E13_a := E3_a.keep K12
  have Y14_es := Y8_es.keep K12
  have E15_x := E9_x.keep K12
  have N12 := Fr.app N2 Nq12
  have KK12 : Keep h0 T12.heap [a, es] := K2.trans K12 (allS (Or.inl (List.mem_of_getElem? (i := 0) rfl)) (allS (Or.inl (List.mem_of_getElem? (i := 1) rfl)) all0))
  show GoP p e below Φ (T12.setTop (mkF m 23 #[.val (.ref a), .val (.ref x)] []))
  refine own_iconst X12 hx hby jd_38_25__23 (v := (1 : Int32)) rfl (pc' := 24) rfl ?_
  exact own_retN X12 hx hby fin hret (by simp) rfl jd_38_25__24 (by decide) (by decide) ⟨rfl, N12, KK12, G112, G212, G312, V12⟩
theorem ef_rmLI (m : MethodId) (x0 : Addr) (x1 : Int32) (x2 : Int32) (x3 : UInt64) (x4 : UInt64) (x5 : UInt64) (x6 : UInt64) : entryFrame m #[(.ref x0), (.int x1), (.int x2), (.double x3), (.double x4), (.double x5), (.double x6)] 11 = mkF m 0 #[.val (.ref x0), .val (.int x1), .val (.int x2), .val (.double x3), .second, .val (.double x4), .second, .val (.double x5), .second, .val (.double x6), .second] [] := by first | (simp [entryFrame, mkF, argsToLocals, Value.category]; done) | rfl
theorem pn_com_example_wayfold_wayfold_TrafficNetwork_Link : plainName "com/example/wayfold/wayfold/TrafficNetwork$Link" = true := by first | (simp [plainName, overriddenIn]; done) | decide +kernel
theorem d_58_1__0 : decode prog_58_method_1_code 0 = .ok (.aload_n 0, 1) := by decide +kernel
theorem d_58_1__1 : decode prog_58_method_1_code 1 = .ok (.invokespecial 1, 3) := by decide +kernel
theorem d_58_1__4 : decode prog_58_method_1_code 4 = .ok (.aload_n 0, 1) := by decide +kernel
theorem d_58_1__5 : decode prog_58_method_1_code 5 = .ok (.iload_n 1, 1) := by decide +kernel
theorem d_58_1__6 : decode prog_58_method_1_code 6 = .ok (.putfield 7, 3) := by decide +kernel
theorem d_58_1__9 : decode prog_58_method_1_code 9 = .ok (.aload_n 0, 1) := by decide +kernel
theorem d_58_1__10 : decode prog_58_method_1_code 10 = .ok (.iload_n 2, 1) := by decide +kernel
theorem d_58_1__11 : decode prog_58_method_1_code 11 = .ok (.putfield 13, 3) := by decide +kernel
theorem d_58_1__14 : decode prog_58_method_1_code 14 = .ok (.aload_n 0, 1) := by decide +kernel
theorem d_58_1__15 : decode prog_58_method_1_code 15 = .ok (.dload_n 3, 1) := by decide +kernel
theorem d_58_1__16 : decode prog_58_method_1_code 16 = .ok (.putfield 16, 3) := by decide +kernel
theorem d_58_1__19 : decode prog_58_method_1_code 19 = .ok (.aload_n 0, 1) := by decide +kernel
theorem d_58_1__20 : decode prog_58_method_1_code 20 = .ok (.dload 5, 2) := by decide +kernel
theorem d_58_1__22 : decode prog_58_method_1_code 22 = .ok (.putfield 20, 3) := by decide +kernel
theorem d_58_1__25 : decode prog_58_method_1_code 25 = .ok (.aload_n 0, 1) := by decide +kernel
theorem d_58_1__26 : decode prog_58_method_1_code 26 = .ok (.dload 7, 2) := by decide +kernel
theorem d_58_1__28 : decode prog_58_method_1_code 28 = .ok (.putfield 23, 3) := by decide +kernel
theorem d_58_1__31 : decode prog_58_method_1_code 31 = .ok (.aload_n 0, 1) := by decide +kernel
theorem d_58_1__32 : decode prog_58_method_1_code 32 = .ok (.dload 9, 2) := by decide +kernel
theorem d_58_1__34 : decode prog_58_method_1_code 34 = .ok (.putfield 26, 3) := by decide +kernel
theorem d_58_1__37 : decode prog_58_method_1_code 37 = .ok (.return_, 1) := by decide +kernel
set_option maxRecDepth 65536 in
set_option maxHeartbeats 40000000 in
theorem rmLI (l : Launch) (Z : State) (a0 : Array Value) (hw : ∀ d ∈ tables_1, d.before a0 Z = true) (a : Addr) (t y : Int32) (n0 : Nat) (h0 : Heap) (n0_a : n0 ≤ a) (E : Exa Z h0 a "com/example/wayfold/wayfold/TrafficNetwork$Link") (F_tail : Fld Z h0 a "com/example/wayfold/wayfold/TrafficNetwork$Link" "tail" "I" (.int (0 : Int32))) (F_head : Fld Z h0 a "com/example/wayfold/wayfold/TrafficNetwork$Link" "head" "I" (.int (0 : Int32))) (F_capacity : Fld Z h0 a "com/example/wayfold/wayfold/TrafficNetwork$Link" "capacity" "D" (.double 0)) (F_freeFlowTime : Fld Z h0 a "com/example/wayfold/wayfold/TrafficNetwork$Link" "freeFlowTime" "D" (.double 0)) (F_b : Fld Z h0 a "com/example/wayfold/wayfold/TrafficNetwork$Link" "b" "D" (.double 0)) (F_power : Fld Z h0 a "com/example/wayfold/wayfold/TrafficNetwork$Link" "power" "D" (.double 0)) : Con l Z (⟨"com/example/wayfold/wayfold/TrafficNetwork$Link", "<init>", "(IIDDDD)V"⟩ : MethodName) prog_58_method_1_code 11 none [] ({ frames := 2, cells := 0, slots := 0, locals := 40 } : Room) #[(.ref a), (.int t), (.int y), (.double FP.dconst1), (.double FP.dconst0), (.double FP.dconst0), (.double FP.dconst0)] h0 (fun v h L => v = none ∧ Fr n0 L ∧ Keep h0 h [a] ∧ Exa Z h a "com/example/wayfold/wayfold/TrafficNetwork$Link" ∧ Fld Z h a "com/example/wayfold/wayfold/TrafficNetwork$Link" "tail" "I" (.int t) ∧ Fld Z h a "com/example/wayfold/wayfold/TrafficNetwork$Link" "head" "I" (.int y) ∧ Fld Z h a "com/example/wayfold/wayfold/TrafficNetwork$Link" "capacity" "D" (.double FP.dconst1) ∧ Fld Z h a "com/example/wayfold/wayfold/TrafficNetwork$Link" "freeFlowTime" "D" (.double FP.dconst0) ∧ Fld Z h a "com/example/wayfold/wayfold/TrafficNetwork$Link" "b" "D" (.double FP.dconst0) ∧ Fld Z h a "com/example/wayfold/wayfold/TrafficNetwork$Link" "power" "D" (.double FP.dconst0)) := by
  refine Con.of (plainFor_of_name pn_com_example_wayfold_wayfold_TrafficNetwork_Link) ?_
  intro p e s m below meth c T X hx hby hml hown hnm hret eT hZ hsh Φ fin
  replace hown : s.vm.findClass "com/example/wayfold/wayfold/TrafficNetwork$Link" = some m.cls := hown
  replace hml : 11 = c.maxLocals := hml.symm
  refine own_step (fun tq kq => castTop (ef_rmLI m a t y FP.dconst1 FP.dconst0 FP.dconst0 FP.dconst0) kq) ?_
  have N0 := Fr.nil n0
  have K0 : Keep h0 h0 [a] := Keep.refl h0 [a]
  refine own_aloadN X hx hby d_58_1__0 rfl rfl (pc' := 1) rfl ?_
  refine own_callI X hx hby hZ (by exact hml) hown rfl (own_w hw 32 rfl) (own_w hw 33 rfl) (own_w hw 35 rfl) (own_w hw 36 rfl) (by decide) eT 0 (by decide) (by decide) (by decide) (by decide) (argsL := []) (rest := []) (lenOf pd___V rfl) rfl (Nat.le_of_eq rfl) (rmRc l Z a0 hw a h0) d_58_1__1 (pc' := 4) rfl ?_
  intro v1 T1 L1 X1 hQ1
  obtain ⟨rfl, rfl, e1⟩ := hQ1
  rw [List.append_nil] at X1
  replace e1 : T1.heap = h0 := e1
  show GoP p e below Φ (T1.setTop (mkF m 4 #[.val (.ref a), .val (.int t), .val (.int y), .val (.double FP.dconst1), .second, .val (.double FP.dconst0), .second, .val (.double FP.dconst0), .second, .val (.double FP.dconst0), .second] []))
  refine own_aloadN X1 hx hby d_58_1__4 rfl rfl (pc' := 5) rfl ?_
  refine own_iloadN X1 hx hby d_58_1__5 rfl (pc' := 6) rfl ?_
  refine own_putF X1 hx hby hZ hown (host := "") (Or.inl (own_w hw 38 rfl)) Via.refl e1 F_tail E (Or.inr ⟨(own_w hw 39 rfl), rfl, hnm⟩) (own_w hw 27 rfl) (ty := .int) (by decide) rfl rfl d_58_1__6 (pc' := 9) rfl ?_
  intro T2 h2 X2 e2 W2
  have E3_a := E.wr W2
  have F4_tail := F_tail.same W2
  have F5_head := F_head.other W2 (Or.inr (slot_ne (Or.inr (own_w hw 41 rfl)) (Or.inr (own_w hw 39 rfl)) (by decide) (t := .int) (t' := .int) (by decide) (by decide)))
  have F6_capacity := F_capacity.other W2 (Or.inr (slot_ne (Or.inr (own_w hw 43 rfl)) (Or.inr (own_w hw 39 rfl)) (by decide) (t := .double) (t' := .int) (by decide) (by decide)))
  have F7_freeFlowTime := F_freeFlowTime.other W2 (Or.inr (slot_ne (Or.inr (own_w hw 45 rfl)) (Or.inr (own_w hw 39 rfl)) (by decide) (t := .double) (t' := .int) (by decide) (by decide)))
  have F8_b := F_b.other W2 (Or.inr (slot_ne (Or.inr (own_w hw 47 rfl)) (Or.inr (own_w hw 39 rfl)) (by decide) (t := .double) (t' := .int) (by decide) (by decide)))
  have F9_power := F_power.other W2 (Or.inr (slot_ne (Or.inr (own_w hw 49 rfl)) (Or.inr (own_w hw 39 rfl)) (by decide) (t := .double) (t' := .int) (by decide) (by decide)))
  have N2 := Fr.snoc X2 N0 n0_a
  have K2 : Keep h0 h2 [a] := K0.wr W2 (Or.inl (List.mem_of_getElem? (i := 0) rfl))
  refine own_aloadN X2 hx hby d_58_1__9 rfl rfl (pc' := 10) rfl ?_
  refine own_iloadN X2 hx hby d_58_1__10 rfl (pc' := 11) rfl ?_
  refine own_putF X2 hx hby hZ hown (host := "") (Or.inl (own_w hw 40 rfl)) Via.refl e2 F5_head E3_a (Or.inr ⟨(own_w hw 41 rfl), rfl, hnm⟩) (own_w hw 27 rfl) (ty := .int) (by decide) rfl rfl d_58_1__11 (pc' := 14) rfl ?_
  intro T10 h10 X10 e10 W10
  have E11_a := E3_a.wr W10
  have F12_tail := F4_tail.other W10 (Or.inr (slot_ne (Or.inr (own_w hw 39 rfl)) (Or.inr (own_w hw 41 rfl)) (by decide) (t := .int) (t' := .int) (by decide) (by decide)))
  have F13_head := F5_head.same W10
  have F14_capacity := F6_capacity.other W10 (Or.inr (slot_ne (Or.inr (own_w hw 43 rfl)) (Or.inr (own_w hw 41 rfl)) (by decide) (t := .double) (t' := .int) (by decide) (by decide)))
  have F15_freeFlowTime := F7_freeFlowTime.other W10 (Or.inr (slot_ne (Or.inr (own_w hw 45 rfl)) (Or.inr (own_w hw 41 rfl)) (by decide) (t := .double) (t' := .int) (by decide) (by decide)))
  have F16_b := F8_b.other W10 (Or.inr (slot_ne (Or.inr (own_w hw 47 rfl)) (Or.inr (own_w hw 41 rfl)) (by decide) (t := .double) (t' := .int) (by decide) (by decide)))
  have F17_power := F9_power.other W10 (Or.inr (slot_ne (Or.inr (own_w hw 49 rfl)) (Or.inr (own_w hw 41 rfl)) (by decide) (t := .double) (t' := .int) (by decide) (by decide)))
  have N10 := Fr.snoc X10 N2 n0_a
  have K10 : Keep h0 h10 [a] := K2.wr W10 (Or.inl (List.mem_of_getElem? (i := 0) rfl))
  refine own_aloadN X10 hx hby d_58_1__14 rfl rfl (pc' := 15) rfl ?_
  refine own_dloadN X10 hx hby d_58_1__15 rfl (pc' := 16) rfl ?_
  refine own_putF X10 hx hby hZ hown (host := "") (Or.inl (own_w hw 42 rfl)) Via.refl e10 F14_capacity E11_a (Or.inr ⟨(own_w hw 43 rfl), rfl, hnm⟩) (own_w hw 27 rfl) (ty := .double) (by decide) rfl rfl d_58_1__16 (pc' := 19) rfl ?_
  intro T18 h18 X18 e18 W18
  have E19_a := E11_a.wr W18
  have F20_tail := F12_tail.other W18 (Or.inr (slot_ne (Or.inr (own_w hw 39 rfl)) (Or.inr (own_w hw 43 rfl)) (by decide) (t := .int) (t' := .double) (by decide) (by decide)))
  have F21_head := F13_head.other W18 (Or.inr (slot_ne (Or.inr (own_w hw 41 rfl)) (Or.inr (own_w hw 43 rfl)) (by decide) (t := .int) (t' := .double) (by decide) (by decide)))
  have F22_capacity := F14_capacity.same W18
  have F23_freeFlowTime := F15_freeFlowTime.other W18 (Or.inr (slot_ne (Or.inr (own_w hw 45 rfl)) (Or.inr (own_w hw 43 rfl)) (by decide) (t := .double) (t' := .double) (by decide) (by decide)))
  have F24_b := F16_b.other W18 (Or.inr (slot_ne (Or.inr (own_w hw 47 rfl)) (Or.inr (own_w hw 43 rfl)) (by decide) (t := .double) (t' := .double) (by decide) (by decide)))
  have F25_power := F17_power.other W18 (Or.inr (slot_ne (Or.inr (own_w hw 49 rfl)) (Or.inr (own_w hw 43 rfl)) (by decide) (t := .double) (t' := .double) (by decide) (by decide)))
  have N18 := Fr.snoc X18 N10 n0_a
  have K18 : Keep h0 h18 [a] := K10.wr W18 (Or.inl (List.mem_of_getElem? (i := 0) rfl))
  refine own_aloadN X18 hx hby d_58_1__19 rfl rfl (pc' := 20) rfl ?_
  refine own_dload X18 hx hby d_58_1__20 rfl (pc' := 22) rfl ?_
  refine own_putF X18 hx hby hZ hown (host := "") (Or.inl (own_w hw 44 rfl)) Via.refl e18 F23_freeFlowTime E19_a (Or.inr ⟨(own_w hw 45 rfl), rfl, hnm⟩) (own_w hw 27 rfl) (ty := .double) (by decide) rfl rfl d_58_1__22 (pc' := 25) rfl ?_
  intro T26 h26 X26 e26 W26
  have E27_a := E19_a.wr W26
  have F28_tail := F20_tail.other W26 (Or.inr (slot_ne (Or.inr (own_w hw 39 rfl)) (Or.inr (own_w hw 45 rfl)) (by decide) (t := .int) (t' := .double) (by decide) (by decide)))
  have F29_head := F21_head.other W26 (Or.inr (slot_ne (Or.inr (own_w hw 41 rfl)) (Or.inr (own_w hw 45 rfl)) (by decide) (t := .int) (t' := .double) (by decide) (by decide)))
  have F30_capacity := F22_capacity.other W26 (Or.inr (slot_ne (Or.inr (own_w hw 43 rfl)) (Or.inr (own_w hw 45 rfl)) (by decide) (t := .double) (t' := .double) (by decide) (by decide)))
  have F31_freeFlowTime := F23_freeFlowTime.same W26
  have F32_b := F24_b.other W26 (Or.inr (slot_ne (Or.inr (own_w hw 47 rfl)) (Or.inr (own_w hw 45 rfl)) (by decide) (t := .double) (t' := .double) (by decide) (by decide)))
  have F33_power := F25_power.other W26 (Or.inr (slot_ne (Or.inr (own_w hw 49 rfl)) (Or.inr (own_w hw 45 rfl)) (by decide) (t := .double) (t' := .double) (by decide) (by decide)))
  have N26 := Fr.snoc X26 N18 n0_a
  have K26 : Keep h0 h26 [a] := K18.wr W26 (Or.inl (List.mem_of_getElem? (i := 0) rfl))
  refine own_aloadN X26 hx hby d_58_1__25 rfl rfl (pc' := 26) rfl ?_
  refine own_dload X26 hx hby d_58_1__26 rfl (pc' := 28) rfl ?_
  refine own_putF X26 hx hby hZ hown (host := "") (Or.inl (own_w hw 46 rfl)) Via.refl e26 F32_b E27_a (Or.inr ⟨(own_w hw 47 rfl), rfl, hnm⟩) (own_w hw 27 rfl) (ty := .double) (by decide) rfl rfl d_58_1__28 (pc' := 31) rfl ?_
  intro T34 h34 X34 e34 W34
  have E35_a := E27_a.wr W34
  have F36_tail := F28_tail.other W34 (Or.inr (slot_ne (Or.inr (own_w hw 39 rfl)) (Or.inr (own_w hw 47 rfl)) (by decide) (t := .int) (t' := .double) (by decide) (by decide)))
  have F37_head := F29_head.other W34 (Or.inr (slot_ne (Or.inr (own_w hw 41 rfl)) (Or.inr (own_w hw 47 rfl)) (by decide) (t := .int) (t' := .double) (by decide) (by decide)))
  have F38_capacity := F30_capacity.other W34 (Or.inr (slot_ne (Or.inr (own_w hw 43 rfl)) (Or.inr (own_w hw 47 rfl)) (by decide) (t := .double) (t' := .double) (by decide) (by decide)))
  have F39_freeFlowTime := F31_freeFlowTime.other W34 (Or.inr (slot_ne (Or.inr (own_w hw 45 rfl)) (Or.inr (own_w hw 47 rfl)) (by decide) (t := .double) (t' := .double) (by decide) (by decide)))
  have F40_b := F32_b.same W34
  have F41_power := F33_power.other W34 (Or.inr (slot_ne (Or.inr (own_w hw 49 rfl)) (Or.inr (own_w hw 47 rfl)) (by decide) (t := .double) (t' := .double) (by decide) (by decide)))
  have N34 := Fr.snoc X34 N26 n0_a
  have K34 : Keep h0 h34 [a] := K26.wr W34 (Or.inl (List.mem_of_getElem? (i := 0) rfl))
  refine own_aloadN X34 hx hby d_58_1__31 rfl rfl (pc' := 32) rfl ?_
  refine own_dload X34 hx hby d_58_1__32 rfl (pc' := 34) rfl ?_
  refine own_putF X34 hx hby hZ hown (host := "") (Or.inl (own_w hw 48 rfl)) Via.refl e34 F41_power E35_a (Or.inr ⟨(own_w hw 49 rfl), rfl, hnm⟩) (own_w hw 27 rfl) (ty := .double) (by decide) rfl rfl d_58_1__34 (pc' := 37) rfl ?_
  intro T42 h42 X42 e42 W42
  have E43_a := E35_a.wr W42
  have F44_tail := F36_tail.other W42 (Or.inr (slot_ne (Or.inr (own_w hw 39 rfl)) (Or.inr (own_w hw 49 rfl)) (by decide) (t := .int) (t' := .double) (by decide) (by decide)))
  have F45_head := F37_head.other W42 (Or.inr (slot_ne (Or.inr (own_w hw 41 rfl)) (Or.inr (own_w hw 49 rfl)) (by decide) (t := .int) (t' := .double) (by decide) (by decide)))
  have F46_capacity := F38_capacity.other W42 (Or.inr (slot_ne (Or.inr (own_w hw 43 rfl)) (Or.inr (own_w hw 49 rfl)) (by decide) (t := .double) (t' := .double) (by decide) (by decide)))
  have F47_freeFlowTime := F39_freeFlowTime.other W42 (Or.inr (slot_ne (Or.inr (own_w hw 45 rfl)) (Or.inr (own_w hw 49 rfl)) (by decide) (t := .double) (t' := .double) (by decide) (by decide)))
  have F48_b := F40_b.other W42 (Or.inr (slot_ne (Or.inr (own_w hw 47 rfl)) (Or.inr (own_w hw 49 rfl)) (by decide) (t := .double) (t' := .double) (by decide) (by decide)))
  have F49_power := F41_power.same W42
  have N42 := Fr.snoc X42 N34 n0_a
  have K42 : Keep h0 h42 [a] := K34.wr W42 (Or.inl (List.mem_of_getElem? (i := 0) rfl))
  exact own_ret0 X42 hx hby fin hret d_58_1__37 (by decide) (by decide) (by rw [e42]; exact ⟨rfl, N42, K42, E43_a, F44_tail, F45_head, F46_capacity, F47_freeFlowTime, F48_b, F49_power⟩)
theorem ef_rmL_tail (m : MethodId) (x0 : Addr) : entryFrame m #[(.ref x0)] 1 = mkF m 0 #[.val (.ref x0)] [] := by first | (simp [entryFrame, mkF, argsToLocals, Value.category]; done) | rfl
theorem d_58_5__0 : decode prog_58_method_5_code 0 = .ok (.aload_n 0, 1) := by decide +kernel
theorem d_58_5__1 : decode prog_58_method_5_code 1 = .ok (.getfield 7, 3) := by decide +kernel
theorem d_58_5__4 : decode prog_58_method_5_code 4 = .ok (.ireturn, 1) := by decide +kernel
set_option maxRecDepth 65536 in
set_option maxHeartbeats 40000000 in
theorem rmL_tail (l : Launch) (Z : State) (a0 : Array Value) (hw : ∀ d ∈ tables_1, d.before a0 Z = true) (a : Addr) (z : Int32) (h0 : Heap) (F : Fld Z h0 a "com/example/wayfold/wayfold/TrafficNetwork$Link" "tail" "I" (.int z)) : Con l Z (⟨"com/example/wayfold/wayfold/TrafficNetwork$Link", "tail", "()I"⟩ : MethodName) prog_58_method_5_code 1 (some .int) [] ({ frames := 0, cells := 0, slots := 0, locals := 0 } : Room) #[(.ref a)] h0 (fun v h L => v = some (.int z) ∧ L = [] ∧ h = h0) := by
  refine Con.of (plainFor_of_name pn_com_example_wayfold_wayfold_TrafficNetwork_Link) ?_
  intro p e s m below meth c T X hx hby hml hown hnm hret eT hZ hsh Φ fin
  replace hown : s.vm.findClass "com/example/wayfold/wayfold/TrafficNetwork$Link" = some m.cls := hown
  replace hml : 1 = c.maxLocals := hml.symm
  refine own_step (fun tq kq => castTop (ef_rmL_tail m a) kq) ?_
  refine own_aloadN X hx hby d_58_5__0 rfl rfl (pc' := 1) rfl ?_
  refine own_getF X hx hby hZ hown (host := "") (Or.inl (own_w hw 38 rfl)) Via.refl eT F d_58_5__1 (pc' := 4) rfl ?_
  intro T1 X1 e1
  exact own_retI X1 hx hby fin hret d_58_5__4 (by decide) (by decide) ⟨rfl, rfl, e1⟩
theorem ef_rmL_head (m : MethodId) (x0 : Addr) : entryFrame m #[(.ref x0)] 1 = mkF m 0 #[.val (.ref x0)] [] := by first | (simp [entryFrame, mkF, argsToLocals, Value.category]; done) | rfl
theorem d_58_6__0 : decode prog_58_method_6_code 0 = .ok (.aload_n 0, 1) := by decide +kernel
theorem d_58_6__1 : decode prog_58_method_6_code 1 = .ok (.getfield 13, 3) := by decide +kernel
theorem d_58_6__4 : decode prog_58_method_6_code 4 = .ok (.ireturn, 1) := by decide +kernel
set_option maxRecDepth 65536 in
set_option maxHeartbeats 40000000 in
theorem rmL_head (l : Launch) (Z : State) (a0 : Array Value) (hw : ∀ d ∈ tables_1, d.before a0 Z = true) (a : Addr) (z : Int32) (h0 : Heap) (F : Fld Z h0 a "com/example/wayfold/wayfold/TrafficNetwork$Link" "head" "I" (.int z)) : Con l Z (⟨"com/example/wayfold/wayfold/TrafficNetwork$Link", "head", "()I"⟩ : MethodName) prog_58_method_6_code 1 (some .int) [] ({ frames := 0, cells := 0, slots := 0, locals := 0 } : Room) #[(.ref a)] h0 (fun v h L => v = some (.int z) ∧ L = [] ∧ h = h0) := by
  refine Con.of (plainFor_of_name pn_com_example_wayfold_wayfold_TrafficNetwork_Link) ?_
  intro p e s m below meth c T X hx hby hml hown hnm hret eT hZ hsh Φ fin
  replace hown : s.vm.findClass "com/example/wayfold/wayfold/TrafficNetwork$Link" = some m.cls := hown
  replace hml : 1 = c.maxLocals := hml.symm
  refine own_step (fun tq kq => castTop (ef_rmL_head m a) kq) ?_
  refine own_aloadN X hx hby d_58_6__0 rfl rfl (pc' := 1) rfl ?_
  refine own_getF X hx hby hZ hown (host := "") (Or.inl (own_w hw 40 rfl)) Via.refl eT F d_58_6__1 (pc' := 4) rfl ?_
  intro T1 X1 e1
  exact own_retI X1 hx hby fin hret d_58_6__4 (by decide) (by decide) ⟨rfl, rfl, e1⟩
theorem ef_rmL_capacity (m : MethodId) (x0 : Addr) : entryFrame m #[(.ref x0)] 1 = mkF m 0 #[.val (.ref x0)] [] := by first | (simp [entryFrame, mkF, argsToLocals, Value.category]; done) | rfl
theorem d_58_7__0 : decode prog_58_method_7_code 0 = .ok (.aload_n 0, 1) := by decide +kernel
theorem d_58_7__1 : decode prog_58_method_7_code 1 = .ok (.getfield 16, 3) := by decide +kernel
theorem d_58_7__4 : decode prog_58_method_7_code 4 = .ok (.dreturn, 1) := by decide +kernel
set_option maxRecDepth 65536 in
set_option maxHeartbeats 40000000 in
theorem rmL_capacity (l : Launch) (Z : State) (a0 : Array Value) (hw : ∀ d ∈ tables_1, d.before a0 Z = true) (a : Addr) (z : UInt64) (h0 : Heap) (F : Fld Z h0 a "com/example/wayfold/wayfold/TrafficNetwork$Link" "capacity" "D" (.double z)) : Con l Z (⟨"com/example/wayfold/wayfold/TrafficNetwork$Link", "capacity", "()D"⟩ : MethodName) prog_58_method_7_code 1 (some .double) [] ({ frames := 0, cells := 0, slots := 0, locals := 0 } : Room) #[(.ref a)] h0 (fun v h L => v = some (.double z) ∧ L = [] ∧ h = h0) := by
  refine Con.of (plainFor_of_name pn_com_example_wayfold_wayfold_TrafficNetwork_Link) ?_
  intro p e s m below meth c T X hx hby hml hown hnm hret eT hZ hsh Φ fin
  replace hown : s.vm.findClass "com/example/wayfold/wayfold/TrafficNetwork$Link" = some m.cls := hown
  replace hml : 1 = c.maxLocals := hml.symm
  refine own_step (fun tq kq => castTop (ef_rmL_capacity m a) kq) ?_
  refine own_aloadN X hx hby d_58_7__0 rfl rfl (pc' := 1) rfl ?_
  refine own_getF X hx hby hZ hown (host := "") (Or.inl (own_w hw 42 rfl)) Via.refl eT F d_58_7__1 (pc' := 4) rfl ?_
  intro T1 X1 e1
  exact own_retD X1 hx hby fin hret d_58_7__4 (by decide) (by decide) ⟨rfl, rfl, e1⟩
theorem ef_rmL_freeFlowTime (m : MethodId) (x0 : Addr) : entryFrame m #[(.ref x0)] 1 = mkF m 0 #[.val (.ref x0)] [] := by first | (simp [entryFrame, mkF, argsToLocals, Value.category]; done) | rfl
theorem d_58_8__0 : decode prog_58_method_8_code 0 = .ok (.aload_n 0, 1) := by decide +kernel
theorem d_58_8__1 : decode prog_58_method_8_code 1 = .ok (.getfield 20, 3) := by decide +kernel
theorem d_58_8__4 : decode prog_58_method_8_code 4 = .ok (.dreturn, 1) := by decide +kernel
set_option maxRecDepth 65536 in
set_option maxHeartbeats 40000000 in
theorem rmL_freeFlowTime (l : Launch) (Z : State) (a0 : Array Value) (hw : ∀ d ∈ tables_1, d.before a0 Z = true) (a : Addr) (z : UInt64) (h0 : Heap) (F : Fld Z h0 a "com/example/wayfold/wayfold/TrafficNetwork$Link" "freeFlowTime" "D" (.double z)) : Con l Z (⟨"com/example/wayfold/wayfold/TrafficNetwork$Link", "freeFlowTime", "()D"⟩ : MethodName) prog_58_method_8_code 1 (some .double) [] ({ frames := 0, cells := 0, slots := 0, locals := 0 } : Room) #[(.ref a)] h0 (fun v h L => v = some (.double z) ∧ L = [] ∧ h = h0) := by
  refine Con.of (plainFor_of_name pn_com_example_wayfold_wayfold_TrafficNetwork_Link) ?_
  intro p e s m below meth c T X hx hby hml hown hnm hret eT hZ hsh Φ fin
  replace hown : s.vm.findClass "com/example/wayfold/wayfold/TrafficNetwork$Link" = some m.cls := hown
  replace hml : 1 = c.maxLocals := hml.symm
  refine own_step (fun tq kq => castTop (ef_rmL_freeFlowTime m a) kq) ?_
  refine own_aloadN X hx hby d_58_8__0 rfl rfl (pc' := 1) rfl ?_
  refine own_getF X hx hby hZ hown (host := "") (Or.inl (own_w hw 44 rfl)) Via.refl eT F d_58_8__1 (pc' := 4) rfl ?_
  intro T1 X1 e1
  exact own_retD X1 hx hby fin hret d_58_8__4 (by decide) (by decide) ⟨rfl, rfl, e1⟩
theorem ef_rmL_b (m : MethodId) (x0 : Addr) : entryFrame m #[(.ref x0)] 1 = mkF m 0 #[.val (.ref x0)] [] := by first | (simp [entryFrame, mkF, argsToLocals, Value.category]; done) | rfl
theorem d_58_9__0 : decode prog_58_method_9_code 0 = .ok (.aload_n 0, 1) := by decide +kernel
theorem d_58_9__1 : decode prog_58_method_9_code 1 = .ok (.getfield 23, 3) := by decide +kernel
theorem d_58_9__4 : decode prog_58_method_9_code 4 = .ok (.dreturn, 1) := by decide +kernel
set_option maxRecDepth 65536 in
set_option maxHeartbeats 40000000 in
theorem rmL_b (l : Launch) (Z : State) (a0 : Array Value) (hw : ∀ d ∈ tables_1, d.before a0 Z = true) (a : Addr) (z : UInt64) (h0 : Heap) (F : Fld Z h0 a "com/example/wayfold/wayfold/TrafficNetwork$Link" "b" "D" (.double z)) : Con l Z (⟨"com/example/wayfold/wayfold/TrafficNetwork$Link", "b", "()D"⟩ : MethodName) prog_58_method_9_code 1 (some .double) [] ({ frames := 0, cells := 0, slots := 0, locals := 0 } : Room) #[(.ref a)] h0 (fun v h L => v = some (.double z) ∧ L = [] ∧ h = h0) := by
  refine Con.of (plainFor_of_name pn_com_example_wayfold_wayfold_TrafficNetwork_Link) ?_
  intro p e s m below meth c T X hx hby hml hown hnm hret eT hZ hsh Φ fin
  replace hown : s.vm.findClass "com/example/wayfold/wayfold/TrafficNetwork$Link" = some m.cls := hown
  replace hml : 1 = c.maxLocals := hml.symm
  refine own_step (fun tq kq => castTop (ef_rmL_b m a) kq) ?_
  refine own_aloadN X hx hby d_58_9__0 rfl rfl (pc' := 1) rfl ?_
  refine own_getF X hx hby hZ hown (host := "") (Or.inl (own_w hw 46 rfl)) Via.refl eT F d_58_9__1 (pc' := 4) rfl ?_
  intro T1 X1 e1
  exact own_retD X1 hx hby fin hret d_58_9__4 (by decide) (by decide) ⟨rfl, rfl, e1⟩
theorem ef_rmL_power (m : MethodId) (x0 : Addr) : entryFrame m #[(.ref x0)] 1 = mkF m 0 #[.val (.ref x0)] [] := by first | (simp [entryFrame, mkF, argsToLocals, Value.category]; done) | rfl
theorem d_58_10__0 : decode prog_58_method_10_code 0 = .ok (.aload_n 0, 1) := by decide +kernel
theorem d_58_10__1 : decode prog_58_method_10_code 1 = .ok (.getfield 26, 3) := by decide +kernel
theorem d_58_10__4 : decode prog_58_method_10_code 4 = .ok (.dreturn, 1) := by decide +kernel
set_option maxRecDepth 65536 in
set_option maxHeartbeats 40000000 in
theorem rmL_power (l : Launch) (Z : State) (a0 : Array Value) (hw : ∀ d ∈ tables_1, d.before a0 Z = true) (a : Addr) (z : UInt64) (h0 : Heap) (F : Fld Z h0 a "com/example/wayfold/wayfold/TrafficNetwork$Link" "power" "D" (.double z)) : Con l Z (⟨"com/example/wayfold/wayfold/TrafficNetwork$Link", "power", "()D"⟩ : MethodName) prog_58_method_10_code 1 (some .double) [] ({ frames := 0, cells := 0, slots := 0, locals := 0 } : Room) #[(.ref a)] h0 (fun v h L => v = some (.double z) ∧ L = [] ∧ h = h0) := by
  refine Con.of (plainFor_of_name pn_com_example_wayfold_wayfold_TrafficNetwork_Link) ?_
  intro p e s m below meth c T X hx hby hml hown hnm hret eT hZ hsh Φ fin
  replace hown : s.vm.findClass "com/example/wayfold/wayfold/TrafficNetwork$Link" = some m.cls := hown
  replace hml : 1 = c.maxLocals := hml.symm
  refine own_step (fun tq kq => castTop (ef_rmL_power m a) kq) ?_
  refine own_aloadN X hx hby d_58_10__0 rfl rfl (pc' := 1) rfl ?_
  refine own_getF X hx hby hZ hown (host := "") (Or.inl (own_w hw 48 rfl)) Via.refl eT F d_58_10__1 (pc' := 4) rfl ?_
  intro T1 X1 e1
  exact own_retD X1 hx hby fin hret d_58_10__4 (by decide) (by decide) ⟨rfl, rfl, e1⟩
theorem ef_rmCk (m : MethodId) (x0 : Int32) (x1 : Int32) : entryFrame m #[(.int x0), (.int x1)] 2 = mkF m 0 #[.val (.int x0), .val (.int x1)] [] := by first | (simp [entryFrame, mkF, argsToLocals, Value.category]; done) | rfl
theorem pn_com_example_wayfold_wayfold_Graph : plainName "com/example/wayfold/wayfold/Graph" = true := by first | (simp [plainName, overriddenIn]; done) | decide +kernel
theorem d_19_6__0 : decode prog_19_method_6_code 0 = .ok (.iload_n 0, 1) := by decide +kernel
theorem d_19_6__1 : decode prog_19_method_6_code 1 = .ok (.iconst 1, 1) := by decide +kernel
theorem d_19_6__2 : decode prog_19_method_6_code 2 = .ok (.if_icmp .lt 8, 3) := by decide +kernel
theorem d_19_6__5 : decode prog_19_method_6_code 5 = .ok (.iload_n 0, 1) := by decide +kernel
theorem d_19_6__6 : decode prog_19_method_6_code 6 = .ok (.iload_n 1, 1) := by decide +kernel
theorem d_19_6__7 : decode prog_19_method_6_code 7 = .ok (.if_icmp .le 18, 3) := by decide +kernel
theorem d_19_6__25 : decode prog_19_method_6_code 25 = .ok (.return_, 1) := by decide +kernel
set_option maxRecDepth 65536 in
set_option maxHeartbeats 40000000 in
theorem rmCk (l : Launch) (Z : State) (a0 : Array Value) (hw : ∀ d ∈ tables_1, d.before a0 Z = true) (u n : Int32) (h0 : Heap) (h1 : ¬ u < (1 : Int32)) (h2 : ¬ n < u) : Con l Z (⟨"com/example/wayfold/wayfold/Graph", "checkNode", "(II)V"⟩ : MethodName) prog_19_method_6_code 2 none [] ({ frames := 0, cells := 0, slots := 0, locals := 0 } : Room) #[(.int u), (.int n)] h0 (fun v h L => v = none ∧ L = [] ∧ h = h0) := by
  refine Con.of (plainFor_of_name pn_com_example_wayfold_wayfold_Graph) ?_
  intro p e s m below meth c T X hx hby hml hown hnm hret eT hZ hsh Φ fin
  replace hown : s.vm.findClass "com/example/wayfold/wayfold/Graph" = some m.cls := hown
  replace hml : 2 = c.maxLocals := hml.symm
  refine own_step (fun tq kq => castTop (ef_rmCk m u n) kq) ?_
  refine own_iloadN X hx hby d_19_6__0 rfl (pc' := 1) rfl ?_
  refine own_iconst X hx hby d_19_6__1 (v := (1 : Int32)) rfl (pc' := 2) rfl ?_
  refine own_icmpN X hx hby d_19_6__2 (flt h1).1 (pc' := 5) rfl ?_
  refine own_iloadN X hx hby d_19_6__5 rfl (pc' := 6) rfl ?_
  refine own_iloadN X hx hby d_19_6__6 rfl (pc' := 7) rfl ?_
  refine own_icmpY X hx hby d_19_6__7 (flt h2).2.2.2 (by decide) (pc' := 25) (by decide) ?_
  exact own_ret0 X hx hby fin hret d_19_6__25 (by decide) (by decide) ⟨rfl, rfl, eT⟩
theorem ef_rmAW (m : MethodId) (x0 : Int64) (x1 : Int64) : entryFrame m #[(.long x0), (.long x1)] 4 = mkF m 0 #[.val (.long x0), .second, .val (.long x1), .second] [] := by first | (simp [entryFrame, mkF, argsToLocals, Value.category]; done) | rfl
theorem d_19_3__0 : decode prog_19_method_3_code 0 = .ok (.lload_n 2, 1) := by decide +kernel
theorem d_19_3__1 : decode prog_19_method_3_code 1 = .ok (.ldc2_w 59, 3) := by decide +kernel
theorem d_19_3__4 : decode prog_19_method_3_code 4 = .ok (.lload_n 0, 1) := by decide +kernel
theorem d_19_3__5 : decode prog_19_method_3_code 5 = .ok (.lsub, 1) := by decide +kernel
theorem d_19_3__6 : decode prog_19_method_3_code 6 = .ok (.lcmp, 1) := by decide +kernel
theorem d_19_3__7 : decode prog_19_method_3_code 7 = .ok (.ifCond .le 9, 3) := by decide +kernel
theorem d_19_3__16 : decode prog_19_method_3_code 16 = .ok (.lload_n 0, 1) := by decide +kernel
theorem d_19_3__17 : decode prog_19_method_3_code 17 = .ok (.lload_n 2, 1) := by decide +kernel
theorem d_19_3__18 : decode prog_19_method_3_code 18 = .ok (.ladd, 1) := by decide +kernel
theorem d_19_3__19 : decode prog_19_method_3_code 19 = .ok (.lreturn, 1) := by decide +kernel
set_option maxRecDepth 65536 in
set_option maxHeartbeats 40000000 in
theorem rmAW (l : Launch) (Z : State) (a0 : Array Value) (hw : ∀ d ∈ tables_1, d.before a0 Z = true)  (h0 : Heap)  : Con l Z (⟨"com/example/wayfold/wayfold/Graph", "addWeight", "(JJ)J"⟩ : MethodName) prog_19_method_3_code 4 (some .long) [] ({ frames := 0, cells := 0, slots := 0, locals := 0 } : Room) #[(.long (0 : Int64)), (.long (0 : Int64))] h0 (fun v h L => v = some (.long (0 : Int64)) ∧ L = [] ∧ h = h0) := by
  refine Con.of (plainFor_of_name pn_com_example_wayfold_wayfold_Graph) ?_
  intro p e s m below meth c T X hx hby hml hown hnm hret eT hZ hsh Φ fin
  replace hown : s.vm.findClass "com/example/wayfold/wayfold/Graph" = some m.cls := hown
  replace hml : 4 = c.maxLocals := hml.symm
  refine own_step (fun tq kq => castTop (ef_rmAW m (0 : Int64) (0 : Int64)) kq) ?_
  refine own_lloadN X hx hby d_19_3__0 rfl (pc' := 1) rfl ?_
  refine own_ldc2J X hx hby hZ hown (own_w hw 162 rfl) d_19_3__1 (pc' := 4) rfl ?_
  refine own_lloadN X hx hby d_19_3__4 rfl (pc' := 5) rfl ?_
  refine own_lsub X hx hby d_19_3__5 (pc' := 6) rfl ?_
  show GoP p e below Φ (T.setTop (mkF m 6 #[.val (.long (0 : Int64)), .second, .val (.long (0 : Int64)), .second] [(.long (9223372036854775807 : Int64)), (.long (0 : Int64))]))
  refine own_lcmp X hx hby d_19_3__6 (pc' := 7) rfl ?_
  refine own_ifY X hx hby d_19_3__7 ((if0 _ _).trans (flt (fun q => (show ¬ (9223372036854775807 : Int64) < (0 : Int64) from by decide) ((lw_gt _ _).mp q))).2.2.2) (by decide) (pc' := 16) (by decide) ?_
  refine own_lloadN X hx hby d_19_3__16 rfl (pc' := 17) rfl ?_
  refine own_lloadN X hx hby d_19_3__17 rfl (pc' := 18) rfl ?_
  refine own_ladd X hx hby d_19_3__18 (pc' := 19) rfl ?_
  show GoP p e below Φ (T.setTop (mkF m 19 #[.val (.long (0 : Int64)), .second, .val (.long (0 : Int64)), .second] [(.long (0 : Int64))]))
  exact own_retJ X hx hby fin hret d_19_3__19 (by decide) (by decide) ⟨rfl, rfl, eT⟩
theorem ef_rmGI (m : MethodId) (x0 : Addr) (x1 : Int32) (x2 : Addr) (x3 : Addr) (x4 : Addr) : entryFrame m #[(.ref x0), (.int x1), (.ref x2), (.ref x3), (.ref x4)] 5 = mkF m 0 #[.val (.ref x0), .val (.int x1), .val (.ref x2), .val (.ref x3), .val (.ref x4)] [] := by first | (simp [entryFrame, mkF, argsToLocals, Value.category]; done) | rfl
theorem d_19_1__0 : decode prog_19_method_1_code 0 = .ok (.aload_n 0, 1) := by decide +kernel
theorem d_19_1__1 : decode prog_19_method_1_code 1 = .ok (.invokespecial 5, 3) := by decide +kernel
theorem d_19_1__4 : decode prog_19_method_1_code 4 = .ok (.aload_n 0, 1) := by decide +kernel
theorem d_19_1__5 : decode prog_19_method_1_code 5 = .ok (.iload_n 1, 1) := by decide +kernel
theorem d_19_1__6 : decode prog_19_method_1_code 6 = .ok (.putfield 11, 3) := by decide +kernel
theorem d_19_1__9 : decode prog_19_method_1_code 9 = .ok (.aload_n 0, 1) := by decide +kernel
theorem d_19_1__10 : decode prog_19_method_1_code 10 = .ok (.aload_n 2, 1) := by decide +kernel
theorem d_19_1__11 : decode prog_19_method_1_code 11 = .ok (.putfield 17, 3) := by decide +kernel
theorem d_19_1__14 : decode prog_19_method_1_code 14 = .ok (.aload_n 0, 1) := by decide +kernel
theorem d_19_1__15 : decode prog_19_method_1_code 15 = .ok (.aload_n 3, 1) := by decide +kernel
theorem d_19_1__16 : decode prog_19_method_1_code 16 = .ok (.putfield 21, 3) := by decide +kernel
theorem d_19_1__19 : decode prog_19_method_1_code 19 = .ok (.aload_n 0, 1) := by decide +kernel
theorem d_19_1__20 : decode prog_19_method_1_code 20 = .ok (.aload 4, 2) := by decide +kernel
theorem d_19_1__22 : decode prog_19_method_1_code 22 = .ok (.putfield 24, 3) := by decide +kernel
theorem d_19_1__25 : decode prog_19_method_1_code 25 = .ok (.return_, 1) := by decide +kernel
set_option maxRecDepth 65536 in
set_option maxHeartbeats 40000000 in
theorem rmGI (l : Launch) (Z : State) (a0 : Array Value) (hw : ∀ d ∈ tables_1, d.before a0 Z = true) (a : Addr) (p1 : Int32) (fa ha wa : Addr) (n0 : Nat) (h0 : Heap) (n0_a : n0 ≤ a) (E : Exa Z h0 a "com/example/wayfold/wayfold/Graph") (F_nodeCount : Fld Z h0 a "com/example/wayfold/wayfold/Graph" "nodeCount" "I" (.int (0 : Int32))) (F_firstArc : Fld Z h0 a "com/example/wayfold/wayfold/Graph" "firstArc" "[I" .null) (F_arcHead : Fld Z h0 a "com/example/wayfold/wayfold/Graph" "arcHead" "[I" .null) (F_arcWeight : Fld Z h0 a "com/example/wayfold/wayfold/Graph" "arcWeight" "[J" .null) : Con l Z (⟨"com/example/wayfold/wayfold/Graph", "<init>", "(I[I[I[J)V"⟩ : MethodName) prog_19_method_1_code 5 none [] ({ frames := 1, cells := 0, slots := 0, locals := 12 } : Room) #[(.ref a), (.int p1), (.ref fa), (.ref ha), (.ref wa)] h0 (fun v h L => v = none ∧ Fr n0 L ∧ Keep h0 h [a] ∧ Exa Z h a "com/example/wayfold/wayfold/Graph" ∧ Fld Z h a "com/example/wayfold/wayfold/Graph" "firstArc" "[I" (.ref fa) ∧ Fld Z h a "com/example/wayfold/wayfold/Graph" "arcHead" "[I" (.ref ha)) := by
  refine Con.of (plainFor_of_name pn_com_example_wayfold_wayfold_Graph) ?_
  intro p e s m below meth c T X hx hby hml hown hnm hret eT hZ hsh Φ fin
  replace hown : s.vm.findClass "com/example/wayfold/wayfold/Graph" = some m.cls := hown
  replace hml : 5 = c.maxLocals := hml.symm
  refine own_step (fun tq kq => castTop (ef_rmGI m a p1 fa ha wa) kq) ?_
  have N0 := Fr.nil n0
  have K0 : Keep h0 h0 [a] := Keep.refl h0 [a]
  refine own_aloadN X hx hby d_19_1__0 rfl rfl (pc' := 1) rfl ?_
  obtain ⟨T1, X1, e1, st1⟩ := initO X hx hZ hown (own_w hw 172 rfl) (own_w hw 19 rfl) (own_w hw 20 rfl) eT (g := (mkF m 1 #[.val (.ref a), .val (.int p1), .val (.ref fa), .val (.ref ha), .val (.ref wa)] [(.ref a)])) rfl hml rfl (hb hby d_19_1__1) (by decide) (W := 0) (by show 2 * 0 + _ ≤ _; exact Nat.le_of_eq rfl) (by decide)
  refine own_step st1 ?_
  show GoP p e below Φ (T1.setTop (mkF m 4 #[.val (.ref a), .val (.int p1), .val (.ref fa), .val (.ref ha), .val (.ref wa)] []))
  refine own_aloadN X1 hx hby d_19_1__4 rfl rfl (pc' := 5) rfl ?_
  refine own_iloadN X1 hx hby d_19_1__5 rfl (pc' := 6) rfl ?_
  refine own_putF X1 hx hby hZ hown (host := "") (Or.inl (own_w hw 173 rfl)) Via.refl e1 F_nodeCount E (Or.inr ⟨(own_w hw 174 rfl), rfl, hnm⟩) (own_w hw 168 rfl) (ty := .int) (by decide) rfl rfl d_19_1__6 (pc' := 9) rfl ?_
  intro T2 h2 X2 e2 W2
  have E3_a := E.wr W2
  have F4_nodeCount := F_nodeCount.same W2
  have F5_firstArc := F_firstArc.other W2 (Or.inr (slot_ne (Or.inr (own_w hw 176 rfl)) (Or.inr (own_w hw 174 rfl)) (by decide) (t := (.array .int)) (t' := .int) (by decide) (by decide)))
  have F6_arcHead := F_arcHead.other W2 (Or.inr (slot_ne (Or.inr (own_w hw 178 rfl)) (Or.inr (own_w hw 174 rfl)) (by decide) (t := (.array .int)) (t' := .int) (by decide) (by decide)))
  have F7_arcWeight := F_arcWeight.other W2 (Or.inr (slot_ne (Or.inr (own_w hw 180 rfl)) (Or.inr (own_w hw 174 rfl)) (by decide) (t := (.array .long)) (t' := .int) (by decide) (by decide)))
  have N2 := Fr.snoc X2 N0 n0_a
  have K2 : Keep h0 h2 [a] := K0.wr W2 (Or.inl (List.mem_of_getElem? (i := 0) rfl))
  refine own_aloadN X2 hx hby d_19_1__9 rfl rfl (pc' := 10) rfl ?_
  refine own_aloadN X2 hx hby d_19_1__10 rfl rfl (pc' := 11) rfl ?_
  refine own_putF X2 hx hby hZ hown (host := "") (Or.inl (own_w hw 175 rfl)) Via.refl e2 F5_firstArc E3_a (Or.inr ⟨(own_w hw 176 rfl), rfl, hnm⟩) (own_w hw 168 rfl) (ty := (.array .int)) (by decide) rfl rfl d_19_1__11 (pc' := 14) rfl ?_
  intro T8 h8 X8 e8 W8
  have E9_a := E3_a.wr W8
  have F10_nodeCount := F4_nodeCount.other W8 (Or.inr (slot_ne (Or.inr (own_w hw 174 rfl)) (Or.inr (own_w hw 176 rfl)) (by decide) (t := .int) (t' := (.array .int)) (by decide) (by decide)))
  have F11_firstArc := F5_firstArc.same W8
  have F12_arcHead := F6_arcHead.other W8 (Or.inr (slot_ne (Or.inr (own_w hw 178 rfl)) (Or.inr (own_w hw 176 rfl)) (by decide) (t := (.array .int)) (t' := (.array .int)) (by decide) (by decide)))
  have F13_arcWeight := F7_arcWeight.other W8 (Or.inr (slot_ne (Or.inr (own_w hw 180 rfl)) (Or.inr (own_w hw 176 rfl)) (by decide) (t := (.array .long)) (t' := (.array .int)) (by decide) (by decide)))
  have N8 := Fr.snoc X8 N2 n0_a
  have K8 : Keep h0 h8 [a] := K2.wr W8 (Or.inl (List.mem_of_getElem? (i := 0) rfl))
  refine own_aloadN X8 hx hby d_19_1__14 rfl rfl (pc' := 15) rfl ?_
  refine own_aloadN X8 hx hby d_19_1__15 rfl rfl (pc' := 16) rfl ?_
  refine own_putF X8 hx hby hZ hown (host := "") (Or.inl (own_w hw 177 rfl)) Via.refl e8 F12_arcHead E9_a (Or.inr ⟨(own_w hw 178 rfl), rfl, hnm⟩) (own_w hw 168 rfl) (ty := (.array .int)) (by decide) rfl rfl d_19_1__16 (pc' := 19) rfl ?_
  intro T14 h14 X14 e14 W14
  have E15_a := E9_a.wr W14
  have F16_nodeCount := F10_nodeCount.other W14 (Or.inr (slot_ne (Or.inr (own_w hw 174 rfl)) (Or.inr (own_w hw 178 rfl)) (by decide) (t := .int) (t' := (.array .int)) (by decide) (by decide)))
  have F17_firstArc := F11_firstArc.other W14 (Or.inr (slot_ne (Or.inr (own_w hw 176 rfl)) (Or.inr (own_w hw 178 rfl)) (by decide) (t := (.array .int)) (t' := (.array .int)) (by decide) (by decide)))
  have F18_arcHead := F12_arcHead.same W14
  have F19_arcWeight := F13_arcWeight.other W14 (Or.inr (slot_ne (Or.inr (own_w hw 180 rfl)) (Or.inr (own_w hw 178 rfl)) (by decide) (t := (.array .long)) (t' := (.array .int)) (by decide) (by decide)))
  have N14 := Fr.snoc X14 N8 n0_a
  have K14 : Keep h0 h14 [a] := K8.wr W14 (Or.inl (List.mem_of_getElem? (i := 0) rfl))
  refine own_aloadN X14 hx hby d_19_1__19 rfl rfl (pc' := 20) rfl ?_
  refine own_aload X14 hx hby d_19_1__20 rfl rfl (pc' := 22) rfl ?_
  refine own_putF X14 hx hby hZ hown (host := "") (Or.inl (own_w hw 179 rfl)) Via.refl e14 F19_arcWeight E15_a (Or.inr ⟨(own_w hw 180 rfl), rfl, hnm⟩) (own_w hw 168 rfl) (ty := (.array .long)) (by decide) rfl rfl d_19_1__22 (pc' := 25) rfl ?_
  intro T20 h20 X20 e20 W20
  have E21_a := E15_a.wr W20
  have F22_nodeCount := F16_nodeCount.other W20 (Or.inr (slot_ne (Or.inr (own_w hw 174 rfl)) (Or.inr (own_w hw 180 rfl)) (by decide) (t := .int) (t' := (.array .long)) (by decide) (by decide)))
  have F23_firstArc := F17_firstArc.other W20 (Or.inr (slot_ne (Or.inr (own_w hw 176 rfl)) (Or.inr (own_w hw 180 rfl)) (by decide) (t := (.array .int)) (t' := (.array .long)) (by decide) (by decide)))
  have F24_arcHead := F18_arcHead.other W20 (Or.inr (slot_ne (Or.inr (own_w hw 178 rfl)) (Or.inr (own_w hw 180 rfl)) (by decide) (t := (.array .int)) (t' := (.array .long)) (by decide) (by decide)))
  have F25_arcWeight := F19_arcWeight.same W20
  have N20 := Fr.snoc X20 N14 n0_a
  have K20 : Keep h0 h20 [a] := K14.wr W20 (Or.inl (List.mem_of_getElem? (i := 0) rfl))
  exact own_ret0 X20 hx hby fin hret d_19_1__25 (by decide) (by decide) (by rw [e20]; exact ⟨rfl, N20, K20, E21_a, F23_firstArc, F24_arcHead⟩)
theorem ef_rmFA (m : MethodId) (x0 : Addr) (x1 : Int32) : entryFrame m #[(.ref x0), (.int x1)] 2 = mkF m 0 #[.val (.ref x0), .val (.int x1)] [] := by first | (simp [entryFrame, mkF, argsToLocals, Value.category]; done) | rfl
theorem d_19_10__0 : decode prog_19_method_10_code 0 = .ok (.aload_n 0, 1) := by decide +kernel
theorem d_19_10__1 : decode prog_19_method_10_code 1 = .ok (.getfield 17, 3) := by decide +kernel
theorem d_19_10__4 : decode prog_19_method_10_code 4 = .ok (.iload_n 1, 1) := by decide +kernel
theorem d_19_10__5 : decode prog_19_method_10_code 5 = .ok (.iaload, 1) := by decide +kernel
theorem d_19_10__6 : decode prog_19_method_10_code 6 = .ok (.ireturn, 1) := by decide +kernel
set_option maxRecDepth 65536 in
set_option maxHeartbeats 40000000 in
theorem rmFA (l : Launch) (Z : State) (a0 : Array Value) (hw : ∀ d ∈ tables_1, d.before a0 Z = true) (a fa : Addr) (u : Int32) (xs : List Int32) (h0 : Heap) (F : Fld Z h0 a "com/example/wayfold/wayfold/Graph" "firstArc" "[I" (.ref fa)) (I : LI Z h0 fa xs) (hj : ¬ u < 0 ∧ u.toNatClampNeg < xs.length) : Con l Z (⟨"com/example/wayfold/wayfold/Graph", "firstArc", "(I)I"⟩ : MethodName) prog_19_method_10_code 2 (some .int) [] ({ frames := 0, cells := 0, slots := 0, locals := 0 } : Room) #[(.ref a), (.int u)] h0 (fun v h L => v = some (.int (own_g xs u)) ∧ L = [] ∧ h = h0) := by
  refine Con.of (plainFor_of_name pn_com_example_wayfold_wayfold_Graph) ?_
  intro p e s m below meth c T X hx hby hml hown hnm hret eT hZ hsh Φ fin
  replace hown : s.vm.findClass "com/example/wayfold/wayfold/Graph" = some m.cls := hown
  replace hml : 2 = c.maxLocals := hml.symm
  refine own_step (fun tq kq => castTop (ef_rmFA m a u) kq) ?_
  refine own_aloadN X hx hby d_19_10__0 rfl rfl (pc' := 1) rfl ?_
  refine own_getF X hx hby hZ hown (host := "") (Or.inl (own_w hw 175 rfl)) Via.refl eT F d_19_10__1 (pc' := 4) rfl ?_
  intro T1 X1 e1
  refine own_iloadN X1 hx hby d_19_10__4 rfl (pc' := 5) rfl ?_
  refine own_ialoadL X1 hx hby hZ e1 I hj d_19_10__5 (pc' := 6) rfl ?_
  exact own_retI X1 hx hby fin hret d_19_10__6 (by decide) (by decide) ⟨rfl, rfl, e1⟩
theorem ef_rmGH (m : MethodId) (x0 : Addr) (x1 : Int32) : entryFrame m #[(.ref x0), (.int x1)] 2 = mkF m 0 #[.val (.ref x0), .val (.int x1)] [] := by first | (simp [entryFrame, mkF, argsToLocals, Value.category]; done) | rfl
theorem d_19_13__0 : decode prog_19_method_13_code 0 = .ok (.aload_n 0, 1) := by decide +kernel
theorem d_19_13__1 : decode prog_19_method_13_code 1 = .ok (.getfield 21, 3) := by decide +kernel
theorem d_19_13__4 : decode prog_19_method_13_code 4 = .ok (.iload_n 1, 1) := by decide +kernel
theorem d_19_13__5 : decode prog_19_method_13_code 5 = .ok (.iaload, 1) := by decide +kernel
theorem d_19_13__6 : decode prog_19_method_13_code 6 = .ok (.ireturn, 1) := by decide +kernel
set_option maxRecDepth 65536 in
set_option maxHeartbeats 40000000 in
theorem rmGH (l : Launch) (Z : State) (a0 : Array Value) (hw : ∀ d ∈ tables_1, d.before a0 Z = true) (a ah : Addr) (u : Int32) (xs : List Int32) (h0 : Heap) (F : Fld Z h0 a "com/example/wayfold/wayfold/Graph" "arcHead" "[I" (.ref ah)) (I : LI Z h0 ah xs) (hj : ¬ u < 0 ∧ u.toNatClampNeg < xs.length) : Con l Z (⟨"com/example/wayfold/wayfold/Graph", "head", "(I)I"⟩ : MethodName) prog_19_method_13_code 2 (some .int) [] ({ frames := 0, cells := 0, slots := 0, locals := 0 } : Room) #[(.ref a), (.int u)] h0 (fun v h L => v = some (.int (own_g xs u)) ∧ L = [] ∧ h = h0) := by
  refine Con.of (plainFor_of_name pn_com_example_wayfold_wayfold_Graph) ?_
  intro p e s m below meth c T X hx hby hml hown hnm hret eT hZ hsh Φ fin
  replace hown : s.vm.findClass "com/example/wayfold/wayfold/Graph" = some m.cls := hown
  replace hml : 2 = c.maxLocals := hml.symm
  refine own_step (fun tq kq => castTop (ef_rmGH m a u) kq) ?_
  refine own_aloadN X hx hby d_19_13__0 rfl rfl (pc' := 1) rfl ?_
  refine own_getF X hx hby hZ hown (host := "") (Or.inl (own_w hw 177 rfl)) Via.refl eT F d_19_13__1 (pc' := 4) rfl ?_
  intro T1 X1 e1
  refine own_iloadN X1 hx hby d_19_13__4 rfl (pc' := 5) rfl ?_
  refine own_ialoadL X1 hx hby hZ e1 I hj d_19_13__5 (pc' := 6) rfl ?_
  exact own_retI X1 hx hby fin hret d_19_13__6 (by decide) (by decide) ⟨rfl, rfl, e1⟩
theorem own_goodOf {n t0 t1 t2 t3 : Int32} (hg : own_chk n t0 t1 t2 t3 = true) : own_good (own_s0 (own_nx n t0 t1 t2 t3) t0) (own_s1 (own_nx n t0 t1 t2 t3) t0 t1) (own_s2 (own_nx n t0 t1 t2 t3) t0 t1 t2) (own_s3 (own_nx n t0 t1 t2 t3) t0 t1 t2 t3) = true ∧ (own_s0 (own_na n t0 t1 t2 t3) t0) = (own_s0 (own_nx n t0 t1 t2 t3) t0) ∧ (own_s1 (own_na n t0 t1 t2 t3) t0 t1) = (own_s1 (own_nx n t0 t1 t2 t3) t0 t1) ∧ (own_s2 (own_na n t0 t1 t2 t3) t0 t1 t2) = (own_s2 (own_nx n t0 t1 t2 t3) t0 t1 t2) ∧ (own_s3 (own_na n t0 t1 t2 t3) t0 t1 t2 t3) = (own_s3 (own_nx n t0 t1 t2 t3) t0 t1 t2 t3) := by
  simp only [own_chk, Bool.and_eq_true, decide_eq_true_eq] at hg
  obtain ⟨⟨⟨⟨a, b⟩, c⟩, d⟩, e⟩ := hg
  exact ⟨a, b, c, d, e⟩
theorem ef_rmG (m : MethodId) (x0 : Int32) (x1 : Int32) (x2 : Addr) (x3 : Addr) (x4 : Addr) : entryFrame m #[(.int x0), (.int x1), (.ref x2), (.ref x3), (.ref x4)] 13 = mkF m 0 #[.val (.int x0), .val (.int x1), .val (.ref x2), .val (.ref x3), .val (.ref x4), .unset, .unset, .unset, .unset, .unset, .unset, .unset, .unset] [] := by first | (simp [entryFrame, mkF, argsToLocals, Value.category]; done) | rfl
theorem d_19_2__0 : decode prog_19_method_2_code 0 = .ok (.iload_n 0, 1) := by decide +kernel
theorem d_19_2__1 : decode prog_19_method_2_code 1 = .ok (.ifCond .lt 26, 3) := by decide +kernel
theorem d_19_2__4 : decode prog_19_method_2_code 4 = .ok (.iload_n 1, 1) := by decide +kernel
theorem d_19_2__5 : decode prog_19_method_2_code 5 = .ok (.ifCond .lt 22, 3) := by decide +kernel
theorem d_19_2__8 : decode prog_19_method_2_code 8 = .ok (.iload_n 1, 1) := by decide +kernel
theorem d_19_2__9 : decode prog_19_method_2_code 9 = .ok (.aload_n 2, 1) := by decide +kernel
theorem d_19_2__10 : decode prog_19_method_2_code 10 = .ok (.arraylength, 1) := by decide +kernel
theorem d_19_2__11 : decode prog_19_method_2_code 11 = .ok (.if_icmp .gt 16, 3) := by decide +kernel
theorem d_19_2__14 : decode prog_19_method_2_code 14 = .ok (.iload_n 1, 1) := by decide +kernel
theorem d_19_2__15 : decode prog_19_method_2_code 15 = .ok (.aload_n 3, 1) := by decide +kernel
theorem d_19_2__16 : decode prog_19_method_2_code 16 = .ok (.arraylength, 1) := by decide +kernel
theorem d_19_2__17 : decode prog_19_method_2_code 17 = .ok (.if_icmp .gt 10, 3) := by decide +kernel
theorem d_19_2__20 : decode prog_19_method_2_code 20 = .ok (.iload_n 1, 1) := by decide +kernel
theorem d_19_2__21 : decode prog_19_method_2_code 21 = .ok (.aload 4, 2) := by decide +kernel
theorem d_19_2__23 : decode prog_19_method_2_code 23 = .ok (.arraylength, 1) := by decide +kernel
theorem d_19_2__24 : decode prog_19_method_2_code 24 = .ok (.if_icmp .le 18, 3) := by decide +kernel
theorem d_19_2__42 : decode prog_19_method_2_code 42 = .ok (.iload_n 0, 1) := by decide +kernel
theorem d_19_2__43 : decode prog_19_method_2_code 43 = .ok (.iconst 2, 1) := by decide +kernel
theorem d_19_2__44 : decode prog_19_method_2_code 44 = .ok (.iadd, 1) := by decide +kernel
theorem d_19_2__45 : decode prog_19_method_2_code 45 = .ok (.newarray .int, 2) := by decide +kernel
theorem d_19_2__47 : decode prog_19_method_2_code 47 = .ok (.astore 5, 2) := by decide +kernel
theorem d_19_2__49 : decode prog_19_method_2_code 49 = .ok (.lconst 0, 1) := by decide +kernel
theorem d_19_2__50 : decode prog_19_method_2_code 50 = .ok (.lstore 6, 2) := by decide +kernel
theorem d_19_2__52 : decode prog_19_method_2_code 52 = .ok (.iconst 0, 1) := by decide +kernel
theorem d_19_2__53 : decode prog_19_method_2_code 53 = .ok (.istore 8, 2) := by decide +kernel
theorem d_19_2__55 : decode prog_19_method_2_code 55 = .ok (.iload 8, 2) := by decide +kernel
theorem d_19_2__57 : decode prog_19_method_2_code 57 = .ok (.iload_n 1, 1) := by decide +kernel
theorem d_19_2__58 : decode prog_19_method_2_code 58 = .ok (.if_icmp .ge 97, 3) := by decide +kernel
theorem d_19_2__61 : decode prog_19_method_2_code 61 = .ok (.aload_n 2, 1) := by decide +kernel
theorem d_19_2__62 : decode prog_19_method_2_code 62 = .ok (.iload 8, 2) := by decide +kernel
theorem d_19_2__64 : decode prog_19_method_2_code 64 = .ok (.iaload, 1) := by decide +kernel
theorem d_19_2__65 : decode prog_19_method_2_code 65 = .ok (.iload_n 0, 1) := by decide +kernel
theorem d_19_2__66 : decode prog_19_method_2_code 66 = .ok (.invokestatic 37, 3) := by decide +kernel
theorem pd__II_V : parseMethodDescriptor "(II)V" = some ⟨[.int, .int], none⟩ := by decide +kernel
theorem d_19_2__69 : decode prog_19_method_2_code 69 = .ok (.aload_n 3, 1) := by decide +kernel
theorem d_19_2__70 : decode prog_19_method_2_code 70 = .ok (.iload 8, 2) := by decide +kernel
theorem d_19_2__72 : decode prog_19_method_2_code 72 = .ok (.iaload, 1) := by decide +kernel
theorem d_19_2__73 : decode prog_19_method_2_code 73 = .ok (.iload_n 0, 1) := by decide +kernel
theorem d_19_2__74 : decode prog_19_method_2_code 74 = .ok (.invokestatic 37, 3) := by decide +kernel
theorem d_19_2__77 : decode prog_19_method_2_code 77 = .ok (.aload 4, 2) := by decide +kernel
theorem d_19_2__79 : decode prog_19_method_2_code 79 = .ok (.iload 8, 2) := by decide +kernel
theorem d_19_2__81 : decode prog_19_method_2_code 81 = .ok (.laload, 1) := by decide +kernel
theorem d_19_2__82 : decode prog_19_method_2_code 82 = .ok (.lconst 0, 1) := by decide +kernel
theorem d_19_2__83 : decode prog_19_method_2_code 83 = .ok (.lcmp, 1) := by decide +kernel
theorem d_19_2__84 : decode prog_19_method_2_code 84 = .ok (.ifCond .ge 23, 3) := by decide +kernel
theorem d_19_2__107 : decode prog_19_method_2_code 107 = .ok (.lload 6, 2) := by decide +kernel
theorem d_19_2__109 : decode prog_19_method_2_code 109 = .ok (.aload 4, 2) := by decide +kernel
theorem d_19_2__111 : decode prog_19_method_2_code 111 = .ok (.iload 8, 2) := by decide +kernel
theorem d_19_2__113 : decode prog_19_method_2_code 113 = .ok (.laload, 1) := by decide +kernel
theorem d_19_2__114 : decode prog_19_method_2_code 114 = .ok (.invokestatic 44, 3) := by decide +kernel
theorem pd__JJ_J : parseMethodDescriptor "(JJ)J" = some ⟨[.long, .long], some .long⟩ := by decide +kernel
theorem d_19_2__117 : decode prog_19_method_2_code 117 = .ok (.lstore 6, 2) := by decide +kernel
theorem d_19_2__119 : decode prog_19_method_2_code 119 = .ok (.lload 6, 2) := by decide +kernel
theorem d_19_2__121 : decode prog_19_method_2_code 121 = .ok (.lconst 0, 1) := by decide +kernel
theorem d_19_2__122 : decode prog_19_method_2_code 122 = .ok (.lcmp, 1) := by decide +kernel
theorem d_19_2__123 : decode prog_19_method_2_code 123 = .ok (.ifCond .ge 13, 3) := by decide +kernel
theorem d_19_2__136 : decode prog_19_method_2_code 136 = .ok (.aload 5, 2) := by decide +kernel
theorem d_19_2__138 : decode prog_19_method_2_code 138 = .ok (.aload_n 2, 1) := by decide +kernel
theorem d_19_2__139 : decode prog_19_method_2_code 139 = .ok (.iload 8, 2) := by decide +kernel
theorem d_19_2__141 : decode prog_19_method_2_code 141 = .ok (.iaload, 1) := by decide +kernel
theorem d_19_2__142 : decode prog_19_method_2_code 142 = .ok (.iconst 1, 1) := by decide +kernel
theorem d_19_2__143 : decode prog_19_method_2_code 143 = .ok (.iadd, 1) := by decide +kernel
theorem d_19_2__144 : decode prog_19_method_2_code 144 = .ok (.dup2, 1) := by decide +kernel
theorem d_19_2__145 : decode prog_19_method_2_code 145 = .ok (.iaload, 1) := by decide +kernel
theorem d_19_2__146 : decode prog_19_method_2_code 146 = .ok (.iconst 1, 1) := by decide +kernel
theorem d_19_2__147 : decode prog_19_method_2_code 147 = .ok (.iadd, 1) := by decide +kernel
theorem d_19_2__148 : decode prog_19_method_2_code 148 = .ok (.iastore, 1) := by decide +kernel
theorem d_19_2__149 : decode prog_19_method_2_code 149 = .ok (.iinc 8 1, 3) := by decide +kernel
theorem d_19_2__152 : decode prog_19_method_2_code 152 = .ok (.goto (-97), 3) := by decide +kernel
theorem d_19_2__155 : decode prog_19_method_2_code 155 = .ok (.iconst 1, 1) := by decide +kernel
theorem d_19_2__156 : decode prog_19_method_2_code 156 = .ok (.istore 8, 2) := by decide +kernel
theorem d_19_2__158 : decode prog_19_method_2_code 158 = .ok (.iload 8, 2) := by decide +kernel
theorem d_19_2__160 : decode prog_19_method_2_code 160 = .ok (.iload_n 0, 1) := by decide +kernel
theorem d_19_2__161 : decode prog_19_method_2_code 161 = .ok (.if_icmp .gt 24, 3) := by decide +kernel
theorem d_19_2__185 : decode prog_19_method_2_code 185 = .ok (.iload_n 0, 1) := by decide +kernel
theorem d_19_2__186 : decode prog_19_method_2_code 186 = .ok (.iconst 1, 1) := by decide +kernel
theorem d_19_2__187 : decode prog_19_method_2_code 187 = .ok (.iadd, 1) := by decide +kernel
theorem d_19_2__188 : decode prog_19_method_2_code 188 = .ok (.newarray .int, 2) := by decide +kernel
theorem d_19_2__190 : decode prog_19_method_2_code 190 = .ok (.astore 8, 2) := by decide +kernel
theorem d_19_2__192 : decode prog_19_method_2_code 192 = .ok (.aload 5, 2) := by decide +kernel
theorem d_19_2__194 : decode prog_19_method_2_code 194 = .ok (.iconst 0, 1) := by decide +kernel
theorem d_19_2__195 : decode prog_19_method_2_code 195 = .ok (.aload 8, 2) := by decide +kernel
theorem d_19_2__197 : decode prog_19_method_2_code 197 = .ok (.iconst 0, 1) := by decide +kernel
theorem d_19_2__198 : decode prog_19_method_2_code 198 = .ok (.iload_n 0, 1) := by decide +kernel
theorem d_19_2__199 : decode prog_19_method_2_code 199 = .ok (.iconst 1, 1) := by decide +kernel
theorem d_19_2__200 : decode prog_19_method_2_code 200 = .ok (.iadd, 1) := by decide +kernel
theorem d_19_2__201 : decode prog_19_method_2_code 201 = .ok (.invokestatic 50, 3) := by decide +kernel
theorem d_19_2__204 : decode prog_19_method_2_code 204 = .ok (.iload_n 1, 1) := by decide +kernel
theorem d_19_2__205 : decode prog_19_method_2_code 205 = .ok (.newarray .int, 2) := by decide +kernel
theorem d_19_2__207 : decode prog_19_method_2_code 207 = .ok (.astore 9, 2) := by decide +kernel
theorem d_19_2__209 : decode prog_19_method_2_code 209 = .ok (.iload_n 1, 1) := by decide +kernel
theorem d_19_2__210 : decode prog_19_method_2_code 210 = .ok (.newarray .long, 2) := by decide +kernel
theorem d_19_2__212 : decode prog_19_method_2_code 212 = .ok (.astore 10, 2) := by decide +kernel
theorem d_19_2__214 : decode prog_19_method_2_code 214 = .ok (.iconst 0, 1) := by decide +kernel
theorem d_19_2__215 : decode prog_19_method_2_code 215 = .ok (.istore 11, 2) := by decide +kernel
theorem d_19_2__217 : decode prog_19_method_2_code 217 = .ok (.iload 11, 2) := by decide +kernel
theorem d_19_2__219 : decode prog_19_method_2_code 219 = .ok (.iload_n 1, 1) := by decide +kernel
theorem d_19_2__220 : decode prog_19_method_2_code 220 = .ok (.if_icmp .ge 42, 3) := by decide +kernel
theorem d_19_2__223 : decode prog_19_method_2_code 223 = .ok (.aload 8, 2) := by decide +kernel
theorem d_19_2__225 : decode prog_19_method_2_code 225 = .ok (.aload_n 2, 1) := by decide +kernel
theorem d_19_2__226 : decode prog_19_method_2_code 226 = .ok (.iload 11, 2) := by decide +kernel
theorem d_19_2__228 : decode prog_19_method_2_code 228 = .ok (.iaload, 1) := by decide +kernel
theorem d_19_2__229 : decode prog_19_method_2_code 229 = .ok (.dup2, 1) := by decide +kernel
theorem d_19_2__230 : decode prog_19_method_2_code 230 = .ok (.iaload, 1) := by decide +kernel
theorem d_19_2__231 : decode prog_19_method_2_code 231 = .ok (.dup_x2, 1) := by decide +kernel
theorem d_19_2__232 : decode prog_19_method_2_code 232 = .ok (.iconst 1, 1) := by decide +kernel
theorem d_19_2__233 : decode prog_19_method_2_code 233 = .ok (.iadd, 1) := by decide +kernel
theorem d_19_2__234 : decode prog_19_method_2_code 234 = .ok (.iastore, 1) := by decide +kernel
theorem d_19_2__235 : decode prog_19_method_2_code 235 = .ok (.istore 12, 2) := by decide +kernel
theorem d_19_2__237 : decode prog_19_method_2_code 237 = .ok (.aload 9, 2) := by decide +kernel
theorem d_19_2__239 : decode prog_19_method_2_code 239 = .ok (.iload 12, 2) := by decide +kernel
theorem d_19_2__241 : decode prog_19_method_2_code 241 = .ok (.aload_n 3, 1) := by decide +kernel
theorem d_19_2__242 : decode prog_19_method_2_code 242 = .ok (.iload 11, 2) := by decide +kernel
theorem d_19_2__244 : decode prog_19_method_2_code 244 = .ok (.iaload, 1) := by decide +kernel
theorem d_19_2__245 : decode prog_19_method_2_code 245 = .ok (.iastore, 1) := by decide +kernel
theorem d_19_2__246 : decode prog_19_method_2_code 246 = .ok (.aload 10, 2) := by decide +kernel
theorem d_19_2__248 : decode prog_19_method_2_code 248 = .ok (.iload 12, 2) := by decide +kernel
theorem d_19_2__250 : decode prog_19_method_2_code 250 = .ok (.aload 4, 2) := by decide +kernel
theorem d_19_2__252 : decode prog_19_method_2_code 252 = .ok (.iload 11, 2) := by decide +kernel
theorem d_19_2__254 : decode prog_19_method_2_code 254 = .ok (.laload, 1) := by decide +kernel
theorem d_19_2__255 : decode prog_19_method_2_code 255 = .ok (.lastore, 1) := by decide +kernel
theorem d_19_2__256 : decode prog_19_method_2_code 256 = .ok (.iinc 11 1, 3) := by decide +kernel
theorem d_19_2__259 : decode prog_19_method_2_code 259 = .ok (.goto (-42), 3) := by decide +kernel
theorem d_19_2__262 : decode prog_19_method_2_code 262 = .ok (.new 12, 3) := by decide +kernel
theorem d_19_2__265 : decode prog_19_method_2_code 265 = .ok (.dup, 1) := by decide +kernel
theorem d_19_2__266 : decode prog_19_method_2_code 266 = .ok (.iload_n 0, 1) := by decide +kernel
theorem d_19_2__267 : decode prog_19_method_2_code 267 = .ok (.aload 5, 2) := by decide +kernel
theorem d_19_2__269 : decode prog_19_method_2_code 269 = .ok (.aload 9, 2) := by decide +kernel
theorem d_19_2__271 : decode prog_19_method_2_code 271 = .ok (.aload 10, 2) := by decide +kernel
theorem d_19_2__273 : decode prog_19_method_2_code 273 = .ok (.invokespecial 56, 3) := by decide +kernel
theorem pd__I_I_I_J_V : parseMethodDescriptor "(I[I[I[J)V" = some ⟨[.int, (.array .int), (.array .int), (.array .long)], none⟩ := by decide +kernel
theorem d_19_2__276 : decode prog_19_method_2_code 276 = .ok (.areturn, 1) := by decide +kernel
theorem d_19_2__164 : decode prog_19_method_2_code 164 = .ok (.aload 5, 2) := by decide +kernel
theorem d_19_2__166 : decode prog_19_method_2_code 166 = .ok (.iload 8, 2) := by decide +kernel
theorem d_19_2__168 : decode prog_19_method_2_code 168 = .ok (.iconst 1, 1) := by decide +kernel
theorem d_19_2__169 : decode prog_19_method_2_code 169 = .ok (.iadd, 1) := by decide +kernel
theorem d_19_2__170 : decode prog_19_method_2_code 170 = .ok (.dup2, 1) := by decide +kernel
theorem d_19_2__171 : decode prog_19_method_2_code 171 = .ok (.iaload, 1) := by decide +kernel
theorem d_19_2__172 : decode prog_19_method_2_code 172 = .ok (.aload 5, 2) := by decide +kernel
theorem d_19_2__174 : decode prog_19_method_2_code 174 = .ok (.iload 8, 2) := by decide +kernel
theorem d_19_2__176 : decode prog_19_method_2_code 176 = .ok (.iaload, 1) := by decide +kernel
theorem d_19_2__177 : decode prog_19_method_2_code 177 = .ok (.iadd, 1) := by decide +kernel
theorem d_19_2__178 : decode prog_19_method_2_code 178 = .ok (.iastore, 1) := by decide +kernel
theorem d_19_2__179 : decode prog_19_method_2_code 179 = .ok (.iinc 8 1, 3) := by decide +kernel
theorem d_19_2__182 : decode prog_19_method_2_code 182 = .ok (.goto (-24), 3) := by decide +kernel
set_option maxRecDepth 65536 in
set_option maxHeartbeats 40000000 in
theorem rmG (l : Launch) (Z : State) (a0 : Array Value) (hw : ∀ d ∈ tables_1, d.before a0 Z = true) (n t0 t1 t2 t3 y0 y1 y2 y3 : Int32) (ta hd wt : Addr) (n0 : Nat) (h0 : Heap) (Z0 : n0 ≤ h0.size) (hn1 : 4 ≤ n.toInt) (hn2 : n.toInt ≤ 7) (lt0 : 1 ≤ t0.toInt) (ut0 : t0.toInt ≤ 4) (lt1 : 1 ≤ t1.toInt) (ut1 : t1.toInt ≤ 4) (lt2 : 1 ≤ t2.toInt) (ut2 : t2.toInt ≤ 4) (lt3 : 1 ≤ t3.toInt) (ut3 : t3.toInt ≤ 4) (ly0 : 1 ≤ y0.toInt) (uy0 : y0.toInt ≤ 4) (ly1 : 1 ≤ y1.toInt) (uy1 : y1.toInt ≤ 4) (ly2 : 1 ≤ y2.toInt) (uy2 : y2.toInt ≤ 4) (ly3 : 1 ≤ y3.toInt) (uy3 : y3.toInt ≤ 4) (hg : own_chk n t0 t1 t2 t3 = true) (Vt : AV Z h0 ta .int [(.int t0), (.int t1), (.int t2), (.int t3)]) (Vh : AV Z h0 hd .int [(.int y0), (.int y1), (.int y2), (.int y3)]) (Vw : AV Z h0 wt .long [(.long (0 : Int64)), (.long (0 : Int64)), (.long (0 : Int64)), (.long (0 : Int64))]) : Con l Z (⟨"com/example/wayfold/wayfold/Graph", "of", "(II[I[I[J)Lcom/example/wayfold/wayfold/Graph;"⟩ : MethodName) prog_19_method_2_code 13 (some (.object "com/example/wayfold/wayfold/Graph")) [] ({ frames := 2, cells := 5, slots := 29, locals := 60 } : Room) #[(.int n), (.int (4 : Int32)), (.ref ta), (.ref hd), (.ref wt)] h0 (fun v h L => ∃ gr fa ah : Addr, v = some (.ref gr) ∧ Fr n0 L ∧ Keep h0 h [] ∧ h0.size ≤ gr ∧ h0.size ≤ fa ∧ h0.size ≤ ah ∧ Exa Z h gr "com/example/wayfold/wayfold/Graph" ∧ Fld Z h gr "com/example/wayfold/wayfold/Graph" "firstArc" "[I" (.ref fa) ∧ Fld Z h gr "com/example/wayfold/wayfold/Graph" "arcHead" "[I" (.ref ah) ∧ LI Z h fa (own_fa n t0 t1 t2 t3) ∧ LI Z h ah (own_hd (own_s0 (own_nx n t0 t1 t2 t3) t0) (own_s1 (own_nx n t0 t1 t2 t3) t0 t1) (own_s2 (own_nx n t0 t1 t2 t3) t0 t1 t2) (own_s3 (own_nx n t0 t1 t2 t3) t0 t1 t2 t3) y0 y1 y2 y3)) := by
  refine Con.of (plainFor_of_name pn_com_example_wayfold_wayfold_Graph) ?_
  intro p e s m below meth c T X hx hby hml hown hnm hret eT hZ hsh Φ fin
  replace hown : s.vm.findClass "com/example/wayfold/wayfold/Graph" = some m.cls := hown
  replace hml : 13 = c.maxLocals := hml.symm
  refine own_step (fun tq kq => castTop (ef_rmG m n (4 : Int32) ta hd wt) kq) ?_
  have N0 := Fr.nil n0
  have K0 : Keep h0 h0 [] := Keep.refl h0 []
  have en1 := own_p1 (x := n) (by omega) (by omega)
  have en2 := own_p2 (x := n) (by omega) (by omega)
  have cn := own_cl (x := n) (by omega)
  have cn1 := own_cl (x := n + (1 : Int32)) (by omega)
  have cn2 := own_cl (x := n + (2 : Int32)) (by omega)
  have hgo := own_goodOf hg
  have hsm := own_small hgo.1
  have et0 := own_p1 (x := t0) (by omega) (by omega)
  have et1 := own_p1 (x := t1) (by omega) (by omega)
  have et2 := own_p1 (x := t2) (by omega) (by omega)
  have et3 := own_p1 (x := t3) (by omega) (by omega)
  refine own_iloadN X hx hby d_19_2__0 rfl (pc' := 1) rfl ?_
  refine own_ifN X hx hby d_19_2__1 ((if0 _ _).trans (flt (own_geI (by rw [own_z0]; omega))).1) (pc' := 4) rfl ?_
  refine own_iloadN X hx hby d_19_2__4 rfl (pc' := 5) rfl ?_
  refine own_ifN X hx hby d_19_2__5 ((if0 _ _).trans (flt (by decide)).1) (pc' := 8) rfl ?_
  refine own_iloadN X hx hby d_19_2__8 rfl (pc' := 9) rfl ?_
  refine own_aloadN X hx hby d_19_2__9 rfl rfl (pc' := 10) rfl ?_
  refine own_alen X hx hby hZ eT (n := (4 : Int32)) Vt rfl d_19_2__10 (pc' := 11) rfl ?_
  refine own_icmpN X hx hby d_19_2__11 (flt (by decide)).2.2.1 (pc' := 14) rfl ?_
  refine own_iloadN X hx hby d_19_2__14 rfl (pc' := 15) rfl ?_
  refine own_aloadN X hx hby d_19_2__15 rfl rfl (pc' := 16) rfl ?_
  refine own_alen X hx hby hZ eT (n := (4 : Int32)) Vh rfl d_19_2__16 (pc' := 17) rfl ?_
  refine own_icmpN X hx hby d_19_2__17 (flt (by decide)).2.2.1 (pc' := 20) rfl ?_
  refine own_iloadN X hx hby d_19_2__20 rfl (pc' := 21) rfl ?_
  refine own_aload X hx hby d_19_2__21 rfl rfl (pc' := 23) rfl ?_
  refine own_alen X hx hby hZ eT (n := (4 : Int32)) Vw rfl d_19_2__23 (pc' := 24) rfl ?_
  refine own_icmpY X hx hby d_19_2__24 (flt (by decide)).2.2.2 (by decide) (pc' := 42) (by decide) ?_
  refine own_iloadN X hx hby d_19_2__42 rfl (pc' := 43) rfl ?_
  refine own_iconst X hx hby d_19_2__43 (v := (2 : Int32)) rfl (pc' := 44) rfl ?_
  refine own_iadd X hx hby d_19_2__44 (pc' := 45) rfl ?_
  obtain ⟨T1, h1, k1, X1, e1, E1, A1, st1⟩ := newP X hx hZ (own_w hw 97 rfl) eT (g := (mkF m 45 #[.val (.int n), .val (.int (4 : Int32)), .val (.ref ta), .val (.ref hd), .val (.ref wt), .unset, .unset, .unset, .unset, .unset, .unset, .unset, .unset] [(.int (n + (2 : Int32)))])) rfl (hb hby d_19_2__45) rfl (own_geI (by rw [own_z0]; omega)) (cap := 9) (by omega) (by decide) (by decide) (by decide)
  obtain ⟨b1, g1⟩ : ∃ z, z = h0.size := ⟨_, rfl⟩
  have ne_ta_b1 : ta ≠ b1 := Nat.ne_of_lt (g1 ▸ Vt.lt)
  have ne_hd_b1 : hd ≠ b1 := Nat.ne_of_lt (g1 ▸ Vh.lt)
  have ne_wt_b1 : wt ≠ b1 := Nat.ne_of_lt (g1 ▸ Vw.lt)
  have V2_ta := Vt.ext E1
  have V3_hd := Vh.ext E1
  have V4_wt := Vw.ext E1
  have Z1 : n0 ≤ h1.size := Nat.le_trans Z0 E1.1
  have n0_b1 : n0 ≤ b1 := g1 ▸ Z0
  have sz_b1 : h0.size ≤ b1 := g1 ▸ K0.1
  have K1 : Keep h0 h1 [] := K0.ext E1
  rw [← g1] at A1 st1
  refine own_step st1 ?_
  have V1 : AV Z h1 b1 .int (List.replicate ((n + (2 : Int32))).toNatClampNeg (.int (0 : Int32))) := AV.new A1 (own_geI (by rw [own_z0]; omega))
  show GoP p e below Φ (T1.setTop (mkF m 47 #[.val (.int n), .val (.int (4 : Int32)), .val (.ref ta), .val (.ref hd), .val (.ref wt), .unset, .unset, .unset, .unset, .unset, .unset, .unset, .unset] [(.ref b1)]))
  have B5 : LI Z h1 b1 (List.replicate (n + (2 : Int32)).toNatClampNeg (0 : Int32)) := LI.new V1
  have HL5 : (List.replicate (n + (2 : Int32)).toNatClampNeg (0 : Int32)).length = n.toInt.toNat + 2 := by rw [List.length_replicate]; omega
  refine own_astore X1 hx hby d_19_2__47 rfl (Ls' := #[.val (.int n), .val (.int (4 : Int32)), .val (.ref ta), .val (.ref hd), .val (.ref wt), .val (.ref b1), .unset, .unset, .unset, .unset, .unset, .unset, .unset]) rfl (pc' := 49) rfl ?_
  refine own_lconst X1 hx hby d_19_2__49 (v := (0 : Int64)) rfl (pc' := 50) rfl ?_
  refine own_lstore X1 hx hby d_19_2__50  (Ls' := #[.val (.int n), .val (.int (4 : Int32)), .val (.ref ta), .val (.ref hd), .val (.ref wt), .val (.ref b1), .val (.long (0 : Int64)), .second, .unset, .unset, .unset, .unset, .unset]) rfl (pc' := 52) rfl ?_
  refine own_iconst X1 hx hby d_19_2__52 (v := (0 : Int32)) rfl (pc' := 53) rfl ?_
  refine own_istore X1 hx hby d_19_2__53  (Ls' := #[.val (.int n), .val (.int (4 : Int32)), .val (.ref ta), .val (.ref hd), .val (.ref wt), .val (.ref b1), .val (.long (0 : Int64)), .second, .val (.int (0 : Int32)), .unset, .unset, .unset, .unset]) rfl (pc' := 55) rfl ?_
  refine own_iload X1 hx hby d_19_2__55 rfl (pc' := 57) rfl ?_
  refine own_iloadN X1 hx hby d_19_2__57 rfl (pc' := 58) rfl ?_
  refine own_icmpN X1 hx hby d_19_2__58 (tlt (by decide)).2.1 (pc' := 61) rfl ?_
  refine own_aloadN X1 hx hby d_19_2__61 rfl rfl (pc' := 62) rfl ?_
  refine own_iload X1 hx hby d_19_2__62 rfl (pc' := 64) rfl ?_
  refine own_iaload X1 hx hby hZ e1 V2_ta (by decide) (v := (.int t0)) rfl d_19_2__64 (pc' := 65) rfl ?_
  refine own_iloadN X1 hx hby d_19_2__65 rfl (pc' := 66) rfl ?_
  refine own_callS X1 hx hby hZ (by exact hml) hown (own_w hw 156 rfl) (own_w hw 157 rfl) (own_w hw 154 rfl) (own_w hw 158 rfl) (by decide) e1 0 (by decide) (by decide) (by decide) (by decide) (argsL := [(.int t0), (.int n)]) (rest := []) (lenOf pd__II_V rfl) rfl (rmCk l Z a0 hw t0 n h1 (own_geI (by rw [own_z1]; omega)) (own_geI (by omega))) (Nat.le_of_eq rfl) d_19_2__66 (pc' := 69) rfl ?_
  intro v6 T6 L6 X6 hQ6
  obtain ⟨rfl, rfl, e6⟩ := hQ6
  rw [List.append_nil] at X6
  replace e6 : T6.heap = h1 := e6
  show GoP p e below Φ (T6.setTop (mkF m 69 #[.val (.int n), .val (.int (4 : Int32)), .val (.ref ta), .val (.ref hd), .val (.ref wt), .val (.ref b1), .val (.long (0 : Int64)), .second, .val (.int (0 : Int32)), .unset, .unset, .unset, .unset] []))
  refine own_aloadN X6 hx hby d_19_2__69 rfl rfl (pc' := 70) rfl ?_
  refine own_iload X6 hx hby d_19_2__70 rfl (pc' := 72) rfl ?_
  refine own_iaload X6 hx hby hZ e6 V3_hd (by decide) (v := (.int y0)) rfl d_19_2__72 (pc' := 73) rfl ?_
  refine own_iloadN X6 hx hby d_19_2__73 rfl (pc' := 74) rfl ?_
  refine own_callS X6 hx hby hZ (by exact hml) hown (own_w hw 156 rfl) (own_w hw 157 rfl) (own_w hw 154 rfl) (own_w hw 158 rfl) (by decide) e6 0 (by decide) (by decide) (by decide) (by decide) (argsL := [(.int y0), (.int n)]) (rest := []) (lenOf pd__II_V rfl) rfl (rmCk l Z a0 hw y0 n h1 (own_geI (by rw [own_z1]; omega)) (own_geI (by omega))) (Nat.le_of_eq rfl) d_19_2__74 (pc' := 77) rfl ?_
  intro v7 T7 L7 X7 hQ7
  obtain ⟨rfl, rfl, e7⟩ := hQ7
  rw [List.append_nil] at X7
  replace e7 : T7.heap = h1 := e7
  show GoP p e below Φ (T7.setTop (mkF m 77 #[.val (.int n), .val (.int (4 : Int32)), .val (.ref ta), .val (.ref hd), .val (.ref wt), .val (.ref b1), .val (.long (0 : Int64)), .second, .val (.int (0 : Int32)), .unset, .unset, .unset, .unset] []))
  refine own_aload X7 hx hby d_19_2__77 rfl rfl (pc' := 79) rfl ?_
  refine own_iload X7 hx hby d_19_2__79 rfl (pc' := 81) rfl ?_
  refine own_laload X7 hx hby hZ e7 V4_wt (by decide) (v := (.long (0 : Int64))) rfl d_19_2__81 (pc' := 82) rfl ?_
  refine own_lconst X7 hx hby d_19_2__82 (v := (0 : Int64)) rfl (pc' := 83) rfl ?_
  refine own_lcmp X7 hx hby d_19_2__83 (pc' := 84) rfl ?_
  refine own_ifY X7 hx hby d_19_2__84 ((if0 _ _).trans (flt (fun q => (show ¬ (0 : Int64) < (0 : Int64) from by decide) ((lw_lt _ _).mp q))).2.1) (by decide) (pc' := 107) (by decide) ?_
  refine own_lload X7 hx hby d_19_2__107 rfl (pc' := 109) rfl ?_
  refine own_aload X7 hx hby d_19_2__109 rfl rfl (pc' := 111) rfl ?_
  refine own_iload X7 hx hby d_19_2__111 rfl (pc' := 113) rfl ?_
  refine own_laload X7 hx hby hZ e7 V4_wt (by decide) (v := (.long (0 : Int64))) rfl d_19_2__113 (pc' := 114) rfl ?_
  refine own_callS X7 hx hby hZ (by exact hml) hown (own_w hw 159 rfl) (own_w hw 160 rfl) (own_w hw 154 rfl) (own_w hw 161 rfl) (by decide) e7 0 (by decide) (by decide) (by decide) (by decide) (argsL := [(.long (0 : Int64)), (.long (0 : Int64))]) (rest := []) (lenOf pd__JJ_J rfl) rfl (rmAW l Z a0 hw h1) (Nat.le_of_eq rfl) d_19_2__114 (pc' := 117) rfl ?_
  intro v8 T8 L8 X8 hQ8
  obtain ⟨rfl, rfl, e8⟩ := hQ8
  rw [List.append_nil] at X8
  replace e8 : T8.heap = h1 := e8
  show GoP p e below Φ (T8.setTop (mkF m 117 #[.val (.int n), .val (.int (4 : Int32)), .val (.ref ta), .val (.ref hd), .val (.ref wt), .val (.ref b1), .val (.long (0 : Int64)), .second, .val (.int (0 : Int32)), .unset, .unset, .unset, .unset] [(.long (0 : Int64))]))
  refine own_lstore X8 hx hby d_19_2__117  (Ls' := #[.val (.int n), .val (.int (4 : Int32)), .val (.ref ta), .val (.ref hd), .val (.ref wt), .val (.ref b1), .val (.long (0 : Int64)), .second, .val (.int (0 : Int32)), .unset, .unset, .unset, .unset]) rfl (pc' := 119) rfl ?_
  refine own_lload X8 hx hby d_19_2__119 rfl (pc' := 121) rfl ?_
  refine own_lconst X8 hx hby d_19_2__121 (v := (0 : Int64)) rfl (pc' := 122) rfl ?_
  refine own_lcmp X8 hx hby d_19_2__122 (pc' := 123) rfl ?_
  refine own_ifY X8 hx hby d_19_2__123 ((if0 _ _).trans (flt (fun q => (show ¬ (0 : Int64) < (0 : Int64) from by decide) ((lw_lt _ _).mp q))).2.1) (by decide) (pc' := 136) (by decide) ?_
  refine own_aload X8 hx hby d_19_2__136 rfl rfl (pc' := 138) rfl ?_
  refine own_aloadN X8 hx hby d_19_2__138 rfl rfl (pc' := 139) rfl ?_
  refine own_iload X8 hx hby d_19_2__139 rfl (pc' := 141) rfl ?_
  refine own_iaload X8 hx hby hZ e8 V2_ta (by decide) (v := (.int t0)) rfl d_19_2__141 (pc' := 142) rfl ?_
  refine own_iconst X8 hx hby d_19_2__142 (v := (1 : Int32)) rfl (pc' := 143) rfl ?_
  refine own_iadd X8 hx hby d_19_2__143 (pc' := 144) rfl ?_
  refine own_dup2 X8 hx hby d_19_2__144 rfl rfl (pc' := 145) rfl ?_
  refine own_ialoadL X8 hx hby hZ e8 B5 (by rw [HL5]; exact own_idx (by omega) (by omega)) d_19_2__145 (pc' := 146) rfl ?_
  refine own_iconst X8 hx hby d_19_2__146 (v := (1 : Int32)) rfl (pc' := 147) rfl ?_
  refine own_iadd X8 hx hby d_19_2__147 (pc' := 148) rfl ?_
  refine own_iastoreL X8 hx hby hZ e8 B5 (by rw [HL5]; exact own_idx (by omega) (by omega)) d_19_2__148 (pc' := 149) rfl ?_
  intro T9 h9 X9 e9 W9 B9
  have V10_ta := V2_ta.other W9 ne_ta_b1
  have V11_hd := V3_hd.other W9 ne_hd_b1
  have V12_wt := V4_wt.other W9 ne_wt_b1
  have Z9 : n0 ≤ h9.size := by rw [W9.size]; exact Z1
  have N9 := Fr.snoc X9 N0 n0_b1
  have K9 : Keep h0 h9 [] := K1.wr W9 (Or.inr sz_b1)
  have B14 : LI Z h9 b1 (own_inc (List.replicate (n + (2 : Int32)).toNatClampNeg (0 : Int32)) (t0 + (1 : Int32))) := B9
  have HL14 := (own_inclen (List.replicate (n + (2 : Int32)).toNatClampNeg (0 : Int32)) (t0 + (1 : Int32))).trans HL5
  refine own_iinc X9 hx hby d_19_2__149 rfl (v := (1 : Int32)) rfl (Ls' := #[.val (.int n), .val (.int (4 : Int32)), .val (.ref ta), .val (.ref hd), .val (.ref wt), .val (.ref b1), .val (.long (0 : Int64)), .second, .val (.int (1 : Int32)), .unset, .unset, .unset, .unset]) rfl (pc' := 152) rfl ?_
  refine own_goto X9 hx hby d_19_2__152 (by decide) (pc' := 55) (by decide) ?_
  refine own_iload X9 hx hby d_19_2__55 rfl (pc' := 57) rfl ?_
  refine own_iloadN X9 hx hby d_19_2__57 rfl (pc' := 58) rfl ?_
  refine own_icmpN X9 hx hby d_19_2__58 (tlt (by decide)).2.1 (pc' := 61) rfl ?_
  refine own_aloadN X9 hx hby d_19_2__61 rfl rfl (pc' := 62) rfl ?_
  refine own_iload X9 hx hby d_19_2__62 rfl (pc' := 64) rfl ?_
  refine own_iaload X9 hx hby hZ e9 V10_ta (by decide) (v := (.int t1)) rfl d_19_2__64 (pc' := 65) rfl ?_
  refine own_iloadN X9 hx hby d_19_2__65 rfl (pc' := 66) rfl ?_
  refine own_callS X9 hx hby hZ (by exact hml) hown (own_w hw 156 rfl) (own_w hw 157 rfl) (own_w hw 154 rfl) (own_w hw 158 rfl) (by decide) e9 0 (by decide) (by decide) (by decide) (by decide) (argsL := [(.int t1), (.int n)]) (rest := []) (lenOf pd__II_V rfl) rfl (rmCk l Z a0 hw t1 n h9 (own_geI (by rw [own_z1]; omega)) (own_geI (by omega))) (Nat.le_of_eq rfl) d_19_2__66 (pc' := 69) rfl ?_
  intro v15 T15 L15 X15 hQ15
  obtain ⟨rfl, rfl, e15⟩ := hQ15
  rw [List.append_nil] at X15
  replace e15 : T15.heap = h9 := e15
  show GoP p e below Φ (T15.setTop (mkF m 69 #[.val (.int n), .val (.int (4 : Int32)), .val (.ref ta), .val (.ref hd), .val (.ref wt), .val (.ref b1), .val (.long (0 : Int64)), .second, .val (.int (1 : Int32)), .unset, .unset, .unset, .unset] []))
  refine own_aloadN X15 hx hby d_19_2__69 rfl rfl (pc' := 70) rfl ?_
  refine own_iload X15 hx hby d_19_2__70 rfl (pc' := 72) rfl ?_
  refine own_iaload X15 hx hby hZ e15 V11_hd (by decide) (v := (.int y1)) rfl d_19_2__72 (pc' := 73) rfl ?_
  refine own_iloadN X15 hx hby d_19_2__73 rfl (pc' := 74) rfl ?_
  refine own_callS X15 hx hby hZ (by exact hml) hown (own_w hw 156 rfl) (own_w hw 157 rfl) (own_w hw 154 rfl) (own_w hw 158 rfl) (by decide) e15 0 (by decide) (by decide) (by decide) (by decide) (argsL := [(.int y1), (.int n)]) (rest := []) (lenOf pd__II_V rfl) rfl (rmCk l Z a0 hw y1 n h9 (own_geI (by rw [own_z1]; omega)) (own_geI (by omega))) (Nat.le_of_eq rfl) d_19_2__74 (pc' := 77) rfl ?_
  intro v16 T16 L16 X16 hQ16
  obtain ⟨rfl, rfl, e16⟩ := hQ16
  rw [List.append_nil] at X16
  replace e16 : T16.heap = h9 := e16
  show GoP p e below Φ (T16.setTop (mkF m 77 #[.val (.int n), .val (.int (4 : Int32)), .val (.ref ta), .val (.ref hd), .val (.ref wt), .val (.ref b1), .val (.long (0 : Int64)), .second, .val (.int (1 : Int32)), .unset, .unset, .unset, .unset] []))
  refine own_aload X16 hx hby d_19_2__77 rfl rfl (pc' := 79) rfl ?_
  refine own_iload X16 hx hby d_19_2__79 rfl (pc' := 81) rfl ?_
  refine own_laload X16 hx hby hZ e16 V12_wt (by decide) (v := (.long (0 : Int64))) rfl d_19_2__81 (pc' := 82) rfl ?_
  refine own_lconst X16 hx hby d_19_2__82 (v := (0 : Int64)) rfl (pc' := 83) rfl ?_
  refine own_lcmp X16 hx hby d_19_2__83 (pc' := 84) rfl ?_
  refine own_ifY X16 hx hby d_19_2__84 ((if0 _ _).trans (flt (fun q => (show ¬ (0 : Int64) < (0 : Int64) from by decide) ((lw_lt _ _).mp q))).2.1) (by decide) (pc' := 107) (by decide) ?_
  refine own_lload X16 hx hby d_19_2__107 rfl (pc' := 109) rfl ?_
  refine own_aload X16 hx hby d_19_2__109 rfl rfl (pc' := 111) rfl ?_
  refine own_iload X16 hx hby d_19_2__111 rfl (pc' := 113) rfl ?_
  refine own_laload X16 hx hby hZ e16 V12_wt (by decide) (v := (.long (0 : Int64))) rfl d_19_2__113 (pc' := 114) rfl ?_
  refine own_callS X16 hx hby hZ (by exact hml) hown (own_w hw 159 rfl) (own_w hw 160 rfl) (own_w hw 154 rfl) (own_w hw 161 rfl) (by decide) e16 0 (by decide) (by decide) (by decide) (by decide) (argsL := [(.long (0 : Int64)), (.long (0 : Int64))]) (rest := []) (lenOf pd__JJ_J rfl) rfl (rmAW l Z a0 hw h9) (Nat.le_of_eq rfl) d_19_2__114 (pc' := 117) rfl ?_
  intro v17 T17 L17 X17 hQ17
  obtain ⟨rfl, rfl, e17⟩ := hQ17
  rw [List.append_nil] at X17
  replace e17 : T17.heap = h9 := e17
  show GoP p e below Φ (T17.setTop (mkF m 117 #[.val (.int n), .val (.int (4 : Int32)), .val (.ref ta), .val (.ref hd), .val (.ref wt), .val (.ref b1), .val (.long (0 : Int64)), .second, .val (.int (1 : Int32)), .unset, .unset, .unset, .unset] [(.long (0 : Int64))]))
  refine own_lstore X17 hx hby d_19_2__117  (Ls' := #[.val (.int n), .val (.int (4 : Int32)), .val (.ref ta), .val (.ref hd), .val (.ref wt), .val (.ref b1), .val (.long (0 : Int64)), .second, .val (.int (1 : Int32)), .unset, .unset, .unset, .unset]) rfl (pc' := 119) rfl ?_
  refine own_lload X17 hx hby d_19_2__119 rfl (pc' := 121) rfl ?_
  refine own_lconst X17 hx hby d_19_2__121 (v := (0 : Int64)) rfl (pc' := 122) rfl ?_
  refine own_lcmp X17 hx hby d_19_2__122 (pc' := 123) rfl ?_
  refine own_ifY X17 hx hby d_19_2__123 ((if0 _ _).trans (flt (fun q => (show ¬ (0 : Int64) < (0 : Int64) from by decide) ((lw_lt _ _).mp q))).2.1) (by decide) (pc' := 136) (by decide) ?_
  refine own_aload X17 hx hby d_19_2__136 rfl rfl (pc' := 138) rfl ?_
  refine own_aloadN X17 hx hby d_19_2__138 rfl rfl (pc' := 139) rfl ?_
  refine own_iload X17 hx hby d_19_2__139 rfl (pc' := 141) rfl ?_
  refine own_iaload X17 hx hby hZ e17 V10_ta (by decide) (v := (.int t1)) rfl d_19_2__141 (pc' := 142) rfl ?_
  refine own_iconst X17 hx hby d_19_2__142 (v := (1 : Int32)) rfl (pc' := 143) rfl ?_
  refine own_iadd X17 hx hby d_19_2__143 (pc' := 144) rfl ?_
  refine own_dup2 X17 hx hby d_19_2__144 rfl rfl (pc' := 145) rfl ?_
  refine own_ialoadL X17 hx hby hZ e17 B14 (by rw [HL14]; exact own_idx (by omega) (by omega)) d_19_2__145 (pc' := 146) rfl ?_
  refine own_iconst X17 hx hby d_19_2__146 (v := (1 : Int32)) rfl (pc' := 147) rfl ?_
  refine own_iadd X17 hx hby d_19_2__147 (pc' := 148) rfl ?_
  refine own_iastoreL X17 hx hby hZ e17 B14 (by rw [HL14]; exact own_idx (by omega) (by omega)) d_19_2__148 (pc' := 149) rfl ?_
  intro T18 h18 X18 e18 W18 B18
  have V19_ta := V10_ta.other W18 ne_ta_b1
  have V20_hd := V11_hd.other W18 ne_hd_b1
  have V21_wt := V12_wt.other W18 ne_wt_b1
  have Z18 : n0 ≤ h18.size := by rw [W18.size]; exact Z9
  have N18 := Fr.snoc X18 N9 n0_b1
  have K18 : Keep h0 h18 [] := K9.wr W18 (Or.inr sz_b1)
  have B23 : LI Z h18 b1 (own_inc (own_inc (List.replicate (n + (2 : Int32)).toNatClampNeg (0 : Int32)) (t0 + (1 : Int32))) (t1 + (1 : Int32))) := B18
  have HL23 := (own_inclen (own_inc (List.replicate (n + (2 : Int32)).toNatClampNeg (0 : Int32)) (t0 + (1 : Int32))) (t1 + (1 : Int32))).trans HL14
  refine own_iinc X18 hx hby d_19_2__149 rfl (v := (1 : Int32)) rfl (Ls' := #[.val (.int n), .val (.int (4 : Int32)), .val (.ref ta), .val (.ref hd), .val (.ref wt), .val (.ref b1), .val (.long (0 : Int64)), .second, .val (.int (2 : Int32)), .unset, .unset, .unset, .unset]) rfl (pc' := 152) rfl ?_
  refine own_goto X18 hx hby d_19_2__152 (by decide) (pc' := 55) (by decide) ?_
  refine own_iload X18 hx hby d_19_2__55 rfl (pc' := 57) rfl ?_
  refine own_iloadN X18 hx hby d_19_2__57 rfl (pc' := 58) rfl ?_
  refine own_icmpN X18 hx hby d_19_2__58 (tlt (by decide)).2.1 (pc' := 61) rfl ?_
  refine own_aloadN X18 hx hby d_19_2__61 rfl rfl (pc' := 62) rfl ?_
  refine own_iload X18 hx hby d_19_2__62 rfl (pc' := 64) rfl ?_
  refine own_iaload X18 hx hby hZ e18 V19_ta (by decide) (v := (.int t2)) rfl d_19_2__64 (pc' := 65) rfl ?_
  refine own_iloadN X18 hx hby d_19_2__65 rfl (pc' := 66) rfl ?_
  refine own_callS X18 hx hby hZ (by exact hml) hown (own_w hw 156 rfl) (own_w hw 157 rfl) (own_w hw 154 rfl) (own_w hw 158 rfl) (by decide) e18 0 (by decide) (by decide) (by decide) (by decide) (argsL := [(.int t2), (.int n)]) (rest := []) (lenOf pd__II_V rfl) rfl (rmCk l Z a0 hw t2 n h18 (own_geI (by rw [own_z1]; omega)) (own_geI (by omega))) (Nat.le_of_eq rfl) d_19_2__66 (pc' := 69) rfl ?_
  intro v24 T24 L24 X24 hQ24
  obtain ⟨rfl, rfl, e24⟩ := hQ24
  rw [List.append_nil] at X24
  replace e24 : T24.heap = h18 := e24
  show GoP p e below Φ (T24.setTop (mkF m 69 #[.val (.int n), .val (.int (4 : Int32)), .val (.ref ta), .val (.ref hd), .val (.ref wt), .val (.ref b1), .val (.long (0 : Int64)), .second, .val (.int (2 : Int32)), .unset, .unset, .unset, .unset] []))
  refine own_aloadN X24 hx hby d_19_2__69 rfl rfl (pc' := 70) rfl ?_
  refine own_iload X24 hx hby d_19_2__70 rfl (pc' := 72) rfl ?_
  refine own_iaload X24 hx hby hZ e24 V20_hd (by decide) (v := (.int y2)) rfl d_19_2__72 (pc' := 73) rfl ?_
  refine own_iloadN X24 hx hby d_19_2__73 rfl (pc' := 74) rfl ?_
  refine own_callS X24 hx hby hZ (by exact hml) hown (own_w hw 156 rfl) (own_w hw 157 rfl) (own_w hw 154 rfl) (own_w hw 158 rfl) (by decide) e24 0 (by decide) (by decide) (by decide) (by decide) (argsL := [(.int y2), (.int n)]) (rest := []) (lenOf pd__II_V rfl) rfl (rmCk l Z a0 hw y2 n h18 (own_geI (by rw [own_z1]; omega)) (own_geI (by omega))) (Nat.le_of_eq rfl) d_19_2__74 (pc' := 77) rfl ?_
  intro v25 T25 L25 X25 hQ25
  obtain ⟨rfl, rfl, e25⟩ := hQ25
  rw [List.append_nil] at X25
  replace e25 : T25.heap = h18 := e25
  show GoP p e below Φ (T25.setTop (mkF m 77 #[.val (.int n), .val (.int (4 : Int32)), .val (.ref ta), .val (.ref hd), .val (.ref wt), .val (.ref b1), .val (.long (0 : Int64)), .second, .val (.int (2 : Int32)), .unset, .unset, .unset, .unset] []))
  refine own_aload X25 hx hby d_19_2__77 rfl rfl (pc' := 79) rfl ?_
  refine own_iload X25 hx hby d_19_2__79 rfl (pc' := 81) rfl ?_
  refine own_laload X25 hx hby hZ e25 V21_wt (by decide) (v := (.long (0 : Int64))) rfl d_19_2__81 (pc' := 82) rfl ?_
  refine own_lconst X25 hx hby d_19_2__82 (v := (0 : Int64)) rfl (pc' := 83) rfl ?_
  refine own_lcmp X25 hx hby d_19_2__83 (pc' := 84) rfl ?_
  refine own_ifY X25 hx hby d_19_2__84 ((if0 _ _).trans (flt (fun q => (show ¬ (0 : Int64) < (0 : Int64) from by decide) ((lw_lt _ _).mp q))).2.1) (by decide) (pc' := 107) (by decide) ?_
  refine own_lload X25 hx hby d_19_2__107 rfl (pc' := 109) rfl ?_
  refine own_aload X25 hx hby d_19_2__109 rfl rfl (pc' := 111) rfl ?_
  refine own_iload X25 hx hby d_19_2__111 rfl (pc' := 113) rfl ?_
  refine own_laload X25 hx hby hZ e25 V21_wt (by decide) (v := (.long (0 : Int64))) rfl d_19_2__113 (pc' := 114) rfl ?_
  refine own_callS X25 hx hby hZ (by exact hml) hown (own_w hw 159 rfl) (own_w hw 160 rfl) (own_w hw 154 rfl) (own_w hw 161 rfl) (by decide) e25 0 (by decide) (by decide) (by decide) (by decide) (argsL := [(.long (0 : Int64)), (.long (0 : Int64))]) (rest := []) (lenOf pd__JJ_J rfl) rfl (rmAW l Z a0 hw h18) (Nat.le_of_eq rfl) d_19_2__114 (pc' := 117) rfl ?_
  intro v26 T26 L26 X26 hQ26
  obtain ⟨rfl, rfl, e26⟩ := hQ26
  rw [List.append_nil] at X26
  replace e26 : T26.heap = h18 := e26
  show GoP p e below Φ (T26.setTop (mkF m 117 #[.val (.int n), .val (.int (4 : Int32)), .val (.ref ta), .val (.ref hd), .val (.ref wt), .val (.ref b1), .val (.long (0 : Int64)), .second, .val (.int (2 : Int32)), .unset, .unset, .unset, .unset] [(.long (0 : Int64))]))
  refine own_lstore X26 hx hby d_19_2__117  (Ls' := #[.val (.int n), .val (.int (4 : Int32)), .val (.ref ta), .val (.ref hd), .val (.ref wt), .val (.ref b1), .val (.long (0 : Int64)), .second, .val (.int (2 : Int32)), .unset, .unset, .unset, .unset]) rfl (pc' := 119) rfl ?_
  refine own_lload X26 hx hby d_19_2__119 rfl (pc' := 121) rfl ?_
  refine own_lconst X26 hx hby d_19_2__121 (v := (0 : Int64)) rfl (pc' := 122) rfl ?_
  refine own_lcmp X26 hx hby d_19_2__122 (pc' := 123) rfl ?_
  refine own_ifY X26 hx hby d_19_2__123 ((if0 _ _).trans (flt (fun q => (show ¬ (0 : Int64) < (0 : Int64) from by decide) ((lw_lt _ _).mp q))).2.1) (by decide) (pc' := 136) (by decide) ?_
  refine own_aload X26 hx hby d_19_2__136 rfl rfl (pc' := 138) rfl ?_
  refine own_aloadN X26 hx hby d_19_2__138 rfl rfl (pc' := 139) rfl ?_
  refine own_iload X26 hx hby d_19_2__139 rfl (pc' := 141) rfl ?_
  refine own_iaload X26 hx hby hZ e26 V19_ta (by decide) (v := (.int t2)) rfl d_19_2__141 (pc' := 142) rfl ?_
  refine own_iconst X26 hx hby d_19_2__142 (v := (1 : Int32)) rfl (pc' := 143) rfl ?_
  refine own_iadd X26 hx hby d_19_2__143 (pc' := 144) rfl ?_
  refine own_dup2 X26 hx hby d_19_2__144 rfl rfl (pc' := 145) rfl ?_
  refine own_ialoadL X26 hx hby hZ e26 B23 (by rw [HL23]; exact own_idx (by omega) (by omega)) d_19_2__145 (pc' := 146) rfl ?_
  refine own_iconst X26 hx hby d_19_2__146 (v := (1 : Int32)) rfl (pc' := 147) rfl ?_
  refine own_iadd X26 hx hby d_19_2__147 (pc' := 148) rfl ?_
  refine own_iastoreL X26 hx hby hZ e26 B23 (by rw [HL23]; exact own_idx (by omega) (by omega)) d_19_2__148 (pc' := 149) rfl ?_
  intro T27 h27 X27 e27 W27 B27
  have V28_ta := V19_ta.other W27 ne_ta_b1
  have V29_hd := V20_hd.other W27 ne_hd_b1
  have V30_wt := V21_wt.other W27 ne_wt_b1
  have Z27 : n0 ≤ h27.size := by rw [W27.size]; exact Z18
  have N27 := Fr.snoc X27 N18 n0_b1
  have K27 : Keep h0 h27 [] := K18.wr W27 (Or.inr sz_b1)
  have B32 : LI Z h27 b1 (own_inc (own_inc (own_inc (List.replicate (n + (2 : Int32)).toNatClampNeg (0 : Int32)) (t0 + (1 : Int32))) (t1 + (1 : Int32))) (t2 + (1 : Int32))) := B27
  have HL32 := (own_inclen (own_inc (own_inc (List.replicate (n + (2 : Int32)).toNatClampNeg (0 : Int32)) (t0 + (1 : Int32))) (t1 + (1 : Int32))) (t2 + (1 : Int32))).trans HL23
  refine own_iinc X27 hx hby d_19_2__149 rfl (v := (1 : Int32)) rfl (Ls' := #[.val (.int n), .val (.int (4 : Int32)), .val (.ref ta), .val (.ref hd), .val (.ref wt), .val (.ref b1), .val (.long (0 : Int64)), .second, .val (.int (3 : Int32)), .unset, .unset, .unset, .unset]) rfl (pc' := 152) rfl ?_
  refine own_goto X27 hx hby d_19_2__152 (by decide) (pc' := 55) (by decide) ?_
  refine own_iload X27 hx hby d_19_2__55 rfl (pc' := 57) rfl ?_
  refine own_iloadN X27 hx hby d_19_2__57 rfl (pc' := 58) rfl ?_
  refine own_icmpN X27 hx hby d_19_2__58 (tlt (by decide)).2.1 (pc' := 61) rfl ?_
  refine own_aloadN X27 hx hby d_19_2__61 rfl rfl (pc' := 62) rfl ?_
  refine own_iload X27 hx hby d_19_2__62 rfl (pc' := 64) rfl ?_
  refine own_iaload X27 hx hby hZ e27 V28_ta (by decide) (v := (.int t3)) rfl d_19_2__64 (pc' := 65) rfl ?_
  refine own_iloadN X27 hx hby d_19_2__65 rfl (pc' := 66) rfl ?_
  refine own_callS X27 hx hby hZ (by exact hml) hown (own_w hw 156 rfl) (own_w hw 157 rfl) (own_w hw 154 rfl) (own_w hw 158 rfl) (by decide) e27 0 (by decide) (by decide) (by decide) (by decide) (argsL := [(.int t3), (.int n)]) (rest := []) (lenOf pd__II_V rfl) rfl (rmCk l Z a0 hw t3 n h27 (own_geI (by rw [own_z1]; omega)) (own_geI (by omega))) (Nat.le_of_eq rfl) d_19_2__66 (pc' := 69) rfl ?_
  intro v33 T33 L33 X33 hQ33
  obtain ⟨rfl, rfl, e33⟩ := hQ33
  rw [List.append_nil] at X33
  replace e33 : T33.heap = h27 := e33
  show GoP p e below Φ (T33.setTop (mkF m 69 #[.val (.int n), .val (.int (4 : Int32)), .val (.ref ta), .val (.ref hd), .val (.ref wt), .val (.ref b1), .val (.long (0 : Int64)), .second, .val (.int (3 : Int32)), .unset, .unset, .unset, .unset] []))
  refine own_aloadN X33 hx hby d_19_2__69 rfl rfl (pc' := 70) rfl ?_
  refine own_iload X33 hx hby d_19_2__70 rfl (pc' := 72) rfl ?_
  refine own_iaload X33 hx hby hZ e33 V29_hd (by decide) (v := (.int y3)) rfl d_19_2__72 (pc' := 73) rfl ?_
  refine own_iloadN X33 hx hby d_19_2__73 rfl (pc' := 74) rfl ?_
  refine own_callS X33 hx hby hZ (by exact hml) hown (own_w hw 156 rfl) (own_w hw 157 rfl) (own_w hw 154 rfl) (own_w hw 158 rfl) (by decide) e33 0 (by decide) (by decide) (by decide) (by decide) (argsL := [(.int y3), (.int n)]) (rest := []) (lenOf pd__II_V rfl) rfl (rmCk l Z a0 hw y3 n h27 (own_geI (by rw [own_z1]; omega)) (own_geI (by omega))) (Nat.le_of_eq rfl) d_19_2__74 (pc' := 77) rfl ?_
  intro v34 T34 L34 X34 hQ34
  obtain ⟨rfl, rfl, e34⟩ := hQ34
  rw [List.append_nil] at X34
  replace e34 : T34.heap = h27 := e34
  show GoP p e below Φ (T34.setTop (mkF m 77 #[.val (.int n), .val (.int (4 : Int32)), .val (.ref ta), .val (.ref hd), .val (.ref wt), .val (.ref b1), .val (.long (0 : Int64)), .second, .val (.int (3 : Int32)), .unset, .unset, .unset, .unset] []))
  refine own_aload X34 hx hby d_19_2__77 rfl rfl (pc' := 79) rfl ?_
  refine own_iload X34 hx hby d_19_2__79 rfl (pc' := 81) rfl ?_
  refine own_laload X34 hx hby hZ e34 V30_wt (by decide) (v := (.long (0 : Int64))) rfl d_19_2__81 (pc' := 82) rfl ?_
  refine own_lconst X34 hx hby d_19_2__82 (v := (0 : Int64)) rfl (pc' := 83) rfl ?_
  refine own_lcmp X34 hx hby d_19_2__83 (pc' := 84) rfl ?_
  refine own_ifY X34 hx hby d_19_2__84 ((if0 _ _).trans (flt (fun q => (show ¬ (0 : Int64) < (0 : Int64) from by decide) ((lw_lt _ _).mp q))).2.1) (by decide) (pc' := 107) (by decide) ?_
  refine own_lload X34 hx hby d_19_2__107 rfl (pc' := 109) rfl ?_
  refine own_aload X34 hx hby d_19_2__109 rfl rfl (pc' := 111) rfl ?_
  refine own_iload X34 hx hby d_19_2__111 rfl (pc' := 113) rfl ?_
  refine own_laload X34 hx hby hZ e34 V30_wt (by decide) (v := (.long (0 : Int64))) rfl d_19_2__113 (pc' := 114) rfl ?_
  refine own_callS X34 hx hby hZ (by exact hml) hown (own_w hw 159 rfl) (own_w hw 160 rfl) (own_w hw 154 rfl) (own_w hw 161 rfl) (by decide) e34 0 (by decide) (by decide) (by decide) (by decide) (argsL := [(.long (0 : Int64)), (.long (0 : Int64))]) (rest := []) (lenOf pd__JJ_J rfl) rfl (rmAW l Z a0 hw h27) (Nat.le_of_eq rfl) d_19_2__114 (pc' := 117) rfl ?_
  intro v35 T35 L35 X35 hQ35
  obtain ⟨rfl, rfl, e35⟩ := hQ35
  rw [List.append_nil] at X35
  replace e35 : T35.heap = h27 := e35
  show GoP p e below Φ (T35.setTop (mkF m 117 #[.val (.int n), .val (.int (4 : Int32)), .val (.ref ta), .val (.ref hd), .val (.ref wt), .val (.ref b1), .val (.long (0 : Int64)), .second, .val (.int (3 : Int32)), .unset, .unset, .unset, .unset] [(.long (0 : Int64))]))
  refine own_lstore X35 hx hby d_19_2__117  (Ls' := #[.val (.int n), .val (.int (4 : Int32)), .val (.ref ta), .val (.ref hd), .val (.ref wt), .val (.ref b1), .val (.long (0 : Int64)), .second, .val (.int (3 : Int32)), .unset, .unset, .unset, .unset]) rfl (pc' := 119) rfl ?_
  refine own_lload X35 hx hby d_19_2__119 rfl (pc' := 121) rfl ?_
  refine own_lconst X35 hx hby d_19_2__121 (v := (0 : Int64)) rfl (pc' := 122) rfl ?_
  refine own_lcmp X35 hx hby d_19_2__122 (pc' := 123) rfl ?_
  refine own_ifY X35 hx hby d_19_2__123 ((if0 _ _).trans (flt (fun q => (show ¬ (0 : Int64) < (0 : Int64) from by decide) ((lw_lt _ _).mp q))).2.1) (by decide) (pc' := 136) (by decide) ?_
  refine own_aload X35 hx hby d_19_2__136 rfl rfl (pc' := 138) rfl ?_
  refine own_aloadN X35 hx hby d_19_2__138 rfl rfl (pc' := 139) rfl ?_
  refine own_iload X35 hx hby d_19_2__139 rfl (pc' := 141) rfl ?_
  refine own_iaload X35 hx hby hZ e35 V28_ta (by decide) (v := (.int t3)) rfl d_19_2__141 (pc' := 142) rfl ?_
  refine own_iconst X35 hx hby d_19_2__142 (v := (1 : Int32)) rfl (pc' := 143) rfl ?_
  refine own_iadd X35 hx hby d_19_2__143 (pc' := 144) rfl ?_
  refine own_dup2 X35 hx hby d_19_2__144 rfl rfl (pc' := 145) rfl ?_
  refine own_ialoadL X35 hx hby hZ e35 B32 (by rw [HL32]; exact own_idx (by omega) (by omega)) d_19_2__145 (pc' := 146) rfl ?_
  refine own_iconst X35 hx hby d_19_2__146 (v := (1 : Int32)) rfl (pc' := 147) rfl ?_
  refine own_iadd X35 hx hby d_19_2__147 (pc' := 148) rfl ?_
  refine own_iastoreL X35 hx hby hZ e35 B32 (by rw [HL32]; exact own_idx (by omega) (by omega)) d_19_2__148 (pc' := 149) rfl ?_
  intro T36 h36 X36 e36 W36 B36
  have V37_ta := V28_ta.other W36 ne_ta_b1
  have V38_hd := V29_hd.other W36 ne_hd_b1
  have V39_wt := V30_wt.other W36 ne_wt_b1
  have Z36 : n0 ≤ h36.size := by rw [W36.size]; exact Z27
  have N36 := Fr.snoc X36 N27 n0_b1
  have K36 : Keep h0 h36 [] := K27.wr W36 (Or.inr sz_b1)
  have B41 : LI Z h36 b1 (own_inc (own_inc (own_inc (own_inc (List.replicate (n + (2 : Int32)).toNatClampNeg (0 : Int32)) (t0 + (1 : Int32))) (t1 + (1 : Int32))) (t2 + (1 : Int32))) (t3 + (1 : Int32))) := B36
  have HL41 := (own_inclen (own_inc (own_inc (own_inc (List.replicate (n + (2 : Int32)).toNatClampNeg (0 : Int32)) (t0 + (1 : Int32))) (t1 + (1 : Int32))) (t2 + (1 : Int32))) (t3 + (1 : Int32))).trans HL32
  refine own_iinc X36 hx hby d_19_2__149 rfl (v := (1 : Int32)) rfl (Ls' := #[.val (.int n), .val (.int (4 : Int32)), .val (.ref ta), .val (.ref hd), .val (.ref wt), .val (.ref b1), .val (.long (0 : Int64)), .second, .val (.int (4 : Int32)), .unset, .unset, .unset, .unset]) rfl (pc' := 152) rfl ?_
  refine own_goto X36 hx hby d_19_2__152 (by decide) (pc' := 55) (by decide) ?_
  refine own_iload X36 hx hby d_19_2__55 rfl (pc' := 57) rfl ?_
  refine own_iloadN X36 hx hby d_19_2__57 rfl (pc' := 58) rfl ?_
  refine own_icmpY X36 hx hby d_19_2__58 (flt (by decide)).2.1 (by decide) (pc' := 155) (by decide) ?_
  refine own_iconst X36 hx hby d_19_2__155 (v := (1 : Int32)) rfl (pc' := 156) rfl ?_
  refine own_istore X36 hx hby d_19_2__156  (Ls' := #[.val (.int n), .val (.int (4 : Int32)), .val (.ref ta), .val (.ref hd), .val (.ref wt), .val (.ref b1), .val (.long (0 : Int64)), .second, .val (.int (1 : Int32)), .unset, .unset, .unset, .unset]) rfl (pc' := 158) rfl ?_
  have LP158 : ∀ (d : Nat) (T : State) (h : Heap) (locs : List Loc) (j : Int32) (ys : List Int32), Stand p l e ({ frames := 2, cells := 5, slots := 29, locals := 60 } : Room) s m #[(.int n), (.int (4 : Int32)), (.ref ta), (.ref hd), (.ref wt)] below meth c T locs 1 9 → T.heap = h → Fr n0 locs → Keep h36 h [b1] → LI Z h b1 ys → ys.length = n.toInt.toNat + 2 → 1 ≤ j.toInt → j.toInt + d = n.toInt + 1 → own_pre d j ys = (own_fa n t0 t1 t2 t3) → GoP p e below Φ (T.setTop (mkF m 158 #[.val (.int n), .val (.int (4 : Int32)), .val (.ref ta), .val (.ref hd), .val (.ref wt), .val (.ref b1), .val (.long (0 : Int64)), .second, .val (.int j), .unset, .unset, .unset, .unset] [])) := by
    intro d
    induction d with
    | zero =>
      intro T h locs j ys X eT N KL IL HL g1 g2 hr
      have V42_ta := V37_ta.keep KL (ninS ne_ta_b1 nin0)
      have V43_hd := V38_hd.keep KL (ninS ne_hd_b1 nin0)
      have V44_wt := V39_wt.keep KL (ninS ne_wt_b1 nin0)
      have KZ158 : Keep h0 h [] := K36.trans KL (allS (Or.inr sz_b1) all0)
      have ZZ158 : n0 ≤ h.size := Nat.le_trans Z36 KL.1
      replace hr : ys = (own_fa n t0 t1 t2 t3) := hr
      rw [hr] at IL HL
      refine own_iload X hx hby d_19_2__158 rfl (pc' := 160) rfl ?_
      refine own_iloadN X hx hby d_19_2__160 rfl (pc' := 161) rfl ?_
      refine own_icmpY X hx hby d_19_2__161 (tlt (own_ltI (by omega))).2.2.1 (by decide) (pc' := 185) (by decide) ?_
      refine own_iloadN X hx hby d_19_2__185 rfl (pc' := 186) rfl ?_
      refine own_iconst X hx hby d_19_2__186 (v := (1 : Int32)) rfl (pc' := 187) rfl ?_
      refine own_iadd X hx hby d_19_2__187 (pc' := 188) rfl ?_
      obtain ⟨T45, h45, k45, X45, e45, E45, A45, st45⟩ := newP X hx hZ (own_w hw 97 rfl) eT (g := (mkF m 188 #[.val (.int n), .val (.int (4 : Int32)), .val (.ref ta), .val (.ref hd), .val (.ref wt), .val (.ref b1), .val (.long (0 : Int64)), .second, .val (.int j), .unset, .unset, .unset, .unset] [(.int (n + (1 : Int32)))])) rfl (hb hby d_19_2__188) rfl (own_geI (by rw [own_z0]; omega)) (cap := 8) (by omega) (by decide) (by decide) (by decide)
      obtain ⟨b45, g45⟩ : ∃ z, z = h.size := ⟨_, rfl⟩
      have ne_ta_b45 : ta ≠ b45 := Nat.ne_of_lt (g45 ▸ V42_ta.lt)
      have ne_hd_b45 : hd ≠ b45 := Nat.ne_of_lt (g45 ▸ V43_hd.lt)
      have ne_wt_b45 : wt ≠ b45 := Nat.ne_of_lt (g45 ▸ V44_wt.lt)
      have ne_b1_b45 : b1 ≠ b45 := Nat.ne_of_lt (g45 ▸ IL.lt)
      have V46_ta := V42_ta.ext E45
      have V47_hd := V43_hd.ext E45
      have V48_wt := V44_wt.ext E45
      have B49_b1 := IL.ext E45
      have Z45 : n0 ≤ h45.size := Nat.le_trans ZZ158 E45.1
      have n0_b45 : n0 ≤ b45 := g45 ▸ ZZ158
      have sz_b45 : h0.size ≤ b45 := g45 ▸ KZ158.1
      have K45 : Keep h0 h45 [] := KZ158.ext E45
      rw [← g45] at A45 st45
      refine own_step st45 ?_
      have V45 : AV Z h45 b45 .int (List.replicate ((n + (1 : Int32))).toNatClampNeg (.int (0 : Int32))) := AV.new A45 (own_geI (by rw [own_z0]; omega))
      show GoP p e below Φ (T45.setTop (mkF m 190 #[.val (.int n), .val (.int (4 : Int32)), .val (.ref ta), .val (.ref hd), .val (.ref wt), .val (.ref b1), .val (.long (0 : Int64)), .second, .val (.int j), .unset, .unset, .unset, .unset] [(.ref b45)]))
      have B50 : LI Z h45 b45 (List.replicate (n + (1 : Int32)).toNatClampNeg (0 : Int32)) := LI.new V45
      have HL50 : (List.replicate (n + (1 : Int32)).toNatClampNeg (0 : Int32)).length = n.toInt.toNat + 1 := by rw [List.length_replicate]; omega
      refine own_astore X45 hx hby d_19_2__190 rfl (Ls' := #[.val (.int n), .val (.int (4 : Int32)), .val (.ref ta), .val (.ref hd), .val (.ref wt), .val (.ref b1), .val (.long (0 : Int64)), .second, .val (.ref b45), .unset, .unset, .unset, .unset]) rfl (pc' := 192) rfl ?_
      refine own_aload X45 hx hby d_19_2__192 rfl rfl (pc' := 194) rfl ?_
      refine own_iconst X45 hx hby d_19_2__194 (v := (0 : Int32)) rfl (pc' := 195) rfl ?_
      refine own_aload X45 hx hby d_19_2__195 rfl rfl (pc' := 197) rfl ?_
      refine own_iconst X45 hx hby d_19_2__197 (v := (0 : Int32)) rfl (pc' := 198) rfl ?_
      refine own_iloadN X45 hx hby d_19_2__198 rfl (pc' := 199) rfl ?_
      refine own_iconst X45 hx hby d_19_2__199 (v := (1 : Int32)) rfl (pc' := 200) rfl ?_
      refine own_iadd X45 hx hby d_19_2__200 (pc' := 201) rfl ?_
      refine own_copyL X45 hx hby hZ (by exact hml) hown (own_w hw 163 rfl) (own_w hw 166 rfl) (own_w hw 164 rfl) (own_w hw 165 rfl) e45 B49_b1 B50 (own_geI (by rw [own_z0]; omega)) (by rw [HL]; omega) (by rw [HL50]; omega) N n0_b45 (by decide) 0 (Nat.le_of_eq rfl) (by decide) d_19_2__201 (pc' := 204) rfl ?_
      intro T51 h51 L51 X51 e51 Nn51 K51 B51
      have V52_ta := V46_ta.keep K51 (ninS ne_ta_b45 nin0)
      have V53_hd := V47_hd.keep K51 (ninS ne_hd_b45 nin0)
      have V54_wt := V48_wt.keep K51 (ninS ne_wt_b45 nin0)
      have B55_b1 := B49_b1.keep K51 (ninS ne_b1_b45 nin0)
      have KC51 : Keep h0 h51 [] := K45.trans K51 (allS (Or.inr sz_b45) all0)
      have ZC51 : n0 ≤ h51.size := Nat.le_trans Z45 K51.1
      replace B51 : LI Z h51 b45 (own_nx n t0 t1 t2 t3) := B51
      have HL51 : (own_nx n t0 t1 t2 t3).length = n.toInt.toNat + 1 := by unfold own_nx; rw [List.length_take, HL]; omega
      refine own_iloadN X51 hx hby d_19_2__204 rfl (pc' := 205) rfl ?_
      obtain ⟨T56, h56, k56, X56, e56, E56, A56, st56⟩ := newP X51 hx hZ (own_w hw 97 rfl) e51 (g := (mkF m 205 #[.val (.int n), .val (.int (4 : Int32)), .val (.ref ta), .val (.ref hd), .val (.ref wt), .val (.ref b1), .val (.long (0 : Int64)), .second, .val (.ref b45), .unset, .unset, .unset, .unset] [(.int (4 : Int32))])) rfl (hb hby d_19_2__205) rfl (by decide) (cap := 4) (by decide) (by decide) (by decide) (by decide)
      obtain ⟨b56, g56⟩ : ∃ z, z = h51.size := ⟨_, rfl⟩
      have ne_ta_b56 : ta ≠ b56 := Nat.ne_of_lt (g56 ▸ V52_ta.lt)
      have ne_hd_b56 : hd ≠ b56 := Nat.ne_of_lt (g56 ▸ V53_hd.lt)
      have ne_wt_b56 : wt ≠ b56 := Nat.ne_of_lt (g56 ▸ V54_wt.lt)
      have ne_b1_b56 : b1 ≠ b56 := Nat.ne_of_lt (g56 ▸ B55_b1.lt)
      have ne_b45_b56 : b45 ≠ b56 := Nat.ne_of_lt (g56 ▸ B51.lt)
      have V57_ta := V52_ta.ext E56
      have V58_hd := V53_hd.ext E56
      have V59_wt := V54_wt.ext E56
      have B60_b1 := B55_b1.ext E56
      have B61_b45 := B51.ext E56
      have Z56 : n0 ≤ h56.size := Nat.le_trans ZC51 E56.1
      have n0_b56 : n0 ≤ b56 := g56 ▸ ZC51
      have sz_b56 : h0.size ≤ b56 := g56 ▸ KC51.1
      have K56 : Keep h0 h56 [] := KC51.ext E56
      rw [← g56] at A56 st56
      refine own_step st56 ?_
      have V56 : AV Z h56 b56 .int [(.int (0 : Int32)), (.int (0 : Int32)), (.int (0 : Int32)), (.int (0 : Int32))] := AV.new A56 (by decide)
      show GoP p e below Φ (T56.setTop (mkF m 207 #[.val (.int n), .val (.int (4 : Int32)), .val (.ref ta), .val (.ref hd), .val (.ref wt), .val (.ref b1), .val (.long (0 : Int64)), .second, .val (.ref b45), .unset, .unset, .unset, .unset] [(.ref b56)]))
      have B62 : LI Z h56 b56 [(0 : Int32), (0 : Int32), (0 : Int32), (0 : Int32)] := V56
      refine own_astore X56 hx hby d_19_2__207 rfl (Ls' := #[.val (.int n), .val (.int (4 : Int32)), .val (.ref ta), .val (.ref hd), .val (.ref wt), .val (.ref b1), .val (.long (0 : Int64)), .second, .val (.ref b45), .val (.ref b56), .unset, .unset, .unset]) rfl (pc' := 209) rfl ?_
      refine own_iloadN X56 hx hby d_19_2__209 rfl (pc' := 210) rfl ?_
      obtain ⟨T63, h63, k63, X63, e63, E63, A63, st63⟩ := newP X56 hx hZ (own_w hw 151 rfl) e56 (g := (mkF m 210 #[.val (.int n), .val (.int (4 : Int32)), .val (.ref ta), .val (.ref hd), .val (.ref wt), .val (.ref b1), .val (.long (0 : Int64)), .second, .val (.ref b45), .val (.ref b56), .unset, .unset, .unset] [(.int (4 : Int32))])) rfl (hb hby d_19_2__210) rfl (by decide) (cap := 4) (by decide) (by decide) (by decide) (by decide)
      obtain ⟨b63, g63⟩ : ∃ z, z = h56.size := ⟨_, rfl⟩
      have ne_ta_b63 : ta ≠ b63 := Nat.ne_of_lt (g63 ▸ V57_ta.lt)
      have ne_hd_b63 : hd ≠ b63 := Nat.ne_of_lt (g63 ▸ V58_hd.lt)
      have ne_wt_b63 : wt ≠ b63 := Nat.ne_of_lt (g63 ▸ V59_wt.lt)
      have ne_b1_b63 : b1 ≠ b63 := Nat.ne_of_lt (g63 ▸ B60_b1.lt)
      have ne_b45_b63 : b45 ≠ b63 := Nat.ne_of_lt (g63 ▸ B61_b45.lt)
      have ne_b56_b63 : b56 ≠ b63 := Nat.ne_of_lt (g63 ▸ B62.lt)
      have V64_ta := V57_ta.ext E63
      have V65_hd := V58_hd.ext E63
      have V66_wt := V59_wt.ext E63
      have B67_b1 := B60_b1.ext E63
      have B68_b45 := B61_b45.ext E63
      have B69_b56 := B62.ext E63
      have Z63 : n0 ≤ h63.size := Nat.le_trans Z56 E63.1
      have n0_b63 : n0 ≤ b63 := g63 ▸ Z56
      have sz_b63 : h0.size ≤ b63 := g63 ▸ K56.1
      have K63 : Keep h0 h63 [] := K56.ext E63
      rw [← g63] at A63 st63
      refine own_step st63 ?_
      have V63 : AV Z h63 b63 .long [(.long (0 : Int64)), (.long (0 : Int64)), (.long (0 : Int64)), (.long (0 : Int64))] := AV.new A63 (by decide)
      show GoP p e below Φ (T63.setTop (mkF m 212 #[.val (.int n), .val (.int (4 : Int32)), .val (.ref ta), .val (.ref hd), .val (.ref wt), .val (.ref b1), .val (.long (0 : Int64)), .second, .val (.ref b45), .val (.ref b56), .unset, .unset, .unset] [(.ref b63)]))
      have M70 : LN Z h63 b63 .long 4 := ⟨_, rfl, V63⟩
      refine own_astore X63 hx hby d_19_2__212 rfl (Ls' := #[.val (.int n), .val (.int (4 : Int32)), .val (.ref ta), .val (.ref hd), .val (.ref wt), .val (.ref b1), .val (.long (0 : Int64)), .second, .val (.ref b45), .val (.ref b56), .val (.ref b63), .unset, .unset]) rfl (pc' := 214) rfl ?_
      refine own_iconst X63 hx hby d_19_2__214 (v := (0 : Int32)) rfl (pc' := 215) rfl ?_
      refine own_istore X63 hx hby d_19_2__215  (Ls' := #[.val (.int n), .val (.int (4 : Int32)), .val (.ref ta), .val (.ref hd), .val (.ref wt), .val (.ref b1), .val (.long (0 : Int64)), .second, .val (.ref b45), .val (.ref b56), .val (.ref b63), .val (.int (0 : Int32)), .unset]) rfl (pc' := 217) rfl ?_
      refine own_iload X63 hx hby d_19_2__217 rfl (pc' := 219) rfl ?_
      refine own_iloadN X63 hx hby d_19_2__219 rfl (pc' := 220) rfl ?_
      refine own_icmpN X63 hx hby d_19_2__220 (tlt (by decide)).2.1 (pc' := 223) rfl ?_
      refine own_aload X63 hx hby d_19_2__223 rfl rfl (pc' := 225) rfl ?_
      refine own_aloadN X63 hx hby d_19_2__225 rfl rfl (pc' := 226) rfl ?_
      refine own_iload X63 hx hby d_19_2__226 rfl (pc' := 228) rfl ?_
      refine own_iaload X63 hx hby hZ e63 V64_ta (by decide) (v := (.int t0)) rfl d_19_2__228 (pc' := 229) rfl ?_
      refine own_dup2 X63 hx hby d_19_2__229 rfl rfl (pc' := 230) rfl ?_
      refine own_ialoadL X63 hx hby hZ e63 B68_b45 (by rw [HL51]; exact own_idx (by omega) (by omega)) d_19_2__230 (pc' := 231) rfl ?_
      refine own_dup_x2 X63 hx hby d_19_2__231 rfl rfl rfl (pc' := 232) rfl ?_
      refine own_iconst X63 hx hby d_19_2__232 (v := (1 : Int32)) rfl (pc' := 233) rfl ?_
      refine own_iadd X63 hx hby d_19_2__233 (pc' := 234) rfl ?_
      refine own_iastoreL X63 hx hby hZ e63 B68_b45 (by rw [HL51]; exact own_idx (by omega) (by omega)) d_19_2__234 (pc' := 235) rfl ?_
      intro T71 h71 X71 e71 W71 B71
      have V72_ta := V64_ta.other W71 ne_ta_b45
      have V73_hd := V65_hd.other W71 ne_hd_b45
      have V74_wt := V66_wt.other W71 ne_wt_b45
      have B75_b1 := B67_b1.other W71 ne_b1_b45
      have B77_b56 := B69_b56.other W71 (Ne.symm ne_b45_b56)
      have M78_b63 := M70.other W71 (Ne.symm ne_b45_b63)
      have Z71 : n0 ≤ h71.size := by rw [W71.size]; exact Z63
      have N71 := Fr.snoc X71 Nn51 n0_b45
      have K71 : Keep h0 h71 [] := K63.wr W71 (Or.inr sz_b45)
      refine own_istore X71 hx hby d_19_2__235  (Ls' := #[.val (.int n), .val (.int (4 : Int32)), .val (.ref ta), .val (.ref hd), .val (.ref wt), .val (.ref b1), .val (.long (0 : Int64)), .second, .val (.ref b45), .val (.ref b56), .val (.ref b63), .val (.int (0 : Int32)), .val (.int (own_g (own_nx n t0 t1 t2 t3) t0))]) rfl (pc' := 237) rfl ?_
      have B79 : LI Z h71 b45 (own_inc (own_nx n t0 t1 t2 t3) t0) := B71
      have HL79 := (own_inclen (own_nx n t0 t1 t2 t3) t0).trans HL51
      show GoP p e below Φ (T71.setTop (mkF m 237 #[.val (.int n), .val (.int (4 : Int32)), .val (.ref ta), .val (.ref hd), .val (.ref wt), .val (.ref b1), .val (.long (0 : Int64)), .second, .val (.ref b45), .val (.ref b56), .val (.ref b63), .val (.int (0 : Int32)), .val (.int (own_s0 (own_nx n t0 t1 t2 t3) t0))] []))
      refine own_aload X71 hx hby d_19_2__237 rfl rfl (pc' := 239) rfl ?_
      refine own_iload X71 hx hby d_19_2__239 rfl (pc' := 241) rfl ?_
      refine own_aloadN X71 hx hby d_19_2__241 rfl rfl (pc' := 242) rfl ?_
      refine own_iload X71 hx hby d_19_2__242 rfl (pc' := 244) rfl ?_
      refine own_iaload X71 hx hby hZ e71 V73_hd (by decide) (v := (.int y0)) rfl d_19_2__244 (pc' := 245) rfl ?_
      refine own_iastoreL X71 hx hby hZ e71 B77_b56 ⟨hsm.1.1, by rw [(show ([(0 : Int32), (0 : Int32), (0 : Int32), (0 : Int32)] : List Int32).length = 4 from rfl)]; exact hsm.1.2⟩ d_19_2__245 (pc' := 246) rfl ?_
      intro T80 h80 X80 e80 W80 B80
      have V81_ta := V72_ta.other W80 ne_ta_b56
      have V82_hd := V73_hd.other W80 ne_hd_b56
      have V83_wt := V74_wt.other W80 ne_wt_b56
      have B84_b1 := B75_b1.other W80 ne_b1_b56
      have B85_b45 := B79.other W80 ne_b45_b56
      have M87_b63 := M78_b63.other W80 (Ne.symm ne_b56_b63)
      have Z80 : n0 ≤ h80.size := by rw [W80.size]; exact Z71
      have N80 := Fr.snoc X80 N71 n0_b56
      have K80 : Keep h0 h80 [] := K71.wr W80 (Or.inr sz_b56)
      refine own_aload X80 hx hby d_19_2__246 rfl rfl (pc' := 248) rfl ?_
      refine own_iload X80 hx hby d_19_2__248 rfl (pc' := 250) rfl ?_
      refine own_aload X80 hx hby d_19_2__250 rfl rfl (pc' := 252) rfl ?_
      refine own_iload X80 hx hby d_19_2__252 rfl (pc' := 254) rfl ?_
      refine own_laload X80 hx hby hZ e80 V83_wt (by decide) (v := (.long (0 : Int64))) rfl d_19_2__254 (pc' := 255) rfl ?_
      refine own_lastoreN X80 hx hby hZ e80 M87_b63 hsm.1 d_19_2__255 (pc' := 256) rfl ?_
      intro T88 h88 X88 e88 W88 M88
      have V89_ta := V81_ta.other W88 ne_ta_b63
      have V90_hd := V82_hd.other W88 ne_hd_b63
      have V91_wt := V83_wt.other W88 ne_wt_b63
      have B92_b1 := B84_b1.other W88 ne_b1_b63
      have B93_b45 := B85_b45.other W88 ne_b45_b63
      have B94_b56 := B80.other W88 ne_b56_b63
      have Z88 : n0 ≤ h88.size := by rw [W88.size]; exact Z80
      have N88 := Fr.snoc X88 N80 n0_b63
      have K88 : Keep h0 h88 [] := K80.wr W88 (Or.inr sz_b63)
      refine own_iinc X88 hx hby d_19_2__256 rfl (v := (1 : Int32)) rfl (Ls' := #[.val (.int n), .val (.int (4 : Int32)), .val (.ref ta), .val (.ref hd), .val (.ref wt), .val (.ref b1), .val (.long (0 : Int64)), .second, .val (.ref b45), .val (.ref b56), .val (.ref b63), .val (.int (1 : Int32)), .val (.int (own_s0 (own_nx n t0 t1 t2 t3) t0))]) rfl (pc' := 259) rfl ?_
      refine own_goto X88 hx hby d_19_2__259 (by decide) (pc' := 217) (by decide) ?_
      refine own_iload X88 hx hby d_19_2__217 rfl (pc' := 219) rfl ?_
      refine own_iloadN X88 hx hby d_19_2__219 rfl (pc' := 220) rfl ?_
      refine own_icmpN X88 hx hby d_19_2__220 (tlt (by decide)).2.1 (pc' := 223) rfl ?_
      refine own_aload X88 hx hby d_19_2__223 rfl rfl (pc' := 225) rfl ?_
      refine own_aloadN X88 hx hby d_19_2__225 rfl rfl (pc' := 226) rfl ?_
      refine own_iload X88 hx hby d_19_2__226 rfl (pc' := 228) rfl ?_
      refine own_iaload X88 hx hby hZ e88 V89_ta (by decide) (v := (.int t1)) rfl d_19_2__228 (pc' := 229) rfl ?_
      refine own_dup2 X88 hx hby d_19_2__229 rfl rfl (pc' := 230) rfl ?_
      refine own_ialoadL X88 hx hby hZ e88 B93_b45 (by rw [HL79]; exact own_idx (by omega) (by omega)) d_19_2__230 (pc' := 231) rfl ?_
      refine own_dup_x2 X88 hx hby d_19_2__231 rfl rfl rfl (pc' := 232) rfl ?_
      refine own_iconst X88 hx hby d_19_2__232 (v := (1 : Int32)) rfl (pc' := 233) rfl ?_
      refine own_iadd X88 hx hby d_19_2__233 (pc' := 234) rfl ?_
      refine own_iastoreL X88 hx hby hZ e88 B93_b45 (by rw [HL79]; exact own_idx (by omega) (by omega)) d_19_2__234 (pc' := 235) rfl ?_
      intro T96 h96 X96 e96 W96 B96
      have V97_ta := V89_ta.other W96 ne_ta_b45
      have V98_hd := V90_hd.other W96 ne_hd_b45
      have V99_wt := V91_wt.other W96 ne_wt_b45
      have B100_b1 := B92_b1.other W96 ne_b1_b45
      have B102_b56 := B94_b56.other W96 (Ne.symm ne_b45_b56)
      have M103_b63 := M88.other W96 (Ne.symm ne_b45_b63)
      have Z96 : n0 ≤ h96.size := by rw [W96.size]; exact Z88
      have N96 := Fr.snoc X96 N88 n0_b45
      have K96 : Keep h0 h96 [] := K88.wr W96 (Or.inr sz_b45)
      refine own_istore X96 hx hby d_19_2__235  (Ls' := #[.val (.int n), .val (.int (4 : Int32)), .val (.ref ta), .val (.ref hd), .val (.ref wt), .val (.ref b1), .val (.long (0 : Int64)), .second, .val (.ref b45), .val (.ref b56), .val (.ref b63), .val (.int (1 : Int32)), .val (.int (own_g (own_inc (own_nx n t0 t1 t2 t3) t0) t1))]) rfl (pc' := 237) rfl ?_
      have B104 : LI Z h96 b45 (own_inc (own_inc (own_nx n t0 t1 t2 t3) t0) t1) := B96
      have HL104 := (own_inclen (own_inc (own_nx n t0 t1 t2 t3) t0) t1).trans HL79
      show GoP p e below Φ (T96.setTop (mkF m 237 #[.val (.int n), .val (.int (4 : Int32)), .val (.ref ta), .val (.ref hd), .val (.ref wt), .val (.ref b1), .val (.long (0 : Int64)), .second, .val (.ref b45), .val (.ref b56), .val (.ref b63), .val (.int (1 : Int32)), .val (.int (own_s1 (own_nx n t0 t1 t2 t3) t0 t1))] []))
      refine own_aload X96 hx hby d_19_2__237 rfl rfl (pc' := 239) rfl ?_
      refine own_iload X96 hx hby d_19_2__239 rfl (pc' := 241) rfl ?_
      refine own_aloadN X96 hx hby d_19_2__241 rfl rfl (pc' := 242) rfl ?_
      refine own_iload X96 hx hby d_19_2__242 rfl (pc' := 244) rfl ?_
      refine own_iaload X96 hx hby hZ e96 V98_hd (by decide) (v := (.int y1)) rfl d_19_2__244 (pc' := 245) rfl ?_
      refine own_iastoreL X96 hx hby hZ e96 B102_b56 ⟨hsm.2.1.1, by rw [((own_ulen _ _ _).trans (show ([(0 : Int32), (0 : Int32), (0 : Int32), (0 : Int32)] : List Int32).length = 4 from rfl))]; exact hsm.2.1.2⟩ d_19_2__245 (pc' := 246) rfl ?_
      intro T105 h105 X105 e105 W105 B105
      have V106_ta := V97_ta.other W105 ne_ta_b56
      have V107_hd := V98_hd.other W105 ne_hd_b56
      have V108_wt := V99_wt.other W105 ne_wt_b56
      have B109_b1 := B100_b1.other W105 ne_b1_b56
      have B110_b45 := B104.other W105 ne_b45_b56
      have M112_b63 := M103_b63.other W105 (Ne.symm ne_b56_b63)
      have Z105 : n0 ≤ h105.size := by rw [W105.size]; exact Z96
      have N105 := Fr.snoc X105 N96 n0_b56
      have K105 : Keep h0 h105 [] := K96.wr W105 (Or.inr sz_b56)
      refine own_aload X105 hx hby d_19_2__246 rfl rfl (pc' := 248) rfl ?_
      refine own_iload X105 hx hby d_19_2__248 rfl (pc' := 250) rfl ?_
      refine own_aload X105 hx hby d_19_2__250 rfl rfl (pc' := 252) rfl ?_
      refine own_iload X105 hx hby d_19_2__252 rfl (pc' := 254) rfl ?_
      refine own_laload X105 hx hby hZ e105 V108_wt (by decide) (v := (.long (0 : Int64))) rfl d_19_2__254 (pc' := 255) rfl ?_
      refine own_lastoreN X105 hx hby hZ e105 M112_b63 hsm.2.1 d_19_2__255 (pc' := 256) rfl ?_
      intro T113 h113 X113 e113 W113 M113
      have V114_ta := V106_ta.other W113 ne_ta_b63
      have V115_hd := V107_hd.other W113 ne_hd_b63
      have V116_wt := V108_wt.other W113 ne_wt_b63
      have B117_b1 := B109_b1.other W113 ne_b1_b63
      have B118_b45 := B110_b45.other W113 ne_b45_b63
      have B119_b56 := B105.other W113 ne_b56_b63
      have Z113 : n0 ≤ h113.size := by rw [W113.size]; exact Z105
      have N113 := Fr.snoc X113 N105 n0_b63
      have K113 : Keep h0 h113 [] := K105.wr W113 (Or.inr sz_b63)
      refine own_iinc X113 hx hby d_19_2__256 rfl (v := (1 : Int32)) rfl (Ls' := #[.val (.int n), .val (.int (4 : Int32)), .val (.ref ta), .val (.ref hd), .val (.ref wt), .val (.ref b1), .val (.long (0 : Int64)), .second, .val (.ref b45), .val (.ref b56), .val (.ref b63), .val (.int (2 : Int32)), .val (.int (own_s1 (own_nx n t0 t1 t2 t3) t0 t1))]) rfl (pc' := 259) rfl ?_
      refine own_goto X113 hx hby d_19_2__259 (by decide) (pc' := 217) (by decide) ?_
      refine own_iload X113 hx hby d_19_2__217 rfl (pc' := 219) rfl ?_
      refine own_iloadN X113 hx hby d_19_2__219 rfl (pc' := 220) rfl ?_
      refine own_icmpN X113 hx hby d_19_2__220 (tlt (by decide)).2.1 (pc' := 223) rfl ?_
      refine own_aload X113 hx hby d_19_2__223 rfl rfl (pc' := 225) rfl ?_
      refine own_aloadN X113 hx hby d_19_2__225 rfl rfl (pc' := 226) rfl ?_
      refine own_iload X113 hx hby d_19_2__226 rfl (pc' := 228) rfl ?_
      refine own_iaload X113 hx hby hZ e113 V114_ta (by decide) (v := (.int t2)) rfl d_19_2__228 (pc' := 229) rfl ?_
      refine own_dup2 X113 hx hby d_19_2__229 rfl rfl (pc' := 230) rfl ?_
      refine own_ialoadL X113 hx hby hZ e113 B118_b45 (by rw [HL104]; exact own_idx (by omega) (by omega)) d_19_2__230 (pc' := 231) rfl ?_
      refine own_dup_x2 X113 hx hby d_19_2__231 rfl rfl rfl (pc' := 232) rfl ?_
      refine own_iconst X113 hx hby d_19_2__232 (v := (1 : Int32)) rfl (pc' := 233) rfl ?_
      refine own_iadd X113 hx hby d_19_2__233 (pc' := 234) rfl ?_
      refine own_iastoreL X113 hx hby hZ e113 B118_b45 (by rw [HL104]; exact own_idx (by omega) (by omega)) d_19_2__234 (pc' := 235) rfl ?_
      intro T121 h121 X121 e121 W121 B121
      have V122_ta := V114_ta.other W121 ne_ta_b45
      have V123_hd := V115_hd.other W121 ne_hd_b45
      have V124_wt := V116_wt.other W121 ne_wt_b45
      have B125_b1 := B117_b1.other W121 ne_b1_b45
      have B127_b56 := B119_b56.other W121 (Ne.symm ne_b45_b56)
      have M128_b63 := M113.other W121 (Ne.symm ne_b45_b63)
      have Z121 : n0 ≤ h121.size := by rw [W121.size]; exact Z113
      have N121 := Fr.snoc X121 N113 n0_b45
      have K121 : Keep h0 h121 [] := K113.wr W121 (Or.inr sz_b45)
      refine own_istore X121 hx hby d_19_2__235  (Ls' := #[.val (.int n), .val (.int (4 : Int32)), .val (.ref ta), .val (.ref hd), .val (.ref wt), .val (.ref b1), .val (.long (0 : Int64)), .second, .val (.ref b45), .val (.ref b56), .val (.ref b63), .val (.int (2 : Int32)), .val (.int (own_g (own_inc (own_inc (own_nx n t0 t1 t2 t3) t0) t1) t2))]) rfl (pc' := 237) rfl ?_
      have B129 : LI Z h121 b45 (own_inc (own_inc (own_inc (own_nx n t0 t1 t2 t3) t0) t1) t2) := B121
      have HL129 := (own_inclen (own_inc (own_inc (own_nx n t0 t1 t2 t3) t0) t1) t2).trans HL104
      show GoP p e below Φ (T121.setTop (mkF m 237 #[.val (.int n), .val (.int (4 : Int32)), .val (.ref ta), .val (.ref hd), .val (.ref wt), .val (.ref b1), .val (.long (0 : Int64)), .second, .val (.ref b45), .val (.ref b56), .val (.ref b63), .val (.int (2 : Int32)), .val (.int (own_s2 (own_nx n t0 t1 t2 t3) t0 t1 t2))] []))
      refine own_aload X121 hx hby d_19_2__237 rfl rfl (pc' := 239) rfl ?_
      refine own_iload X121 hx hby d_19_2__239 rfl (pc' := 241) rfl ?_
      refine own_aloadN X121 hx hby d_19_2__241 rfl rfl (pc' := 242) rfl ?_
      refine own_iload X121 hx hby d_19_2__242 rfl (pc' := 244) rfl ?_
      refine own_iaload X121 hx hby hZ e121 V123_hd (by decide) (v := (.int y2)) rfl d_19_2__244 (pc' := 245) rfl ?_
      refine own_iastoreL X121 hx hby hZ e121 B127_b56 ⟨hsm.2.2.1.1, by rw [((own_ulen _ _ _).trans ((own_ulen _ _ _).trans (show ([(0 : Int32), (0 : Int32), (0 : Int32), (0 : Int32)] : List Int32).length = 4 from rfl)))]; exact hsm.2.2.1.2⟩ d_19_2__245 (pc' := 246) rfl ?_
      intro T130 h130 X130 e130 W130 B130
      have V131_ta := V122_ta.other W130 ne_ta_b56
      have V132_hd := V123_hd.other W130 ne_hd_b56
      have V133_wt := V124_wt.other W130 ne_wt_b56
      have B134_b1 := B125_b1.other W130 ne_b1_b56
      have B135_b45 := B129.other W130 ne_b45_b56
      have M137_b63 := M128_b63.other W130 (Ne.symm ne_b56_b63)
      have Z130 : n0 ≤ h130.size := by rw [W130.size]; exact Z121
      have N130 := Fr.snoc X130 N121 n0_b56
      have K130 : Keep h0 h130 [] := K121.wr W130 (Or.inr sz_b56)
      refine own_aload X130 hx hby d_19_2__246 rfl rfl (pc' := 248) rfl ?_
      refine own_iload X130 hx hby d_19_2__248 rfl (pc' := 250) rfl ?_
      refine own_aload X130 hx hby d_19_2__250 rfl rfl (pc' := 252) rfl ?_
      refine own_iload X130 hx hby d_19_2__252 rfl (pc' := 254) rfl ?_
      refine own_laload X130 hx hby hZ e130 V133_wt (by decide) (v := (.long (0 : Int64))) rfl d_19_2__254 (pc' := 255) rfl ?_
      refine own_lastoreN X130 hx hby hZ e130 M137_b63 hsm.2.2.1 d_19_2__255 (pc' := 256) rfl ?_
      intro T138 h138 X138 e138 W138 M138
      have V139_ta := V131_ta.other W138 ne_ta_b63
      have V140_hd := V132_hd.other W138 ne_hd_b63
      have V141_wt := V133_wt.other W138 ne_wt_b63
      have B142_b1 := B134_b1.other W138 ne_b1_b63
      have B143_b45 := B135_b45.other W138 ne_b45_b63
      have B144_b56 := B130.other W138 ne_b56_b63
      have Z138 : n0 ≤ h138.size := by rw [W138.size]; exact Z130
      have N138 := Fr.snoc X138 N130 n0_b63
      have K138 : Keep h0 h138 [] := K130.wr W138 (Or.inr sz_b63)
      refine own_iinc X138 hx hby d_19_2__256 rfl (v := (1 : Int32)) rfl (Ls' := #[.val (.int n), .val (.int (4 : Int32)), .val (.ref ta), .val (.ref hd), .val (.ref wt), .val (.ref b1), .val (.long (0 : Int64)), .second, .val (.ref b45), .val (.ref b56), .val (.ref b63), .val (.int (3 : Int32)), .val (.int (own_s2 (own_nx n t0 t1 t2 t3) t0 t1 t2))]) rfl (pc' := 259) rfl ?_
      refine own_goto X138 hx hby d_19_2__259 (by decide) (pc' := 217) (by decide) ?_
      refine own_iload X138 hx hby d_19_2__217 rfl (pc' := 219) rfl ?_
      refine own_iloadN X138 hx hby d_19_2__219 rfl (pc' := 220) rfl ?_
      refine own_icmpN X138 hx hby d_19_2__220 (tlt (by decide)).2.1 (pc' := 223) rfl ?_
      refine own_aload X138 hx hby d_19_2__223 rfl rfl (pc' := 225) rfl ?_
      refine own_aloadN X138 hx hby d_19_2__225 rfl rfl (pc' := 226) rfl ?_
      refine own_iload X138 hx hby d_19_2__226 rfl (pc' := 228) rfl ?_
      refine own_iaload X138 hx hby hZ e138 V139_ta (by decide) (v := (.int t3)) rfl d_19_2__228 (pc' := 229) rfl ?_
      refine own_dup2 X138 hx hby d_19_2__229 rfl rfl (pc' := 230) rfl ?_
      refine own_ialoadL X138 hx hby hZ e138 B143_b45 (by rw [HL129]; exact own_idx (by omega) (by omega)) d_19_2__230 (pc' := 231) rfl ?_
      refine own_dup_x2 X138 hx hby d_19_2__231 rfl rfl rfl (pc' := 232) rfl ?_
      refine own_iconst X138 hx hby d_19_2__232 (v := (1 : Int32)) rfl (pc' := 233) rfl ?_
      refine own_iadd X138 hx hby d_19_2__233 (pc' := 234) rfl ?_
      refine own_iastoreL X138 hx hby hZ e138 B143_b45 (by rw [HL129]; exact own_idx (by omega) (by omega)) d_19_2__234 (pc' := 235) rfl ?_
      intro T146 h146 X146 e146 W146 B146
      have V147_ta := V139_ta.other W146 ne_ta_b45
      have V148_hd := V140_hd.other W146 ne_hd_b45
      have V149_wt := V141_wt.other W146 ne_wt_b45
      have B150_b1 := B142_b1.other W146 ne_b1_b45
      have B152_b56 := B144_b56.other W146 (Ne.symm ne_b45_b56)
      have M153_b63 := M138.other W146 (Ne.symm ne_b45_b63)
      have Z146 : n0 ≤ h146.size := by rw [W146.size]; exact Z138
      have N146 := Fr.snoc X146 N138 n0_b45
      have K146 : Keep h0 h146 [] := K138.wr W146 (Or.inr sz_b45)
      refine own_istore X146 hx hby d_19_2__235  (Ls' := #[.val (.int n), .val (.int (4 : Int32)), .val (.ref ta), .val (.ref hd), .val (.ref wt), .val (.ref b1), .val (.long (0 : Int64)), .second, .val (.ref b45), .val (.ref b56), .val (.ref b63), .val (.int (3 : Int32)), .val (.int (own_g (own_inc (own_inc (own_inc (own_nx n t0 t1 t2 t3) t0) t1) t2) t3))]) rfl (pc' := 237) rfl ?_
      have B154 : LI Z h146 b45 (own_inc (own_inc (own_inc (own_inc (own_nx n t0 t1 t2 t3) t0) t1) t2) t3) := B146
      have HL154 := (own_inclen (own_inc (own_inc (own_inc (own_nx n t0 t1 t2 t3) t0) t1) t2) t3).trans HL129
      show GoP p e below Φ (T146.setTop (mkF m 237 #[.val (.int n), .val (.int (4 : Int32)), .val (.ref ta), .val (.ref hd), .val (.ref wt), .val (.ref b1), .val (.long (0 : Int64)), .second, .val (.ref b45), .val (.ref b56), .val (.ref b63), .val (.int (3 : Int32)), .val (.int (own_s3 (own_nx n t0 t1 t2 t3) t0 t1 t2 t3))] []))
      refine own_aload X146 hx hby d_19_2__237 rfl rfl (pc' := 239) rfl ?_
      refine own_iload X146 hx hby d_19_2__239 rfl (pc' := 241) rfl ?_
      refine own_aloadN X146 hx hby d_19_2__241 rfl rfl (pc' := 242) rfl ?_
      refine own_iload X146 hx hby d_19_2__242 rfl (pc' := 244) rfl ?_
      refine own_iaload X146 hx hby hZ e146 V148_hd (by decide) (v := (.int y3)) rfl d_19_2__244 (pc' := 245) rfl ?_
      refine own_iastoreL X146 hx hby hZ e146 B152_b56 ⟨hsm.2.2.2.1, by rw [((own_ulen _ _ _).trans ((own_ulen _ _ _).trans ((own_ulen _ _ _).trans (show ([(0 : Int32), (0 : Int32), (0 : Int32), (0 : Int32)] : List Int32).length = 4 from rfl))))]; exact hsm.2.2.2.2⟩ d_19_2__245 (pc' := 246) rfl ?_
      intro T155 h155 X155 e155 W155 B155
      have V156_ta := V147_ta.other W155 ne_ta_b56
      have V157_hd := V148_hd.other W155 ne_hd_b56
      have V158_wt := V149_wt.other W155 ne_wt_b56
      have B159_b1 := B150_b1.other W155 ne_b1_b56
      have B160_b45 := B154.other W155 ne_b45_b56
      have M162_b63 := M153_b63.other W155 (Ne.symm ne_b56_b63)
      have Z155 : n0 ≤ h155.size := by rw [W155.size]; exact Z146
      have N155 := Fr.snoc X155 N146 n0_b56
      have K155 : Keep h0 h155 [] := K146.wr W155 (Or.inr sz_b56)
      refine own_aload X155 hx hby d_19_2__246 rfl rfl (pc' := 248) rfl ?_
      refine own_iload X155 hx hby d_19_2__248 rfl (pc' := 250) rfl ?_
      refine own_aload X155 hx hby d_19_2__250 rfl rfl (pc' := 252) rfl ?_
      refine own_iload X155 hx hby d_19_2__252 rfl (pc' := 254) rfl ?_
      refine own_laload X155 hx hby hZ e155 V158_wt (by decide) (v := (.long (0 : Int64))) rfl d_19_2__254 (pc' := 255) rfl ?_
      refine own_lastoreN X155 hx hby hZ e155 M162_b63 hsm.2.2.2 d_19_2__255 (pc' := 256) rfl ?_
      intro T163 h163 X163 e163 W163 M163
      have V164_ta := V156_ta.other W163 ne_ta_b63
      have V165_hd := V157_hd.other W163 ne_hd_b63
      have V166_wt := V158_wt.other W163 ne_wt_b63
      have B167_b1 := B159_b1.other W163 ne_b1_b63
      have B168_b45 := B160_b45.other W163 ne_b45_b63
      have B169_b56 := B155.other W163 ne_b56_b63
      have Z163 : n0 ≤ h163.size := by rw [W163.size]; exact Z155
      have N163 := Fr.snoc X163 N155 n0_b63
      have K163 : Keep h0 h163 [] := K155.wr W163 (Or.inr sz_b63)
      refine own_iinc X163 hx hby d_19_2__256 rfl (v := (1 : Int32)) rfl (Ls' := #[.val (.int n), .val (.int (4 : Int32)), .val (.ref ta), .val (.ref hd), .val (.ref wt), .val (.ref b1), .val (.long (0 : Int64)), .second, .val (.ref b45), .val (.ref b56), .val (.ref b63), .val (.int (4 : Int32)), .val (.int (own_s3 (own_nx n t0 t1 t2 t3) t0 t1 t2 t3))]) rfl (pc' := 259) rfl ?_
      refine own_goto X163 hx hby d_19_2__259 (by decide) (pc' := 217) (by decide) ?_
      refine own_iload X163 hx hby d_19_2__217 rfl (pc' := 219) rfl ?_
      refine own_iloadN X163 hx hby d_19_2__219 rfl (pc' := 220) rfl ?_
      refine own_icmpY X163 hx hby d_19_2__220 (flt (by decide)).2.1 (by decide) (pc' := 262) (by decide) ?_
      obtain ⟨T171, h171, X171, e171, E171, A171, D171, -, st171⟩ := newO X163 hx hZ hown (own_w hw 167 rfl) (own_w hw 168 rfl) (own_w hw 154 rfl) e163 (g := (mkF m 262 #[.val (.int n), .val (.int (4 : Int32)), .val (.ref ta), .val (.ref hd), .val (.ref wt), .val (.ref b1), .val (.long (0 : Int64)), .second, .val (.ref b45), .val (.ref b56), .val (.ref b63), .val (.int (4 : Int32)), .val (.int (own_s3 (own_nx n t0 t1 t2 t3) t0 t1 t2 t3))] [])) rfl (hb hby d_19_2__262) (by decide) (by decide)
      obtain ⟨b171, g171⟩ : ∃ z, z = h163.size := ⟨_, rfl⟩
      have ne_ta_b171 : ta ≠ b171 := Nat.ne_of_lt (g171 ▸ V164_ta.lt)
      have ne_hd_b171 : hd ≠ b171 := Nat.ne_of_lt (g171 ▸ V165_hd.lt)
      have ne_wt_b171 : wt ≠ b171 := Nat.ne_of_lt (g171 ▸ V166_wt.lt)
      have ne_b1_b171 : b1 ≠ b171 := Nat.ne_of_lt (g171 ▸ B167_b1.lt)
      have ne_b45_b171 : b45 ≠ b171 := Nat.ne_of_lt (g171 ▸ B168_b45.lt)
      have ne_b56_b171 : b56 ≠ b171 := Nat.ne_of_lt (g171 ▸ B169_b56.lt)
      have ne_b63_b171 : b63 ≠ b171 := Nat.ne_of_lt (g171 ▸ M163.lt)
      have V172_ta := V164_ta.ext E171
      have V173_hd := V165_hd.ext E171
      have V174_wt := V166_wt.ext E171
      have B175_b1 := B167_b1.ext E171
      have B176_b45 := B168_b45.ext E171
      have B177_b56 := B169_b56.ext E171
      have M178_b63 := M163.ext E171
      have Z171 : n0 ≤ h171.size := Nat.le_trans Z163 E171.1
      have n0_b171 : n0 ≤ b171 := g171 ▸ Z163
      have sz_b171 : h0.size ≤ b171 := g171 ▸ K163.1
      have K171 : Keep h0 h171 [] := K163.ext E171
      rw [← g171] at A171 D171 st171
      refine own_step st171 ?_
      have F171_nodeCount : Fld Z h171 b171 "com/example/wayfold/wayfold/Graph" "nodeCount" "I" (.int (0 : Int32)) := D171 (Or.inr (own_w hw 174 rfl)) (ty := .int) (by decide)
      have F171_firstArc : Fld Z h171 b171 "com/example/wayfold/wayfold/Graph" "firstArc" "[I" .null := D171 (Or.inr (own_w hw 176 rfl)) (ty := (.array .int)) (by decide)
      have F171_arcHead : Fld Z h171 b171 "com/example/wayfold/wayfold/Graph" "arcHead" "[I" .null := D171 (Or.inr (own_w hw 178 rfl)) (ty := (.array .int)) (by decide)
      have F171_arcWeight : Fld Z h171 b171 "com/example/wayfold/wayfold/Graph" "arcWeight" "[J" .null := D171 (Or.inr (own_w hw 180 rfl)) (ty := (.array .long)) (by decide)
      show GoP p e below Φ (T171.setTop (mkF m 265 #[.val (.int n), .val (.int (4 : Int32)), .val (.ref ta), .val (.ref hd), .val (.ref wt), .val (.ref b1), .val (.long (0 : Int64)), .second, .val (.ref b45), .val (.ref b56), .val (.ref b63), .val (.int (4 : Int32)), .val (.int (own_s3 (own_nx n t0 t1 t2 t3) t0 t1 t2 t3))] [(.ref b171)]))
      refine own_dup X171 hx hby d_19_2__265 rfl (pc' := 266) rfl ?_
      refine own_iloadN X171 hx hby d_19_2__266 rfl (pc' := 267) rfl ?_
      refine own_aload X171 hx hby d_19_2__267 rfl rfl (pc' := 269) rfl ?_
      refine own_aload X171 hx hby d_19_2__269 rfl rfl (pc' := 271) rfl ?_
      refine own_aload X171 hx hby d_19_2__271 rfl rfl (pc' := 273) rfl ?_
      refine own_callI X171 hx hby hZ (by exact hml) hown rfl (own_w hw 169 rfl) (own_w hw 170 rfl) (own_w hw 154 rfl) (own_w hw 171 rfl) (by decide) e171 1 (by decide) (by decide) (by decide) (by decide) (argsL := [(.int n), (.ref b1), (.ref b56), (.ref b63)]) (rest := [(.ref b171)]) (lenOf pd__I_I_I_J_V rfl) rfl (Nat.le_of_eq rfl) (rmGI l Z a0 hw b171 n b1 b56 b63 n0 h171 n0_b171 A171 F171_nodeCount F171_firstArc F171_arcHead F171_arcWeight) d_19_2__273 (pc' := 276) rfl ?_
      intro v179 T179 L179 X179 hQ179
      obtain ⟨rfl, Nq179, K179, E179, FA179, FH179⟩ := hQ179
      have V180_ta := V172_ta.keep K179 (ninS ne_ta_b171 nin0)
      have V181_hd := V173_hd.keep K179 (ninS ne_hd_b171 nin0)
      have V182_wt := V174_wt.keep K179 (ninS ne_wt_b171 nin0)
      have B183_b1 := B175_b1.keep K179 (ninS ne_b1_b171 nin0)
      have B184_b45 := B176_b45.keep K179 (ninS ne_b45_b171 nin0)
      have B185_b56 := B177_b56.keep K179 (ninS ne_b56_b171 nin0)
      have M186_b63 := M178_b63.keep K179 (ninS ne_b63_b171 nin0)
      have N179 := Fr.app N163 Nq179
      have Z179 : n0 ≤ T179.heap.size := Nat.le_trans Z171 K179.1
      have KK179 : Keep h0 T179.heap [] := K171.trans K179 (allS (Or.inr sz_b171) all0)
      show GoP p e below Φ (T179.setTop (mkF m 276 #[.val (.int n), .val (.int (4 : Int32)), .val (.ref ta), .val (.ref hd), .val (.ref wt), .val (.ref b1), .val (.long (0 : Int64)), .second, .val (.ref b45), .val (.ref b56), .val (.ref b63), .val (.int (4 : Int32)), .val (.int (own_s3 (own_nx n t0 t1 t2 t3) t0 t1 t2 t3))] [(.ref b171)]))
      exact own_retA X179 hx hby fin hret rfl rfl rfl d_19_2__276 (by decide) (by decide) (by exact ⟨b171, b1, b56, rfl, N179, KK179, sz_b171, sz_b1, sz_b56, E179, FA179, FH179, B183_b1, B185_b56⟩)
    | succ d ih =>
      intro T h locs j ys X eT N KL IL HL g1 g2 hr
      have V189_ta := V37_ta.keep KL (ninS ne_ta_b1 nin0)
      have V190_hd := V38_hd.keep KL (ninS ne_hd_b1 nin0)
      have V191_wt := V39_wt.keep KL (ninS ne_wt_b1 nin0)
      have q1 := own_p1 (x := j) (by omega) (by omega)
      refine own_iload X hx hby d_19_2__158 rfl (pc' := 160) rfl ?_
      refine own_iloadN X hx hby d_19_2__160 rfl (pc' := 161) rfl ?_
      refine own_icmpN X hx hby d_19_2__161 (flt (own_geI (by omega))).2.2.1 (pc' := 164) rfl ?_
      refine own_aload X hx hby d_19_2__164 rfl rfl (pc' := 166) rfl ?_
      refine own_iload X hx hby d_19_2__166 rfl (pc' := 168) rfl ?_
      refine own_iconst X hx hby d_19_2__168 (v := (1 : Int32)) rfl (pc' := 169) rfl ?_
      refine own_iadd X hx hby d_19_2__169 (pc' := 170) rfl ?_
      refine own_dup2 X hx hby d_19_2__170 rfl rfl (pc' := 171) rfl ?_
      refine own_ialoadL X hx hby hZ eT IL (by rw [HL]; exact own_idx (by omega) (by omega)) d_19_2__171 (pc' := 172) rfl ?_
      refine own_aload X hx hby d_19_2__172 rfl rfl (pc' := 174) rfl ?_
      refine own_iload X hx hby d_19_2__174 rfl (pc' := 176) rfl ?_
      refine own_ialoadL X hx hby hZ eT IL (by rw [HL]; exact own_idx (by omega) (by omega)) d_19_2__176 (pc' := 177) rfl ?_
      refine own_iadd X hx hby d_19_2__177 (pc' := 178) rfl ?_
      refine own_iastoreL X hx hby hZ eT IL (by rw [HL]; exact own_idx (by omega) (by omega)) d_19_2__178 (pc' := 179) rfl ?_
      intro T192 h192 X192 e192 W192 B192
      have V193_ta := V189_ta.other W192 ne_ta_b1
      have V194_hd := V190_hd.other W192 ne_hd_b1
      have V195_wt := V191_wt.other W192 ne_wt_b1
      have N192 := Fr.snoc X192 N n0_b1
      have KL192 := KL.wr W192 (Or.inl (List.mem_of_getElem? (i := 0) rfl))
      refine own_iinc X192 hx hby d_19_2__179 rfl (v := (1 : Int32)) rfl (Ls' := #[.val (.int n), .val (.int (4 : Int32)), .val (.ref ta), .val (.ref hd), .val (.ref wt), .val (.ref b1), .val (.long (0 : Int64)), .second, .val (.int (j + (1 : Int32))), .unset, .unset, .unset, .unset]) rfl (pc' := 182) rfl ?_
      refine own_goto X192 hx hby d_19_2__182 (by decide) (pc' := 158) (by decide) ?_
      exact ih T192 h192 _ (j + (1 : Int32)) _ X192 e192 N192 KL192 B192 ((own_ulen _ _ _).trans HL) (by omega) (by omega) hr
  exact LP158 n.toNatClampNeg T36 h36 _ (1 : Int32) _ X36 e36 N36 (Keep.refl _ _) B41 HL41 (by decide) (by rw [own_z1]; omega) rfl
theorem own_falen {n t0 t1 t2 t3 : Int32} (h1 : 0 ≤ n.toInt) (h2 : n.toInt ≤ 7) : (own_fa n t0 t1 t2 t3).length = n.toInt.toNat + 2 := by
  have q := own_cl (x := n + (2 : Int32)) (by rw [own_p2 h1 (by omega)]; omega)
  rw [own_p2 h1 (by omega)] at q
  unfold own_fa
  rw [own_prelen, own_inclen, own_inclen, own_inclen, own_inclen, List.length_replicate]; omega
theorem own_hdlen (a b c d x y z w : Int32) : (own_hd a b c d x y z w).length = 4 := by unfold own_hd; rw [own_ulen, own_ulen, own_ulen, own_ulen]; rfl
theorem ef_rmT (m : MethodId) (x0 : Addr) (x1 : Int32) (x2 : Int32) (x3 : Int32) (x4 : Addr) : entryFrame m #[(.ref x0), (.int x1), (.int x2), (.int x3), (.ref x4)] 12 = mkF m 0 #[.val (.ref x0), .val (.int x1), .val (.int x2), .val (.int x3), .val (.ref x4), .unset, .unset, .unset, .unset, .unset, .unset, .unset] [] := by first | (simp [entryFrame, mkF, argsToLocals, Value.category]; done) | rfl
theorem pn_com_example_wayfold_wayfold_TrafficNetwork : plainName "com/example/wayfold/wayfold/TrafficNetwork" = true := by first | (simp [plainName, overriddenIn]; done) | decide +kernel
theorem d_57_1__0 : decode prog_57_method_1_code 0 = .ok (.aload_n 0, 1) := by decide +kernel
theorem d_57_1__1 : decode prog_57_method_1_code 1 = .ok (.invokespecial 1, 3) := by decide +kernel
theorem d_57_1__4 : decode prog_57_method_1_code 4 = .ok (.iload_n 2, 1) := by decide +kernel
theorem d_57_1__5 : decode prog_57_method_1_code 5 = .ok (.ifCond .lt 12, 3) := by decide +kernel
theorem d_57_1__8 : decode prog_57_method_1_code 8 = .ok (.iload_n 2, 1) := by decide +kernel
theorem d_57_1__9 : decode prog_57_method_1_code 9 = .ok (.iload_n 1, 1) := by decide +kernel
theorem d_57_1__10 : decode prog_57_method_1_code 10 = .ok (.if_icmp .gt 7, 3) := by decide +kernel
theorem d_57_1__13 : decode prog_57_method_1_code 13 = .ok (.iload_n 3, 1) := by decide +kernel
theorem d_57_1__14 : decode prog_57_method_1_code 14 = .ok (.ifCond .ge 18, 3) := by decide +kernel
theorem d_57_1__32 : decode prog_57_method_1_code 32 = .ok (.aload 4, 2) := by decide +kernel
theorem d_57_1__34 : decode prog_57_method_1_code 34 = .ok (.invokeinterface 16 1, 5) := by decide +kernel
theorem pd___I : parseMethodDescriptor "()I" = some ⟨[], some .int⟩ := by decide +kernel
theorem d_57_1__39 : decode prog_57_method_1_code 39 = .ok (.istore 5, 2) := by decide +kernel
theorem d_57_1__41 : decode prog_57_method_1_code 41 = .ok (.iload 5, 2) := by decide +kernel
theorem d_57_1__43 : decode prog_57_method_1_code 43 = .ok (.newarray .int, 2) := by decide +kernel
theorem d_57_1__45 : decode prog_57_method_1_code 45 = .ok (.astore 6, 2) := by decide +kernel
theorem d_57_1__47 : decode prog_57_method_1_code 47 = .ok (.iload 5, 2) := by decide +kernel
theorem d_57_1__49 : decode prog_57_method_1_code 49 = .ok (.newarray .int, 2) := by decide +kernel
theorem d_57_1__51 : decode prog_57_method_1_code 51 = .ok (.astore 7, 2) := by decide +kernel
theorem d_57_1__53 : decode prog_57_method_1_code 53 = .ok (.iconst 0, 1) := by decide +kernel
theorem d_57_1__54 : decode prog_57_method_1_code 54 = .ok (.istore 8, 2) := by decide +kernel
theorem d_57_1__56 : decode prog_57_method_1_code 56 = .ok (.iload 8, 2) := by decide +kernel
theorem d_57_1__58 : decode prog_57_method_1_code 58 = .ok (.iload 5, 2) := by decide +kernel
theorem d_57_1__60 : decode prog_57_method_1_code 60 = .ok (.if_icmp .ge 113, 3) := by decide +kernel
theorem d_57_1__63 : decode prog_57_method_1_code 63 = .ok (.aload 4, 2) := by decide +kernel
theorem d_57_1__65 : decode prog_57_method_1_code 65 = .ok (.iload 8, 2) := by decide +kernel
theorem d_57_1__67 : decode prog_57_method_1_code 67 = .ok (.invokeinterface 22 2, 5) := by decide +kernel
theorem d_57_1__72 : decode prog_57_method_1_code 72 = .ok (.checkcast 26, 3) := by decide +kernel
theorem d_57_1__75 : decode prog_57_method_1_code 75 = .ok (.astore 9, 2) := by decide +kernel
theorem d_57_1__77 : decode prog_57_method_1_code 77 = .ok (.aload 9, 2) := by decide +kernel
theorem d_57_1__79 : decode prog_57_method_1_code 79 = .ok (.invokevirtual 28, 3) := by decide +kernel
theorem pd___D : parseMethodDescriptor "()D" = some ⟨[], some .double⟩ := by decide +kernel
theorem d_57_1__82 : decode prog_57_method_1_code 82 = .ok (.dconst 0, 1) := by decide +kernel
theorem d_57_1__83 : decode prog_57_method_1_code 83 = .ok (.dcmp .l, 1) := by decide +kernel
theorem d_57_1__84 : decode prog_57_method_1_code 84 = .ok (.ifCond .le 43, 3) := by decide +kernel
theorem d_57_1__87 : decode prog_57_method_1_code 87 = .ok (.aload 9, 2) := by decide +kernel
theorem d_57_1__89 : decode prog_57_method_1_code 89 = .ok (.invokevirtual 32, 3) := by decide +kernel
theorem d_57_1__92 : decode prog_57_method_1_code 92 = .ok (.dconst 0, 1) := by decide +kernel
theorem d_57_1__93 : decode prog_57_method_1_code 93 = .ok (.dcmp .l, 1) := by decide +kernel
theorem d_57_1__94 : decode prog_57_method_1_code 94 = .ok (.ifCond .lt 33, 3) := by decide +kernel
theorem d_57_1__97 : decode prog_57_method_1_code 97 = .ok (.aload 9, 2) := by decide +kernel
theorem d_57_1__99 : decode prog_57_method_1_code 99 = .ok (.invokevirtual 35, 3) := by decide +kernel
theorem d_57_1__102 : decode prog_57_method_1_code 102 = .ok (.dconst 0, 1) := by decide +kernel
theorem d_57_1__103 : decode prog_57_method_1_code 103 = .ok (.dcmp .l, 1) := by decide +kernel
theorem d_57_1__104 : decode prog_57_method_1_code 104 = .ok (.ifCond .lt 23, 3) := by decide +kernel
theorem d_57_1__107 : decode prog_57_method_1_code 107 = .ok (.aload 9, 2) := by decide +kernel
theorem d_57_1__109 : decode prog_57_method_1_code 109 = .ok (.invokevirtual 38, 3) := by decide +kernel
theorem d_57_1__112 : decode prog_57_method_1_code 112 = .ok (.dconst 0, 1) := by decide +kernel
theorem d_57_1__113 : decode prog_57_method_1_code 113 = .ok (.dcmp .l, 1) := by decide +kernel
theorem d_57_1__114 : decode prog_57_method_1_code 114 = .ok (.ifCond .eq 33, 3) := by decide +kernel
theorem d_57_1__147 : decode prog_57_method_1_code 147 = .ok (.aload 6, 2) := by decide +kernel
theorem d_57_1__149 : decode prog_57_method_1_code 149 = .ok (.iload 8, 2) := by decide +kernel
theorem d_57_1__151 : decode prog_57_method_1_code 151 = .ok (.aload 9, 2) := by decide +kernel
theorem d_57_1__153 : decode prog_57_method_1_code 153 = .ok (.invokevirtual 50, 3) := by decide +kernel
theorem d_57_1__156 : decode prog_57_method_1_code 156 = .ok (.iastore, 1) := by decide +kernel
theorem d_57_1__157 : decode prog_57_method_1_code 157 = .ok (.aload 7, 2) := by decide +kernel
theorem d_57_1__159 : decode prog_57_method_1_code 159 = .ok (.iload 8, 2) := by decide +kernel
theorem d_57_1__161 : decode prog_57_method_1_code 161 = .ok (.aload 9, 2) := by decide +kernel
theorem d_57_1__163 : decode prog_57_method_1_code 163 = .ok (.invokevirtual 53, 3) := by decide +kernel
theorem d_57_1__166 : decode prog_57_method_1_code 166 = .ok (.iastore, 1) := by decide +kernel
theorem d_57_1__167 : decode prog_57_method_1_code 167 = .ok (.iinc 8 1, 3) := by decide +kernel
theorem d_57_1__170 : decode prog_57_method_1_code 170 = .ok (.goto (-114), 3) := by decide +kernel
theorem d_57_1__173 : decode prog_57_method_1_code 173 = .ok (.aload_n 0, 1) := by decide +kernel
theorem d_57_1__174 : decode prog_57_method_1_code 174 = .ok (.iload_n 1, 1) := by decide +kernel
theorem d_57_1__175 : decode prog_57_method_1_code 175 = .ok (.iload 5, 2) := by decide +kernel
theorem d_57_1__177 : decode prog_57_method_1_code 177 = .ok (.aload 6, 2) := by decide +kernel
theorem d_57_1__179 : decode prog_57_method_1_code 179 = .ok (.aload 7, 2) := by decide +kernel
theorem d_57_1__181 : decode prog_57_method_1_code 181 = .ok (.iload 5, 2) := by decide +kernel
theorem d_57_1__183 : decode prog_57_method_1_code 183 = .ok (.newarray .long, 2) := by decide +kernel
theorem d_57_1__185 : decode prog_57_method_1_code 185 = .ok (.invokestatic 56, 3) := by decide +kernel
theorem pd__II_I_I_J_Lcom_example_wayfold_wayfold_Graph_ : parseMethodDescriptor "(II[I[I[J)Lcom/example/wayfold/wayfold/Graph;" = some ⟨[.int, .int, (.array .int), (.array .int), (.array .long)], some (.object "com/example/wayfold/wayfold/Graph")⟩ := by decide +kernel
theorem d_57_1__188 : decode prog_57_method_1_code 188 = .ok (.putfield 62, 3) := by decide +kernel
theorem d_57_1__191 : decode prog_57_method_1_code 191 = .ok (.aload_n 0, 1) := by decide +kernel
theorem d_57_1__192 : decode prog_57_method_1_code 192 = .ok (.iload_n 2, 1) := by decide +kernel
theorem d_57_1__193 : decode prog_57_method_1_code 193 = .ok (.putfield 68, 3) := by decide +kernel
theorem d_57_1__196 : decode prog_57_method_1_code 196 = .ok (.aload_n 0, 1) := by decide +kernel
theorem d_57_1__197 : decode prog_57_method_1_code 197 = .ok (.iload_n 3, 1) := by decide +kernel
theorem d_57_1__198 : decode prog_57_method_1_code 198 = .ok (.putfield 72, 3) := by decide +kernel
theorem d_57_1__201 : decode prog_57_method_1_code 201 = .ok (.aload_n 0, 1) := by decide +kernel
theorem d_57_1__202 : decode prog_57_method_1_code 202 = .ok (.aload 6, 2) := by decide +kernel
theorem d_57_1__204 : decode prog_57_method_1_code 204 = .ok (.putfield 75, 3) := by decide +kernel
theorem d_57_1__207 : decode prog_57_method_1_code 207 = .ok (.aload_n 0, 1) := by decide +kernel
theorem d_57_1__208 : decode prog_57_method_1_code 208 = .ok (.iload 5, 2) := by decide +kernel
theorem d_57_1__210 : decode prog_57_method_1_code 210 = .ok (.newarray .int, 2) := by decide +kernel
theorem d_57_1__212 : decode prog_57_method_1_code 212 = .ok (.putfield 79, 3) := by decide +kernel
theorem d_57_1__215 : decode prog_57_method_1_code 215 = .ok (.iload_n 1, 1) := by decide +kernel
theorem d_57_1__216 : decode prog_57_method_1_code 216 = .ok (.iconst 1, 1) := by decide +kernel
theorem d_57_1__217 : decode prog_57_method_1_code 217 = .ok (.iadd, 1) := by decide +kernel
theorem d_57_1__218 : decode prog_57_method_1_code 218 = .ok (.newarray .int, 2) := by decide +kernel
theorem d_57_1__220 : decode prog_57_method_1_code 220 = .ok (.astore 8, 2) := by decide +kernel
theorem d_57_1__222 : decode prog_57_method_1_code 222 = .ok (.iconst 1, 1) := by decide +kernel
theorem d_57_1__223 : decode prog_57_method_1_code 223 = .ok (.istore 9, 2) := by decide +kernel
theorem d_57_1__225 : decode prog_57_method_1_code 225 = .ok (.iload 9, 2) := by decide +kernel
theorem d_57_1__227 : decode prog_57_method_1_code 227 = .ok (.iload_n 1, 1) := by decide +kernel
theorem d_57_1__228 : decode prog_57_method_1_code 228 = .ok (.if_icmp .gt 23, 3) := by decide +kernel
theorem d_57_1__251 : decode prog_57_method_1_code 251 = .ok (.aload_n 0, 1) := by decide +kernel
theorem d_57_1__252 : decode prog_57_method_1_code 252 = .ok (.iload 5, 2) := by decide +kernel
theorem d_57_1__254 : decode prog_57_method_1_code 254 = .ok (.newarray .double, 2) := by decide +kernel
theorem d_57_1__256 : decode prog_57_method_1_code 256 = .ok (.putfield 86, 3) := by decide +kernel
theorem d_57_1__259 : decode prog_57_method_1_code 259 = .ok (.aload_n 0, 1) := by decide +kernel
theorem d_57_1__260 : decode prog_57_method_1_code 260 = .ok (.iload 5, 2) := by decide +kernel
theorem d_57_1__262 : decode prog_57_method_1_code 262 = .ok (.newarray .double, 2) := by decide +kernel
theorem d_57_1__264 : decode prog_57_method_1_code 264 = .ok (.putfield 89, 3) := by decide +kernel
theorem d_57_1__267 : decode prog_57_method_1_code 267 = .ok (.aload_n 0, 1) := by decide +kernel
theorem d_57_1__268 : decode prog_57_method_1_code 268 = .ok (.iload 5, 2) := by decide +kernel
theorem d_57_1__270 : decode prog_57_method_1_code 270 = .ok (.newarray .double, 2) := by decide +kernel
theorem d_57_1__272 : decode prog_57_method_1_code 272 = .ok (.putfield 91, 3) := by decide +kernel
theorem d_57_1__275 : decode prog_57_method_1_code 275 = .ok (.aload_n 0, 1) := by decide +kernel
theorem d_57_1__276 : decode prog_57_method_1_code 276 = .ok (.iload 5, 2) := by decide +kernel
theorem d_57_1__278 : decode prog_57_method_1_code 278 = .ok (.newarray .double, 2) := by decide +kernel
theorem d_57_1__280 : decode prog_57_method_1_code 280 = .ok (.putfield 93, 3) := by decide +kernel
theorem d_57_1__283 : decode prog_57_method_1_code 283 = .ok (.iconst 0, 1) := by decide +kernel
theorem d_57_1__284 : decode prog_57_method_1_code 284 = .ok (.istore 9, 2) := by decide +kernel
theorem d_57_1__286 : decode prog_57_method_1_code 286 = .ok (.iload 9, 2) := by decide +kernel
theorem d_57_1__288 : decode prog_57_method_1_code 288 = .ok (.iload 5, 2) := by decide +kernel
theorem d_57_1__290 : decode prog_57_method_1_code 290 = .ok (.if_icmp .ge 95, 3) := by decide +kernel
theorem d_57_1__293 : decode prog_57_method_1_code 293 = .ok (.aload 4, 2) := by decide +kernel
theorem d_57_1__295 : decode prog_57_method_1_code 295 = .ok (.iload 9, 2) := by decide +kernel
theorem d_57_1__297 : decode prog_57_method_1_code 297 = .ok (.invokeinterface 22 2, 5) := by decide +kernel
theorem d_57_1__302 : decode prog_57_method_1_code 302 = .ok (.checkcast 26, 3) := by decide +kernel
theorem d_57_1__305 : decode prog_57_method_1_code 305 = .ok (.astore 10, 2) := by decide +kernel
theorem d_57_1__307 : decode prog_57_method_1_code 307 = .ok (.aload 8, 2) := by decide +kernel
theorem d_57_1__309 : decode prog_57_method_1_code 309 = .ok (.aload 10, 2) := by decide +kernel
theorem d_57_1__311 : decode prog_57_method_1_code 311 = .ok (.invokevirtual 50, 3) := by decide +kernel
theorem d_57_1__314 : decode prog_57_method_1_code 314 = .ok (.dup2, 1) := by decide +kernel
theorem d_57_1__315 : decode prog_57_method_1_code 315 = .ok (.iaload, 1) := by decide +kernel
theorem d_57_1__316 : decode prog_57_method_1_code 316 = .ok (.dup_x2, 1) := by decide +kernel
theorem d_57_1__317 : decode prog_57_method_1_code 317 = .ok (.iconst 1, 1) := by decide +kernel
theorem d_57_1__318 : decode prog_57_method_1_code 318 = .ok (.iadd, 1) := by decide +kernel
theorem d_57_1__319 : decode prog_57_method_1_code 319 = .ok (.iastore, 1) := by decide +kernel
theorem d_57_1__320 : decode prog_57_method_1_code 320 = .ok (.istore 11, 2) := by decide +kernel
theorem d_57_1__322 : decode prog_57_method_1_code 322 = .ok (.aload_n 0, 1) := by decide +kernel
theorem d_57_1__323 : decode prog_57_method_1_code 323 = .ok (.getfield 79, 3) := by decide +kernel
theorem d_57_1__326 : decode prog_57_method_1_code 326 = .ok (.iload 9, 2) := by decide +kernel
theorem d_57_1__328 : decode prog_57_method_1_code 328 = .ok (.iload 11, 2) := by decide +kernel
theorem d_57_1__330 : decode prog_57_method_1_code 330 = .ok (.iastore, 1) := by decide +kernel
theorem d_57_1__331 : decode prog_57_method_1_code 331 = .ok (.aload_n 0, 1) := by decide +kernel
theorem d_57_1__332 : decode prog_57_method_1_code 332 = .ok (.getfield 86, 3) := by decide +kernel
theorem d_57_1__335 : decode prog_57_method_1_code 335 = .ok (.iload 11, 2) := by decide +kernel
theorem d_57_1__337 : decode prog_57_method_1_code 337 = .ok (.aload 10, 2) := by decide +kernel
theorem d_57_1__339 : decode prog_57_method_1_code 339 = .ok (.invokevirtual 28, 3) := by decide +kernel
theorem d_57_1__342 : decode prog_57_method_1_code 342 = .ok (.dastore, 1) := by decide +kernel
theorem d_57_1__343 : decode prog_57_method_1_code 343 = .ok (.aload_n 0, 1) := by decide +kernel
theorem d_57_1__344 : decode prog_57_method_1_code 344 = .ok (.getfield 89, 3) := by decide +kernel
theorem d_57_1__347 : decode prog_57_method_1_code 347 = .ok (.iload 11, 2) := by decide +kernel
theorem d_57_1__349 : decode prog_57_method_1_code 349 = .ok (.aload 10, 2) := by decide +kernel
theorem d_57_1__351 : decode prog_57_method_1_code 351 = .ok (.invokevirtual 32, 3) := by decide +kernel
theorem d_57_1__354 : decode prog_57_method_1_code 354 = .ok (.dastore, 1) := by decide +kernel
theorem d_57_1__355 : decode prog_57_method_1_code 355 = .ok (.aload_n 0, 1) := by decide +kernel
theorem d_57_1__356 : decode prog_57_method_1_code 356 = .ok (.getfield 91, 3) := by decide +kernel
theorem d_57_1__359 : decode prog_57_method_1_code 359 = .ok (.iload 11, 2) := by decide +kernel
theorem d_57_1__361 : decode prog_57_method_1_code 361 = .ok (.aload 10, 2) := by decide +kernel
theorem d_57_1__363 : decode prog_57_method_1_code 363 = .ok (.invokevirtual 35, 3) := by decide +kernel
theorem d_57_1__366 : decode prog_57_method_1_code 366 = .ok (.dastore, 1) := by decide +kernel
theorem d_57_1__367 : decode prog_57_method_1_code 367 = .ok (.aload_n 0, 1) := by decide +kernel
theorem d_57_1__368 : decode prog_57_method_1_code 368 = .ok (.getfield 93, 3) := by decide +kernel
theorem d_57_1__371 : decode prog_57_method_1_code 371 = .ok (.iload 11, 2) := by decide +kernel
theorem d_57_1__373 : decode prog_57_method_1_code 373 = .ok (.aload 10, 2) := by decide +kernel
theorem d_57_1__375 : decode prog_57_method_1_code 375 = .ok (.invokevirtual 38, 3) := by decide +kernel
theorem d_57_1__378 : decode prog_57_method_1_code 378 = .ok (.dastore, 1) := by decide +kernel
theorem d_57_1__379 : decode prog_57_method_1_code 379 = .ok (.iinc 9 1, 3) := by decide +kernel
theorem d_57_1__382 : decode prog_57_method_1_code 382 = .ok (.goto (-96), 3) := by decide +kernel
theorem d_57_1__385 : decode prog_57_method_1_code 385 = .ok (.return_, 1) := by decide +kernel
theorem d_57_1__231 : decode prog_57_method_1_code 231 = .ok (.aload 8, 2) := by decide +kernel
theorem d_57_1__233 : decode prog_57_method_1_code 233 = .ok (.iload 9, 2) := by decide +kernel
theorem d_57_1__235 : decode prog_57_method_1_code 235 = .ok (.aload_n 0, 1) := by decide +kernel
theorem d_57_1__236 : decode prog_57_method_1_code 236 = .ok (.getfield 62, 3) := by decide +kernel
theorem d_57_1__239 : decode prog_57_method_1_code 239 = .ok (.iload 9, 2) := by decide +kernel
theorem d_57_1__241 : decode prog_57_method_1_code 241 = .ok (.invokevirtual 82, 3) := by decide +kernel
theorem pd__I_I : parseMethodDescriptor "(I)I" = some ⟨[.int], some .int⟩ := by decide +kernel
theorem d_57_1__244 : decode prog_57_method_1_code 244 = .ok (.iastore, 1) := by decide +kernel
theorem d_57_1__245 : decode prog_57_method_1_code 245 = .ok (.iinc 9 1, 3) := by decide +kernel
theorem d_57_1__248 : decode prog_57_method_1_code 248 = .ok (.goto (-23), 3) := by decide +kernel
set_option maxRecDepth 65536 in
set_option maxHeartbeats 40000000 in
theorem rmT (l : Launch) (Z : State) (a0 : Array Value) (hw : ∀ d ∈ tables_1, d.before a0 Z = true) (a li es x0 x1 x2 x3 : Addr) (n t0 t1 t2 t3 y0 y1 y2 y3 : Int32) (n0 : Nat) (h0 : Heap) (n0_a : n0 ≤ a) (Z0 : n0 ≤ h0.size) (hn1 : 4 ≤ n.toInt) (hn2 : n.toInt ≤ 7) (lt0 : 1 ≤ t0.toInt) (ut0 : t0.toInt ≤ 4) (lt1 : 1 ≤ t1.toInt) (ut1 : t1.toInt ≤ 4) (lt2 : 1 ≤ t2.toInt) (ut2 : t2.toInt ≤ 4) (lt3 : 1 ≤ t3.toInt) (ut3 : t3.toInt ≤ 4) (ly0 : 1 ≤ y0.toInt) (uy0 : y0.toInt ≤ 4) (ly1 : 1 ≤ y1.toInt) (uy1 : y1.toInt ≤ 4) (ly2 : 1 ≤ y2.toInt) (uy2 : y2.toInt ≤ 4) (ly3 : 1 ≤ y3.toInt) (uy3 : y3.toInt ≤ 4) (hg : own_chk n t0 t1 t2 t3 = true) (ne_a_li : a ≠ li) (ne_a_es : a ≠ es) (ne_a_x0 : a ≠ x0) (ne_a_x1 : a ≠ x1) (ne_a_x2 : a ≠ x2) (ne_a_x3 : a ≠ x3) (E : Exa Z h0 a "com/example/wayfold/wayfold/TrafficNetwork") (F_graph : Fld Z h0 a "com/example/wayfold/wayfold/TrafficNetwork" "graph" "Lcom/example/wayfold/wayfold/Graph;" .null) (F_zoneCount : Fld Z h0 a "com/example/wayfold/wayfold/TrafficNetwork" "zoneCount" "I" (.int (0 : Int32))) (F_firstThruNode : Fld Z h0 a "com/example/wayfold/wayfold/TrafficNetwork" "firstThruNode" "I" (.int (0 : Int32))) (F_linkTail : Fld Z h0 a "com/example/wayfold/wayfold/TrafficNetwork" "linkTail" "[I" .null) (F_linkArc : Fld Z h0 a "com/example/wayfold/wayfold/TrafficNetwork" "linkArc" "[I" .null) (F_capacity : Fld Z h0 a "com/example/wayfold/wayfold/TrafficNetwork" "capacity" "[D" .null) (F_freeFlowTime : Fld Z h0 a "com/example/wayfold/wayfold/TrafficNetwork" "freeFlowTime" "[D" .null) (F_b : Fld Z h0 a "com/example/wayfold/wayfold/TrafficNetwork" "b" "[D" .null) (F_power : Fld Z h0 a "com/example/wayfold/wayfold/TrafficNetwork" "power" "[D" .null) (El : Exa Z h0 li "java/util/ArrayList") (Fs : Fld Z h0 li "java/util/ArrayList" "size" "I" (.int (4 : Int32))) (Fe : Fld Z h0 li "java/util/ArrayList" "elementData" "[Ljava/lang/Object;" (.ref es)) (V : AV Z h0 es (.object "java/lang/Object") [(.ref x0), (.ref x1), (.ref x2), (.ref x3), .null, .null, .null, .null, .null, .null]) (x0_0 : Exa Z h0 x0 "com/example/wayfold/wayfold/TrafficNetwork$Link") (x0_1 : Fld Z h0 x0 "com/example/wayfold/wayfold/TrafficNetwork$Link" "tail" "I" (.int t0)) (x0_2 : Fld Z h0 x0 "com/example/wayfold/wayfold/TrafficNetwork$Link" "head" "I" (.int y0)) (x0_3 : Fld Z h0 x0 "com/example/wayfold/wayfold/TrafficNetwork$Link" "capacity" "D" (.double FP.dconst1)) (x0_4 : Fld Z h0 x0 "com/example/wayfold/wayfold/TrafficNetwork$Link" "freeFlowTime" "D" (.double FP.dconst0)) (x0_5 : Fld Z h0 x0 "com/example/wayfold/wayfold/TrafficNetwork$Link" "b" "D" (.double FP.dconst0)) (x0_6 : Fld Z h0 x0 "com/example/wayfold/wayfold/TrafficNetwork$Link" "power" "D" (.double FP.dconst0)) (x1_0 : Exa Z h0 x1 "com/example/wayfold/wayfold/TrafficNetwork$Link") (x1_1 : Fld Z h0 x1 "com/example/wayfold/wayfold/TrafficNetwork$Link" "tail" "I" (.int t1)) (x1_2 : Fld Z h0 x1 "com/example/wayfold/wayfold/TrafficNetwork$Link" "head" "I" (.int y1)) (x1_3 : Fld Z h0 x1 "com/example/wayfold/wayfold/TrafficNetwork$Link" "capacity" "D" (.double FP.dconst1)) (x1_4 : Fld Z h0 x1 "com/example/wayfold/wayfold/TrafficNetwork$Link" "freeFlowTime" "D" (.double FP.dconst0)) (x1_5 : Fld Z h0 x1 "com/example/wayfold/wayfold/TrafficNetwork$Link" "b" "D" (.double FP.dconst0)) (x1_6 : Fld Z h0 x1 "com/example/wayfold/wayfold/TrafficNetwork$Link" "power" "D" (.double FP.dconst0)) (x2_0 : Exa Z h0 x2 "com/example/wayfold/wayfold/TrafficNetwork$Link") (x2_1 : Fld Z h0 x2 "com/example/wayfold/wayfold/TrafficNetwork$Link" "tail" "I" (.int t2)) (x2_2 : Fld Z h0 x2 "com/example/wayfold/wayfold/TrafficNetwork$Link" "head" "I" (.int y2)) (x2_3 : Fld Z h0 x2 "com/example/wayfold/wayfold/TrafficNetwork$Link" "capacity" "D" (.double FP.dconst1)) (x2_4 : Fld Z h0 x2 "com/example/wayfold/wayfold/TrafficNetwork$Link" "freeFlowTime" "D" (.double FP.dconst0)) (x2_5 : Fld Z h0 x2 "com/example/wayfold/wayfold/TrafficNetwork$Link" "b" "D" (.double FP.dconst0)) (x2_6 : Fld Z h0 x2 "com/example/wayfold/wayfold/TrafficNetwork$Link" "power" "D" (.double FP.dconst0)) (x3_0 : Exa Z h0 x3 "com/example/wayfold/wayfold/TrafficNetwork$Link") (x3_1 : Fld Z h0 x3 "com/example/wayfold/wayfold/TrafficNetwork$Link" "tail" "I" (.int t3)) (x3_2 : Fld Z h0 x3 "com/example/wayfold/wayfold/TrafficNetwork$Link" "head" "I" (.int y3)) (x3_3 : Fld Z h0 x3 "com/example/wayfold/wayfold/TrafficNetwork$Link" "capacity" "D" (.double FP.dconst1)) (x3_4 : Fld Z h0 x3 "com/example/wayfold/wayfold/TrafficNetwork$Link" "freeFlowTime" "D" (.double FP.dconst0)) (x3_5 : Fld Z h0 x3 "com/example/wayfold/wayfold/TrafficNetwork$Link" "b" "D" (.double FP.dconst0)) (x3_6 : Fld Z h0 x3 "com/example/wayfold/wayfold/TrafficNetwork$Link" "power" "D" (.double FP.dconst0)) : Con l Z (⟨"com/example/wayfold/wayfold/TrafficNetwork", "<init>", "(IIILjava/util/List;)V"⟩ : MethodName) prog_57_method_1_code 12 none [] ({ frames := 3, cells := 14, slots := 69, locals := 100 } : Room) #[(.ref a), (.int n), (.int (0 : Int32)), (.int (0 : Int32)), (.ref li)] h0 (fun v h L => v = none ∧ Fr n0 L ∧ Keep h0 h [a] ∧ ∃ gr ah la : Addr, Exa Z h a "com/example/wayfold/wayfold/TrafficNetwork" ∧ Fld Z h a "com/example/wayfold/wayfold/TrafficNetwork" "graph" "Lcom/example/wayfold/wayfold/Graph;" (.ref gr) ∧ Fld Z h a "com/example/wayfold/wayfold/TrafficNetwork" "linkArc" "[I" (.ref la) ∧ Exa Z h gr "com/example/wayfold/wayfold/Graph" ∧ Fld Z h gr "com/example/wayfold/wayfold/Graph" "arcHead" "[I" (.ref ah) ∧ LI Z h ah (own_hd (own_s0 (own_nx n t0 t1 t2 t3) t0) (own_s1 (own_nx n t0 t1 t2 t3) t0 t1) (own_s2 (own_nx n t0 t1 t2 t3) t0 t1 t2) (own_s3 (own_nx n t0 t1 t2 t3) t0 t1 t2 t3) y0 y1 y2 y3) ∧ AV Z h la .int [(.int (own_s0 (own_nx n t0 t1 t2 t3) t0)), (.int (own_s1 (own_nx n t0 t1 t2 t3) t0 t1)), (.int (own_s2 (own_nx n t0 t1 t2 t3) t0 t1 t2)), (.int (own_s3 (own_nx n t0 t1 t2 t3) t0 t1 t2 t3))]) := by
  refine Con.of (plainFor_of_name pn_com_example_wayfold_wayfold_TrafficNetwork) ?_
  intro p e s m below meth c T X hx hby hml hown hnm hret eT hZ hsh Φ fin
  replace hown : s.vm.findClass "com/example/wayfold/wayfold/TrafficNetwork" = some m.cls := hown
  replace hml : 12 = c.maxLocals := hml.symm
  refine own_step (fun tq kq => castTop (ef_rmT m a n (0 : Int32) (0 : Int32) li) kq) ?_
  have N0 := Fr.nil n0
  have K0 : Keep h0 h0 [a] := Keep.refl h0 [a]
  have en1 := own_p1 (x := n) (by omega) (by omega)
  have en2 := own_p2 (x := n) (by omega) (by omega)
  have cn := own_cl (x := n) (by omega)
  have cn1 := own_cl (x := n + (1 : Int32)) (by omega)
  have cn2 := own_cl (x := n + (2 : Int32)) (by omega)
  have hgo := own_goodOf hg
  have hsm := own_small hgo.1
  have et0 := own_p1 (x := t0) (by omega) (by omega)
  have et1 := own_p1 (x := t1) (by omega) (by omega)
  have et2 := own_p1 (x := t2) (by omega) (by omega)
  have et3 := own_p1 (x := t3) (by omega) (by omega)
  have HFA : (own_fa n t0 t1 t2 t3).length = n.toInt.toNat + 2 := own_falen (by omega) hn2
  have ix_t0 : ¬ t0 < 0 ∧ t0.toNatClampNeg < n.toInt.toNat + 1 := own_idx (by omega) (by omega)
  have ix_t1 : ¬ t1 < 0 ∧ t1.toNatClampNeg < n.toInt.toNat + 1 := own_idx (by omega) (by omega)
  have ix_t2 : ¬ t2 < 0 ∧ t2.toNatClampNeg < n.toInt.toNat + 1 := own_idx (by omega) (by omega)
  have ix_t3 : ¬ t3 < 0 ∧ t3.toNatClampNeg < n.toInt.toNat + 1 := own_idx (by omega) (by omega)
  have nin_li : li ∉ [a] := (ninS (Ne.symm ne_a_li) nin0)
  have lt0_li := El.lt
  have nin_es : es ∉ [a] := (ninS (Ne.symm ne_a_es) nin0)
  have lt0_es := V.lt
  have nin_x0 : x0 ∉ [a] := (ninS (Ne.symm ne_a_x0) nin0)
  have lt0_x0 := x0_0.lt
  have nin_x1 : x1 ∉ [a] := (ninS (Ne.symm ne_a_x1) nin0)
  have lt0_x1 := x1_0.lt
  have nin_x2 : x2 ∉ [a] := (ninS (Ne.symm ne_a_x2) nin0)
  have lt0_x2 := x2_0.lt
  have nin_x3 : x3 ∉ [a] := (ninS (Ne.symm ne_a_x3) nin0)
  have lt0_x3 := x3_0.lt
  refine own_aloadN X hx hby d_57_1__0 rfl rfl (pc' := 1) rfl ?_
  obtain ⟨T1, X1, e1, st1⟩ := initO X hx hZ hown (own_w hw 87 rfl) (own_w hw 19 rfl) (own_w hw 20 rfl) eT (g := (mkF m 1 #[.val (.ref a), .val (.int n), .val (.int (0 : Int32)), .val (.int (0 : Int32)), .val (.ref li), .unset, .unset, .unset, .unset, .unset, .unset, .unset] [(.ref a)])) rfl hml rfl (hb hby d_57_1__1) (by decide) (W := 0) (by show 2 * 0 + _ ≤ _; exact Nat.le_of_eq rfl) (by decide)
  refine own_step st1 ?_
  show GoP p e below Φ (T1.setTop (mkF m 4 #[.val (.ref a), .val (.int n), .val (.int (0 : Int32)), .val (.int (0 : Int32)), .val (.ref li), .unset, .unset, .unset, .unset, .unset, .unset, .unset] []))
  refine own_iloadN X1 hx hby d_57_1__4 rfl (pc' := 5) rfl ?_
  refine own_ifN X1 hx hby d_57_1__5 ((if0 _ _).trans (flt (by decide)).1) (pc' := 8) rfl ?_
  refine own_iloadN X1 hx hby d_57_1__8 rfl (pc' := 9) rfl ?_
  refine own_iloadN X1 hx hby d_57_1__9 rfl (pc' := 10) rfl ?_
  refine own_icmpN X1 hx hby d_57_1__10 (flt (own_geI (by rw [own_z0]; omega))).2.2.1 (pc' := 13) rfl ?_
  refine own_iloadN X1 hx hby d_57_1__13 rfl (pc' := 14) rfl ?_
  refine own_ifY X1 hx hby d_57_1__14 ((if0 _ _).trans (flt (by decide)).2.1) (by decide) (pc' := 32) (by decide) ?_
  refine own_aload X1 hx hby d_57_1__32 rfl rfl (pc' := 34) rfl ?_
  refine own_callF X1 hx hby hZ (by exact hml) hown (x0 := (⟨"java/util/List", "size", "()I"⟩ : MethodName)) (y := (⟨"java/util/ArrayList", "size", "()I"⟩ : MethodName)) (own_w hw 88 rfl) (own_w hw 89 rfl) (own_w hw 90 rfl) (own_w hw 91 rfl) (own_w hw 92 rfl) (own_w hw 93 rfl) (own_w hw 94 rfl) (own_w hw 95 rfl) (own_w hw 2 rfl) rfl (own_w hw 96 rfl) (by decide) e1 0 (by decide) (by decide) (by decide) (by decide) (argsL := []) (rest := []) (lenOf pd___I rfl) rfl (Nat.le_of_eq rfl) El (rmSz l Z a0 hw li (4 : Int32) h0 Fs) d_57_1__34 (pc' := 39) rfl ?_
  intro v2 T2 L2 X2 hQ2
  obtain ⟨rfl, rfl, e2⟩ := hQ2
  rw [List.append_nil] at X2
  replace e2 : T2.heap = h0 := e2
  show GoP p e below Φ (T2.setTop (mkF m 39 #[.val (.ref a), .val (.int n), .val (.int (0 : Int32)), .val (.int (0 : Int32)), .val (.ref li), .unset, .unset, .unset, .unset, .unset, .unset, .unset] [(.int (4 : Int32))]))
  refine own_istore X2 hx hby d_57_1__39  (Ls' := #[.val (.ref a), .val (.int n), .val (.int (0 : Int32)), .val (.int (0 : Int32)), .val (.ref li), .val (.int (4 : Int32)), .unset, .unset, .unset, .unset, .unset, .unset]) rfl (pc' := 41) rfl ?_
  refine own_iload X2 hx hby d_57_1__41 rfl (pc' := 43) rfl ?_
  obtain ⟨T3, h3, k3, X3, e3, E3, A3, st3⟩ := newP X2 hx hZ (own_w hw 97 rfl) e2 (g := (mkF m 43 #[.val (.ref a), .val (.int n), .val (.int (0 : Int32)), .val (.int (0 : Int32)), .val (.ref li), .val (.int (4 : Int32)), .unset, .unset, .unset, .unset, .unset, .unset] [(.int (4 : Int32))])) rfl (hb hby d_57_1__43) rfl (by decide) (cap := 4) (by decide) (by decide) (by decide) (by decide)
  obtain ⟨b3, g3⟩ : ∃ z, z = h0.size := ⟨_, rfl⟩
  have ne_a_b3 : a ≠ b3 := Nat.ne_of_lt (g3 ▸ E.lt)
  have E4_a := E.ext E3
  have F5_graph := F_graph.ext E3
  have F6_zoneCount := F_zoneCount.ext E3
  have F7_firstThruNode := F_firstThruNode.ext E3
  have F8_linkTail := F_linkTail.ext E3
  have F9_linkArc := F_linkArc.ext E3
  have F10_capacity := F_capacity.ext E3
  have F11_freeFlowTime := F_freeFlowTime.ext E3
  have F12_b := F_b.ext E3
  have F13_power := F_power.ext E3
  have Z3 : n0 ≤ h3.size := Nat.le_trans Z0 E3.1
  have n0_b3 : n0 ≤ b3 := g3 ▸ Z0
  have sz_b3 : h0.size ≤ b3 := g3 ▸ K0.1
  have K3 : Keep h0 h3 [a] := K0.ext E3
  rw [← g3] at A3 st3
  refine own_step st3 ?_
  have V3 : AV Z h3 b3 .int [(.int (0 : Int32)), (.int (0 : Int32)), (.int (0 : Int32)), (.int (0 : Int32))] := AV.new A3 (by decide)
  show GoP p e below Φ (T3.setTop (mkF m 45 #[.val (.ref a), .val (.int n), .val (.int (0 : Int32)), .val (.int (0 : Int32)), .val (.ref li), .val (.int (4 : Int32)), .unset, .unset, .unset, .unset, .unset, .unset] [(.ref b3)]))
  refine own_astore X3 hx hby d_57_1__45 rfl (Ls' := #[.val (.ref a), .val (.int n), .val (.int (0 : Int32)), .val (.int (0 : Int32)), .val (.ref li), .val (.int (4 : Int32)), .val (.ref b3), .unset, .unset, .unset, .unset, .unset]) rfl (pc' := 47) rfl ?_
  refine own_iload X3 hx hby d_57_1__47 rfl (pc' := 49) rfl ?_
  obtain ⟨T14, h14, k14, X14, e14, E14, A14, st14⟩ := newP X3 hx hZ (own_w hw 97 rfl) e3 (g := (mkF m 49 #[.val (.ref a), .val (.int n), .val (.int (0 : Int32)), .val (.int (0 : Int32)), .val (.ref li), .val (.int (4 : Int32)), .val (.ref b3), .unset, .unset, .unset, .unset, .unset] [(.int (4 : Int32))])) rfl (hb hby d_57_1__49) rfl (by decide) (cap := 4) (by decide) (by decide) (by decide) (by decide)
  obtain ⟨b14, g14⟩ : ∃ z, z = h3.size := ⟨_, rfl⟩
  have ne_a_b14 : a ≠ b14 := Nat.ne_of_lt (g14 ▸ E4_a.lt)
  have ne_b3_b14 : b3 ≠ b14 := Nat.ne_of_lt (g14 ▸ V3.lt)
  have E15_a := E4_a.ext E14
  have F16_graph := F5_graph.ext E14
  have F17_zoneCount := F6_zoneCount.ext E14
  have F18_firstThruNode := F7_firstThruNode.ext E14
  have F19_linkTail := F8_linkTail.ext E14
  have F20_linkArc := F9_linkArc.ext E14
  have F21_capacity := F10_capacity.ext E14
  have F22_freeFlowTime := F11_freeFlowTime.ext E14
  have F23_b := F12_b.ext E14
  have F24_power := F13_power.ext E14
  have V25_b3 := V3.ext E14
  have Z14 : n0 ≤ h14.size := Nat.le_trans Z3 E14.1
  have n0_b14 : n0 ≤ b14 := g14 ▸ Z3
  have sz_b14 : h0.size ≤ b14 := g14 ▸ K3.1
  have K14 : Keep h0 h14 [a] := K3.ext E14
  rw [← g14] at A14 st14
  refine own_step st14 ?_
  have V14 : AV Z h14 b14 .int [(.int (0 : Int32)), (.int (0 : Int32)), (.int (0 : Int32)), (.int (0 : Int32))] := AV.new A14 (by decide)
  show GoP p e below Φ (T14.setTop (mkF m 51 #[.val (.ref a), .val (.int n), .val (.int (0 : Int32)), .val (.int (0 : Int32)), .val (.ref li), .val (.int (4 : Int32)), .val (.ref b3), .unset, .unset, .unset, .unset, .unset] [(.ref b14)]))
  refine own_astore X14 hx hby d_57_1__51 rfl (Ls' := #[.val (.ref a), .val (.int n), .val (.int (0 : Int32)), .val (.int (0 : Int32)), .val (.ref li), .val (.int (4 : Int32)), .val (.ref b3), .val (.ref b14), .unset, .unset, .unset, .unset]) rfl (pc' := 53) rfl ?_
  refine own_iconst X14 hx hby d_57_1__53 (v := (0 : Int32)) rfl (pc' := 54) rfl ?_
  refine own_istore X14 hx hby d_57_1__54  (Ls' := #[.val (.ref a), .val (.int n), .val (.int (0 : Int32)), .val (.int (0 : Int32)), .val (.ref li), .val (.int (4 : Int32)), .val (.ref b3), .val (.ref b14), .val (.int (0 : Int32)), .unset, .unset, .unset]) rfl (pc' := 56) rfl ?_
  refine own_iload X14 hx hby d_57_1__56 rfl (pc' := 58) rfl ?_
  refine own_iload X14 hx hby d_57_1__58 rfl (pc' := 60) rfl ?_
  refine own_icmpN X14 hx hby d_57_1__60 (tlt (by decide)).2.1 (pc' := 63) rfl ?_
  refine own_aload X14 hx hby d_57_1__63 rfl rfl (pc' := 65) rfl ?_
  refine own_iload X14 hx hby d_57_1__65 rfl (pc' := 67) rfl ?_
  refine own_callF X14 hx hby hZ (by exact hml) hown (x0 := (⟨"java/util/List", "get", "(I)Ljava/lang/Object;"⟩ : MethodName)) (y := (⟨"java/util/ArrayList", "get", "(I)Ljava/lang/Object;"⟩ : MethodName)) (own_w hw 98 rfl) (own_w hw 99 rfl) (own_w hw 100 rfl) (own_w hw 101 rfl) (own_w hw 102 rfl) (own_w hw 103 rfl) (own_w hw 104 rfl) (own_w hw 95 rfl) (own_w hw 2 rfl) rfl (own_w hw 105 rfl) (by decide) e14 0 (by decide) (by decide) (by decide) (by decide) (argsL := [(.int (0 : Int32))]) (rest := []) (lenOf pd__I_Ljava_lang_Object_ rfl) rfl (Nat.le_of_eq rfl) (El.keep K14) (rmG0 l Z a0 hw li es x0 (4 : Int32) (.ref x1) (.ref x2) (.ref x3) .null .null .null .null .null .null h14 (by decide) (El.keep K14) (Fs.keep K14 nin_li) (Fe.keep K14 nin_li) (V.keep K14 nin_es)) d_57_1__67 (pc' := 72) rfl ?_
  intro v26 T26 L26 X26 hQ26
  obtain ⟨rfl, rfl, e26⟩ := hQ26
  rw [List.append_nil] at X26
  replace e26 : T26.heap = h14 := e26
  show GoP p e below Φ (T26.setTop (mkF m 72 #[.val (.ref a), .val (.int n), .val (.int (0 : Int32)), .val (.int (0 : Int32)), .val (.ref li), .val (.int (4 : Int32)), .val (.ref b3), .val (.ref b14), .val (.int (0 : Int32)), .unset, .unset, .unset] [(.ref x0)]))
  obtain ⟨T27, X27, e27, st27⟩ := castY X26 hx hZ hown (own_w hw 119 rfl) e26 (Ins.self (x0_0.keep K14)) (g := (mkF m 72 #[.val (.ref a), .val (.int n), .val (.int (0 : Int32)), .val (.int (0 : Int32)), .val (.ref li), .val (.int (4 : Int32)), .val (.ref b3), .val (.ref b14), .val (.int (0 : Int32)), .unset, .unset, .unset] [(.ref x0)])) rfl rfl (hb hby d_57_1__72)
  refine own_step st27 ?_
  show GoP p e below Φ (T27.setTop (mkF m 75 #[.val (.ref a), .val (.int n), .val (.int (0 : Int32)), .val (.int (0 : Int32)), .val (.ref li), .val (.int (4 : Int32)), .val (.ref b3), .val (.ref b14), .val (.int (0 : Int32)), .unset, .unset, .unset] [(.ref x0)]))
  refine own_astore X27 hx hby d_57_1__75 rfl (Ls' := #[.val (.ref a), .val (.int n), .val (.int (0 : Int32)), .val (.int (0 : Int32)), .val (.ref li), .val (.int (4 : Int32)), .val (.ref b3), .val (.ref b14), .val (.int (0 : Int32)), .val (.ref x0), .unset, .unset]) rfl (pc' := 77) rfl ?_
  refine own_aload X27 hx hby d_57_1__77 rfl rfl (pc' := 79) rfl ?_
  refine own_callV X27 hx hby hZ (by exact hml) hown (own_w hw 121 rfl) (own_w hw 122 rfl) (own_w hw 124 rfl) (own_w hw 123 rfl) (own_w hw 28 rfl) (own_w hw 125 rfl) (by decide) e27 0 (by decide) (by decide) (by decide) (by decide) (argsL := []) (rest := []) (lenOf pd___D rfl) rfl (Nat.le_of_eq rfl) (x0_0.keep K14) (rmL_capacity l Z a0 hw x0 FP.dconst1 h14 (x0_3.keep K14 nin_x0)) d_57_1__79 (pc' := 82) rfl ?_
  intro v28 T28 L28 X28 hQ28
  obtain ⟨rfl, rfl, e28⟩ := hQ28
  rw [List.append_nil] at X28
  replace e28 : T28.heap = h14 := e28
  show GoP p e below Φ (T28.setTop (mkF m 82 #[.val (.ref a), .val (.int n), .val (.int (0 : Int32)), .val (.int (0 : Int32)), .val (.ref li), .val (.int (4 : Int32)), .val (.ref b3), .val (.ref b14), .val (.int (0 : Int32)), .val (.ref x0), .unset, .unset] [(.double FP.dconst1)]))
  refine own_dconst0 X28 hx hby d_57_1__82 (pc' := 83) rfl ?_
  refine own_dcmp X28 hx hby d_57_1__83 own_dc10l (pc' := 84) rfl ?_
  refine own_ifN X28 hx hby d_57_1__84 ((if0 _ _).trans (tlt (by decide)).2.2.2) (pc' := 87) rfl ?_
  refine own_aload X28 hx hby d_57_1__87 rfl rfl (pc' := 89) rfl ?_
  refine own_callV X28 hx hby hZ (by exact hml) hown (own_w hw 126 rfl) (own_w hw 127 rfl) (own_w hw 129 rfl) (own_w hw 128 rfl) (own_w hw 28 rfl) (own_w hw 130 rfl) (by decide) e28 0 (by decide) (by decide) (by decide) (by decide) (argsL := []) (rest := []) (lenOf pd___D rfl) rfl (Nat.le_of_eq rfl) (x0_0.keep K14) (rmL_freeFlowTime l Z a0 hw x0 FP.dconst0 h14 (x0_4.keep K14 nin_x0)) d_57_1__89 (pc' := 92) rfl ?_
  intro v29 T29 L29 X29 hQ29
  obtain ⟨rfl, rfl, e29⟩ := hQ29
  rw [List.append_nil] at X29
  replace e29 : T29.heap = h14 := e29
  show GoP p e below Φ (T29.setTop (mkF m 92 #[.val (.ref a), .val (.int n), .val (.int (0 : Int32)), .val (.int (0 : Int32)), .val (.ref li), .val (.int (4 : Int32)), .val (.ref b3), .val (.ref b14), .val (.int (0 : Int32)), .val (.ref x0), .unset, .unset] [(.double FP.dconst0)]))
  refine own_dconst0 X29 hx hby d_57_1__92 (pc' := 93) rfl ?_
  refine own_dcmp X29 hx hby d_57_1__93 own_dc00l (pc' := 94) rfl ?_
  refine own_ifN X29 hx hby d_57_1__94 ((if0 _ _).trans (flt (by decide)).1) (pc' := 97) rfl ?_
  refine own_aload X29 hx hby d_57_1__97 rfl rfl (pc' := 99) rfl ?_
  refine own_callV X29 hx hby hZ (by exact hml) hown (own_w hw 131 rfl) (own_w hw 132 rfl) (own_w hw 134 rfl) (own_w hw 133 rfl) (own_w hw 28 rfl) (own_w hw 135 rfl) (by decide) e29 0 (by decide) (by decide) (by decide) (by decide) (argsL := []) (rest := []) (lenOf pd___D rfl) rfl (Nat.le_of_eq rfl) (x0_0.keep K14) (rmL_b l Z a0 hw x0 FP.dconst0 h14 (x0_5.keep K14 nin_x0)) d_57_1__99 (pc' := 102) rfl ?_
  intro v30 T30 L30 X30 hQ30
  obtain ⟨rfl, rfl, e30⟩ := hQ30
  rw [List.append_nil] at X30
  replace e30 : T30.heap = h14 := e30
  show GoP p e below Φ (T30.setTop (mkF m 102 #[.val (.ref a), .val (.int n), .val (.int (0 : Int32)), .val (.int (0 : Int32)), .val (.ref li), .val (.int (4 : Int32)), .val (.ref b3), .val (.ref b14), .val (.int (0 : Int32)), .val (.ref x0), .unset, .unset] [(.double FP.dconst0)]))
  refine own_dconst0 X30 hx hby d_57_1__102 (pc' := 103) rfl ?_
  refine own_dcmp X30 hx hby d_57_1__103 own_dc00l (pc' := 104) rfl ?_
  refine own_ifN X30 hx hby d_57_1__104 ((if0 _ _).trans (flt (by decide)).1) (pc' := 107) rfl ?_
  refine own_aload X30 hx hby d_57_1__107 rfl rfl (pc' := 109) rfl ?_
  refine own_callV X30 hx hby hZ (by exact hml) hown (own_w hw 136 rfl) (own_w hw 137 rfl) (own_w hw 139 rfl) (own_w hw 138 rfl) (own_w hw 28 rfl) (own_w hw 140 rfl) (by decide) e30 0 (by decide) (by decide) (by decide) (by decide) (argsL := []) (rest := []) (lenOf pd___D rfl) rfl (Nat.le_of_eq rfl) (x0_0.keep K14) (rmL_power l Z a0 hw x0 FP.dconst0 h14 (x0_6.keep K14 nin_x0)) d_57_1__109 (pc' := 112) rfl ?_
  intro v31 T31 L31 X31 hQ31
  obtain ⟨rfl, rfl, e31⟩ := hQ31
  rw [List.append_nil] at X31
  replace e31 : T31.heap = h14 := e31
  show GoP p e below Φ (T31.setTop (mkF m 112 #[.val (.ref a), .val (.int n), .val (.int (0 : Int32)), .val (.int (0 : Int32)), .val (.ref li), .val (.int (4 : Int32)), .val (.ref b3), .val (.ref b14), .val (.int (0 : Int32)), .val (.ref x0), .unset, .unset] [(.double FP.dconst0)]))
  refine own_dconst0 X31 hx hby d_57_1__112 (pc' := 113) rfl ?_
  refine own_dcmp X31 hx hby d_57_1__113 own_dc00l (pc' := 114) rfl ?_
  refine own_ifY X31 hx hby d_57_1__114 ((if0 _ _).trans (teq (by decide)).1) (by decide) (pc' := 147) (by decide) ?_
  refine own_aload X31 hx hby d_57_1__147 rfl rfl (pc' := 149) rfl ?_
  refine own_iload X31 hx hby d_57_1__149 rfl (pc' := 151) rfl ?_
  refine own_aload X31 hx hby d_57_1__151 rfl rfl (pc' := 153) rfl ?_
  refine own_callV X31 hx hby hZ (by exact hml) hown (own_w hw 141 rfl) (own_w hw 142 rfl) (own_w hw 144 rfl) (own_w hw 143 rfl) (own_w hw 28 rfl) (own_w hw 145 rfl) (by decide) e31 2 (by decide) (by decide) (by decide) (by decide) (argsL := []) (rest := [(.int (0 : Int32)), (.ref b3)]) (lenOf pd___I rfl) rfl (Nat.le_of_eq rfl) (x0_0.keep K14) (rmL_tail l Z a0 hw x0 t0 h14 (x0_1.keep K14 nin_x0)) d_57_1__153 (pc' := 156) rfl ?_
  intro v32 T32 L32 X32 hQ32
  obtain ⟨rfl, rfl, e32⟩ := hQ32
  rw [List.append_nil] at X32
  replace e32 : T32.heap = h14 := e32
  show GoP p e below Φ (T32.setTop (mkF m 156 #[.val (.ref a), .val (.int n), .val (.int (0 : Int32)), .val (.int (0 : Int32)), .val (.ref li), .val (.int (4 : Int32)), .val (.ref b3), .val (.ref b14), .val (.int (0 : Int32)), .val (.ref x0), .unset, .unset] [(.int t0), (.int (0 : Int32)), (.ref b3)]))
  refine own_iastore X32 hx hby hZ e32 V25_b3 (by decide) (Nat.le_of_ble_eq_true rfl) d_57_1__156 (pc' := 157) rfl ?_
  intro T33 h33 X33 e33 W33 V33
  replace V33 : AV Z h33 b3 .int [(.int t0), (.int (0 : Int32)), (.int (0 : Int32)), (.int (0 : Int32))] := V33
  have E34_a := E15_a.wr W33
  have F35_graph := F16_graph.other W33 (Or.inl ne_a_b3)
  have F36_zoneCount := F17_zoneCount.other W33 (Or.inl ne_a_b3)
  have F37_firstThruNode := F18_firstThruNode.other W33 (Or.inl ne_a_b3)
  have F38_linkTail := F19_linkTail.other W33 (Or.inl ne_a_b3)
  have F39_linkArc := F20_linkArc.other W33 (Or.inl ne_a_b3)
  have F40_capacity := F21_capacity.other W33 (Or.inl ne_a_b3)
  have F41_freeFlowTime := F22_freeFlowTime.other W33 (Or.inl ne_a_b3)
  have F42_b := F23_b.other W33 (Or.inl ne_a_b3)
  have F43_power := F24_power.other W33 (Or.inl ne_a_b3)
  have V45_b14 := V14.other W33 (Ne.symm ne_b3_b14)
  have Z33 : n0 ≤ h33.size := by rw [W33.size]; exact Z14
  have N33 := Fr.snoc X33 N0 n0_b3
  have K33 : Keep h0 h33 [a] := K14.wr W33 (Or.inr sz_b3)
  refine own_aload X33 hx hby d_57_1__157 rfl rfl (pc' := 159) rfl ?_
  refine own_iload X33 hx hby d_57_1__159 rfl (pc' := 161) rfl ?_
  refine own_aload X33 hx hby d_57_1__161 rfl rfl (pc' := 163) rfl ?_
  refine own_callV X33 hx hby hZ (by exact hml) hown (own_w hw 146 rfl) (own_w hw 147 rfl) (own_w hw 149 rfl) (own_w hw 148 rfl) (own_w hw 28 rfl) (own_w hw 150 rfl) (by decide) e33 2 (by decide) (by decide) (by decide) (by decide) (argsL := []) (rest := [(.int (0 : Int32)), (.ref b14)]) (lenOf pd___I rfl) rfl (Nat.le_of_eq rfl) (x0_0.keep K33) (rmL_head l Z a0 hw x0 y0 h33 (x0_2.keep K33 nin_x0)) d_57_1__163 (pc' := 166) rfl ?_
  intro v46 T46 L46 X46 hQ46
  obtain ⟨rfl, rfl, e46⟩ := hQ46
  rw [List.append_nil] at X46
  replace e46 : T46.heap = h33 := e46
  show GoP p e below Φ (T46.setTop (mkF m 166 #[.val (.ref a), .val (.int n), .val (.int (0 : Int32)), .val (.int (0 : Int32)), .val (.ref li), .val (.int (4 : Int32)), .val (.ref b3), .val (.ref b14), .val (.int (0 : Int32)), .val (.ref x0), .unset, .unset] [(.int y0), (.int (0 : Int32)), (.ref b14)]))
  refine own_iastore X46 hx hby hZ e46 V45_b14 (by decide) (Nat.le_of_ble_eq_true rfl) d_57_1__166 (pc' := 167) rfl ?_
  intro T47 h47 X47 e47 W47 V47
  replace V47 : AV Z h47 b14 .int [(.int y0), (.int (0 : Int32)), (.int (0 : Int32)), (.int (0 : Int32))] := V47
  have E48_a := E34_a.wr W47
  have F49_graph := F35_graph.other W47 (Or.inl ne_a_b14)
  have F50_zoneCount := F36_zoneCount.other W47 (Or.inl ne_a_b14)
  have F51_firstThruNode := F37_firstThruNode.other W47 (Or.inl ne_a_b14)
  have F52_linkTail := F38_linkTail.other W47 (Or.inl ne_a_b14)
  have F53_linkArc := F39_linkArc.other W47 (Or.inl ne_a_b14)
  have F54_capacity := F40_capacity.other W47 (Or.inl ne_a_b14)
  have F55_freeFlowTime := F41_freeFlowTime.other W47 (Or.inl ne_a_b14)
  have F56_b := F42_b.other W47 (Or.inl ne_a_b14)
  have F57_power := F43_power.other W47 (Or.inl ne_a_b14)
  have V58_b3 := V33.other W47 ne_b3_b14
  have Z47 : n0 ≤ h47.size := by rw [W47.size]; exact Z33
  have N47 := Fr.snoc X47 N33 n0_b14
  have K47 : Keep h0 h47 [a] := K33.wr W47 (Or.inr sz_b14)
  refine own_iinc X47 hx hby d_57_1__167 rfl (v := (1 : Int32)) rfl (Ls' := #[.val (.ref a), .val (.int n), .val (.int (0 : Int32)), .val (.int (0 : Int32)), .val (.ref li), .val (.int (4 : Int32)), .val (.ref b3), .val (.ref b14), .val (.int (1 : Int32)), .val (.ref x0), .unset, .unset]) rfl (pc' := 170) rfl ?_
  refine own_goto X47 hx hby d_57_1__170 (by decide) (pc' := 56) (by decide) ?_
  refine own_iload X47 hx hby d_57_1__56 rfl (pc' := 58) rfl ?_
  refine own_iload X47 hx hby d_57_1__58 rfl (pc' := 60) rfl ?_
  refine own_icmpN X47 hx hby d_57_1__60 (tlt (by decide)).2.1 (pc' := 63) rfl ?_
  refine own_aload X47 hx hby d_57_1__63 rfl rfl (pc' := 65) rfl ?_
  refine own_iload X47 hx hby d_57_1__65 rfl (pc' := 67) rfl ?_
  refine own_callF X47 hx hby hZ (by exact hml) hown (x0 := (⟨"java/util/List", "get", "(I)Ljava/lang/Object;"⟩ : MethodName)) (y := (⟨"java/util/ArrayList", "get", "(I)Ljava/lang/Object;"⟩ : MethodName)) (own_w hw 98 rfl) (own_w hw 99 rfl) (own_w hw 100 rfl) (own_w hw 101 rfl) (own_w hw 102 rfl) (own_w hw 103 rfl) (own_w hw 104 rfl) (own_w hw 95 rfl) (own_w hw 2 rfl) rfl (own_w hw 105 rfl) (by decide) e47 0 (by decide) (by decide) (by decide) (by decide) (argsL := [(.int (1 : Int32))]) (rest := []) (lenOf pd__I_Ljava_lang_Object_ rfl) rfl (Nat.le_of_eq rfl) (El.keep K47) (rmG1 l Z a0 hw li es x1 (4 : Int32) (.ref x0) (.ref x2) (.ref x3) .null .null .null .null .null .null h47 (by decide) (El.keep K47) (Fs.keep K47 nin_li) (Fe.keep K47 nin_li) (V.keep K47 nin_es)) d_57_1__67 (pc' := 72) rfl ?_
  intro v60 T60 L60 X60 hQ60
  obtain ⟨rfl, rfl, e60⟩ := hQ60
  rw [List.append_nil] at X60
  replace e60 : T60.heap = h47 := e60
  show GoP p e below Φ (T60.setTop (mkF m 72 #[.val (.ref a), .val (.int n), .val (.int (0 : Int32)), .val (.int (0 : Int32)), .val (.ref li), .val (.int (4 : Int32)), .val (.ref b3), .val (.ref b14), .val (.int (1 : Int32)), .val (.ref x0), .unset, .unset] [(.ref x1)]))
  obtain ⟨T61, X61, e61, st61⟩ := castY X60 hx hZ hown (own_w hw 119 rfl) e60 (Ins.self (x1_0.keep K47)) (g := (mkF m 72 #[.val (.ref a), .val (.int n), .val (.int (0 : Int32)), .val (.int (0 : Int32)), .val (.ref li), .val (.int (4 : Int32)), .val (.ref b3), .val (.ref b14), .val (.int (1 : Int32)), .val (.ref x0), .unset, .unset] [(.ref x1)])) rfl rfl (hb hby d_57_1__72)
  refine own_step st61 ?_
  show GoP p e below Φ (T61.setTop (mkF m 75 #[.val (.ref a), .val (.int n), .val (.int (0 : Int32)), .val (.int (0 : Int32)), .val (.ref li), .val (.int (4 : Int32)), .val (.ref b3), .val (.ref b14), .val (.int (1 : Int32)), .val (.ref x0), .unset, .unset] [(.ref x1)]))
  refine own_astore X61 hx hby d_57_1__75 rfl (Ls' := #[.val (.ref a), .val (.int n), .val (.int (0 : Int32)), .val (.int (0 : Int32)), .val (.ref li), .val (.int (4 : Int32)), .val (.ref b3), .val (.ref b14), .val (.int (1 : Int32)), .val (.ref x1), .unset, .unset]) rfl (pc' := 77) rfl ?_
  refine own_aload X61 hx hby d_57_1__77 rfl rfl (pc' := 79) rfl ?_
  refine own_callV X61 hx hby hZ (by exact hml) hown (own_w hw 121 rfl) (own_w hw 122 rfl) (own_w hw 124 rfl) (own_w hw 123 rfl) (own_w hw 28 rfl) (own_w hw 125 rfl) (by decide) e61 0 (by decide) (by decide) (by decide) (by decide) (argsL := []) (rest := []) (lenOf pd___D rfl) rfl (Nat.le_of_eq rfl) (x1_0.keep K47) (rmL_capacity l Z a0 hw x1 FP.dconst1 h47 (x1_3.keep K47 nin_x1)) d_57_1__79 (pc' := 82) rfl ?_
  intro v62 T62 L62 X62 hQ62
  obtain ⟨rfl, rfl, e62⟩ := hQ62
  rw [List.append_nil] at X62
  replace e62 : T62.heap = h47 := e62
  show GoP p e below Φ (T62.setTop (mkF m 82 #[.val (.ref a), .val (.int n), .val (.int (0 : Int32)), .val (.int (0 : Int32)), .val (.ref li), .val (.int (4 : Int32)), .val (.ref b3), .val (.ref b14), .val (.int (1 : Int32)), .val (.ref x1), .unset, .unset] [(.double FP.dconst1)]))
  refine own_dconst0 X62 hx hby d_57_1__82 (pc' := 83) rfl ?_
  refine own_dcmp X62 hx hby d_57_1__83 own_dc10l (pc' := 84) rfl ?_
  refine own_ifN X62 hx hby d_57_1__84 ((if0 _ _).trans (tlt (by decide)).2.2.2) (pc' := 87) rfl ?_
  refine own_aload X62 hx hby d_57_1__87 rfl rfl (pc' := 89) rfl ?_
  refine own_callV X62 hx hby hZ (by exact hml) hown (own_w hw 126 rfl) (own_w hw 127 rfl) (own_w hw 129 rfl) (own_w hw 128 rfl) (own_w hw 28 rfl) (own_w hw 130 rfl) (by decide) e62 0 (by decide) (by decide) (by decide) (by decide) (argsL := []) (rest := []) (lenOf pd___D rfl) rfl (Nat.le_of_eq rfl) (x1_0.keep K47) (rmL_freeFlowTime l Z a0 hw x1 FP.dconst0 h47 (x1_4.keep K47 nin_x1)) d_57_1__89 (pc' := 92) rfl ?_
  intro v63 T63 L63 X63 hQ63
  obtain ⟨rfl, rfl, e63⟩ := hQ63
  rw [List.append_nil] at X63
  replace e63 : T63.heap = h47 := e63
  show GoP p e below Φ (T63.setTop (mkF m 92 #[.val (.ref a), .val (.int n), .val (.int (0 : Int32)), .val (.int (0 : Int32)), .val (.ref li), .val (.int (4 : Int32)), .val (.ref b3), .val (.ref b14), .val (.int (1 : Int32)), .val (.ref x1), .unset, .unset] [(.double FP.dconst0)]))
  refine own_dconst0 X63 hx hby d_57_1__92 (pc' := 93) rfl ?_
  refine own_dcmp X63 hx hby d_57_1__93 own_dc00l (pc' := 94) rfl ?_
  refine own_ifN X63 hx hby d_57_1__94 ((if0 _ _).trans (flt (by decide)).1) (pc' := 97) rfl ?_
  refine own_aload X63 hx hby d_57_1__97 rfl rfl (pc' := 99) rfl ?_
  refine own_callV X63 hx hby hZ (by exact hml) hown (own_w hw 131 rfl) (own_w hw 132 rfl) (own_w hw 134 rfl) (own_w hw 133 rfl) (own_w hw 28 rfl) (own_w hw 135 rfl) (by decide) e63 0 (by decide) (by decide) (by decide) (by decide) (argsL := []) (rest := []) (lenOf pd___D rfl) rfl (Nat.le_of_eq rfl) (x1_0.keep K47) (rmL_b l Z a0 hw x1 FP.dconst0 h47 (x1_5.keep K47 nin_x1)) d_57_1__99 (pc' := 102) rfl ?_
  intro v64 T64 L64 X64 hQ64
  obtain ⟨rfl, rfl, e64⟩ := hQ64
  rw [List.append_nil] at X64
  replace e64 : T64.heap = h47 := e64
  show GoP p e below Φ (T64.setTop (mkF m 102 #[.val (.ref a), .val (.int n), .val (.int (0 : Int32)), .val (.int (0 : Int32)), .val (.ref li), .val (.int (4 : Int32)), .val (.ref b3), .val (.ref b14), .val (.int (1 : Int32)), .val (.ref x1), .unset, .unset] [(.double FP.dconst0)]))
  refine own_dconst0 X64 hx hby d_57_1__102 (pc' := 103) rfl ?_
  refine own_dcmp X64 hx hby d_57_1__103 own_dc00l (pc' := 104) rfl ?_
  refine own_ifN X64 hx hby d_57_1__104 ((if0 _ _).trans (flt (by decide)).1) (pc' := 107) rfl ?_
  refine own_aload X64 hx hby d_57_1__107 rfl rfl (pc' := 109) rfl ?_
  refine own_callV X64 hx hby hZ (by exact hml) hown (own_w hw 136 rfl) (own_w hw 137 rfl) (own_w hw 139 rfl) (own_w hw 138 rfl) (own_w hw 28 rfl) (own_w hw 140 rfl) (by decide) e64 0 (by decide) (by decide) (by decide) (by decide) (argsL := []) (rest := []) (lenOf pd___D rfl) rfl (Nat.le_of_eq rfl) (x1_0.keep K47) (rmL_power l Z a0 hw x1 FP.dconst0 h47 (x1_6.keep K47 nin_x1)) d_57_1__109 (pc' := 112) rfl ?_
  intro v65 T65 L65 X65 hQ65
  obtain ⟨rfl, rfl, e65⟩ := hQ65
  rw [List.append_nil] at X65
  replace e65 : T65.heap = h47 := e65
  show GoP p e below Φ (T65.setTop (mkF m 112 #[.val (.ref a), .val (.int n), .val (.int (0 : Int32)), .val (.int (0 : Int32)), .val (.ref li), .val (.int (4 : Int32)), .val (.ref b3), .val (.ref b14), .val (.int (1 : Int32)), .val (.ref x1), .unset, .unset] [(.double FP.dconst0)]))
  refine own_dconst0 X65 hx hby d_57_1__112 (pc' := 113) rfl ?_
  refine own_dcmp X65 hx hby d_57_1__113 own_dc00l (pc' := 114) rfl ?_
  refine own_ifY X65 hx hby d_57_1__114 ((if0 _ _).trans (teq (by decide)).1) (by decide) (pc' := 147) (by decide) ?_
  refine own_aload X65 hx hby d_57_1__147 rfl rfl (pc' := 149) rfl ?_
  refine own_iload X65 hx hby d_57_1__149 rfl (pc' := 151) rfl ?_
  refine own_aload X65 hx hby d_57_1__151 rfl rfl (pc' := 153) rfl ?_
  refine own_callV X65 hx hby hZ (by exact hml) hown (own_w hw 141 rfl) (own_w hw 142 rfl) (own_w hw 144 rfl) (own_w hw 143 rfl) (own_w hw 28 rfl) (own_w hw 145 rfl) (by decide) e65 2 (by decide) (by decide) (by decide) (by decide) (argsL := []) (rest := [(.int (1 : Int32)), (.ref b3)]) (lenOf pd___I rfl) rfl (Nat.le_of_eq rfl) (x1_0.keep K47) (rmL_tail l Z a0 hw x1 t1 h47 (x1_1.keep K47 nin_x1)) d_57_1__153 (pc' := 156) rfl ?_
  intro v66 T66 L66 X66 hQ66
  obtain ⟨rfl, rfl, e66⟩ := hQ66
  rw [List.append_nil] at X66
  replace e66 : T66.heap = h47 := e66
  show GoP p e below Φ (T66.setTop (mkF m 156 #[.val (.ref a), .val (.int n), .val (.int (0 : Int32)), .val (.int (0 : Int32)), .val (.ref li), .val (.int (4 : Int32)), .val (.ref b3), .val (.ref b14), .val (.int (1 : Int32)), .val (.ref x1), .unset, .unset] [(.int t1), (.int (1 : Int32)), (.ref b3)]))
  refine own_iastore X66 hx hby hZ e66 V58_b3 (by decide) (Nat.le_of_ble_eq_true rfl) d_57_1__156 (pc' := 157) rfl ?_
  intro T67 h67 X67 e67 W67 V67
  replace V67 : AV Z h67 b3 .int [(.int t0), (.int t1), (.int (0 : Int32)), (.int (0 : Int32))] := V67
  have E68_a := E48_a.wr W67
  have F69_graph := F49_graph.other W67 (Or.inl ne_a_b3)
  have F70_zoneCount := F50_zoneCount.other W67 (Or.inl ne_a_b3)
  have F71_firstThruNode := F51_firstThruNode.other W67 (Or.inl ne_a_b3)
  have F72_linkTail := F52_linkTail.other W67 (Or.inl ne_a_b3)
  have F73_linkArc := F53_linkArc.other W67 (Or.inl ne_a_b3)
  have F74_capacity := F54_capacity.other W67 (Or.inl ne_a_b3)
  have F75_freeFlowTime := F55_freeFlowTime.other W67 (Or.inl ne_a_b3)
  have F76_b := F56_b.other W67 (Or.inl ne_a_b3)
  have F77_power := F57_power.other W67 (Or.inl ne_a_b3)
  have V79_b14 := V47.other W67 (Ne.symm ne_b3_b14)
  have Z67 : n0 ≤ h67.size := by rw [W67.size]; exact Z47
  have N67 := Fr.snoc X67 N47 n0_b3
  have K67 : Keep h0 h67 [a] := K47.wr W67 (Or.inr sz_b3)
  refine own_aload X67 hx hby d_57_1__157 rfl rfl (pc' := 159) rfl ?_
  refine own_iload X67 hx hby d_57_1__159 rfl (pc' := 161) rfl ?_
  refine own_aload X67 hx hby d_57_1__161 rfl rfl (pc' := 163) rfl ?_
  refine own_callV X67 hx hby hZ (by exact hml) hown (own_w hw 146 rfl) (own_w hw 147 rfl) (own_w hw 149 rfl) (own_w hw 148 rfl) (own_w hw 28 rfl) (own_w hw 150 rfl) (by decide) e67 2 (by decide) (by decide) (by decide) (by decide) (argsL := []) (rest := [(.int (1 : Int32)), (.ref b14)]) (lenOf pd___I rfl) rfl (Nat.le_of_eq rfl) (x1_0.keep K67) (rmL_head l Z a0 hw x1 y1 h67 (x1_2.keep K67 nin_x1)) d_57_1__163 (pc' := 166) rfl ?_
  intro v80 T80 L80 X80 hQ80
  obtain ⟨rfl, rfl, e80⟩ := hQ80
  rw [List.append_nil] at X80
  replace e80 : T80.heap = h67 := e80
  show GoP p e below Φ (T80.setTop (mkF m 166 #[.val (.ref a), .val (.int n), .val (.int (0 : Int32)), .val (.int (0 : Int32)), .val (.ref li), .val (.int (4 : Int32)), .val (.ref b3), .val (.ref b14), .val (.int (1 : Int32)), .val (.ref x1), .unset, .unset] [(.int y1), (.int (1 : Int32)), (.ref b14)]))
  refine own_iastore X80 hx hby hZ e80 V79_b14 (by decide) (Nat.le_of_ble_eq_true rfl) d_57_1__166 (pc' := 167) rfl ?_
  intro T81 h81 X81 e81 W81 V81
  replace V81 : AV Z h81 b14 .int [(.int y0), (.int y1), (.int (0 : Int32)), (.int (0 : Int32))] := V81
  have E82_a := E68_a.wr W81
  have F83_graph := F69_graph.other W81 (Or.inl ne_a_b14)
  have F84_zoneCount := F70_zoneCount.other W81 (Or.inl ne_a_b14)
  have F85_firstThruNode := F71_firstThruNode.other W81 (Or.inl ne_a_b14)
  have F86_linkTail := F72_linkTail.other W81 (Or.inl ne_a_b14)
  have F87_linkArc := F73_linkArc.other W81 (Or.inl ne_a_b14)
  have F88_capacity := F74_capacity.other W81 (Or.inl ne_a_b14)
  have F89_freeFlowTime := F75_freeFlowTime.other W81 (Or.inl ne_a_b14)
  have F90_b := F76_b.other W81 (Or.inl ne_a_b14)
  have F91_power := F77_power.other W81 (Or.inl ne_a_b14)
  have V92_b3 := V67.other W81 ne_b3_b14
  have Z81 : n0 ≤ h81.size := by rw [W81.size]; exact Z67
  have N81 := Fr.snoc X81 N67 n0_b14
  have K81 : Keep h0 h81 [a] := K67.wr W81 (Or.inr sz_b14)
  refine own_iinc X81 hx hby d_57_1__167 rfl (v := (1 : Int32)) rfl (Ls' := #[.val (.ref a), .val (.int n), .val (.int (0 : Int32)), .val (.int (0 : Int32)), .val (.ref li), .val (.int (4 : Int32)), .val (.ref b3), .val (.ref b14), .val (.int (2 : Int32)), .val (.ref x1), .unset, .unset]) rfl (pc' := 170) rfl ?_
  refine own_goto X81 hx hby d_57_1__170 (by decide) (pc' := 56) (by decide) ?_
  refine own_iload X81 hx hby d_57_1__56 rfl (pc' := 58) rfl ?_
  refine own_iload X81 hx hby d_57_1__58 rfl (pc' := 60) rfl ?_
  refine own_icmpN X81 hx hby d_57_1__60 (tlt (by decide)).2.1 (pc' := 63) rfl ?_
  refine own_aload X81 hx hby d_57_1__63 rfl rfl (pc' := 65) rfl ?_
  refine own_iload X81 hx hby d_57_1__65 rfl (pc' := 67) rfl ?_
  refine own_callF X81 hx hby hZ (by exact hml) hown (x0 := (⟨"java/util/List", "get", "(I)Ljava/lang/Object;"⟩ : MethodName)) (y := (⟨"java/util/ArrayList", "get", "(I)Ljava/lang/Object;"⟩ : MethodName)) (own_w hw 98 rfl) (own_w hw 99 rfl) (own_w hw 100 rfl) (own_w hw 101 rfl) (own_w hw 102 rfl) (own_w hw 103 rfl) (own_w hw 104 rfl) (own_w hw 95 rfl) (own_w hw 2 rfl) rfl (own_w hw 105 rfl) (by decide) e81 0 (by decide) (by decide) (by decide) (by decide) (argsL := [(.int (2 : Int32))]) (rest := []) (lenOf pd__I_Ljava_lang_Object_ rfl) rfl (Nat.le_of_eq rfl) (El.keep K81) (rmG2 l Z a0 hw li es x2 (4 : Int32) (.ref x0) (.ref x1) (.ref x3) .null .null .null .null .null .null h81 (by decide) (El.keep K81) (Fs.keep K81 nin_li) (Fe.keep K81 nin_li) (V.keep K81 nin_es)) d_57_1__67 (pc' := 72) rfl ?_
  intro v94 T94 L94 X94 hQ94
  obtain ⟨rfl, rfl, e94⟩ := hQ94
  rw [List.append_nil] at X94
  replace e94 : T94.heap = h81 := e94
  show GoP p e below Φ (T94.setTop (mkF m 72 #[.val (.ref a), .val (.int n), .val (.int (0 : Int32)), .val (.int (0 : Int32)), .val (.ref li), .val (.int (4 : Int32)), .val (.ref b3), .val (.ref b14), .val (.int (2 : Int32)), .val (.ref x1), .unset, .unset] [(.ref x2)]))
  obtain ⟨T95, X95, e95, st95⟩ := castY X94 hx hZ hown (own_w hw 119 rfl) e94 (Ins.self (x2_0.keep K81)) (g := (mkF m 72 #[.val (.ref a), .val (.int n), .val (.int (0 : Int32)), .val (.int (0 : Int32)), .val (.ref li), .val (.int (4 : Int32)), .val (.ref b3), .val (.ref b14), .val (.int (2 : Int32)), .val (.ref x1), .unset, .unset] [(.ref x2)])) rfl rfl (hb hby d_57_1__72)
  refine own_step st95 ?_
  show GoP p e below Φ (T95.setTop (mkF m 75 #[.val (.ref a), .val (.int n), .val (.int (0 : Int32)), .val (.int (0 : Int32)), .val (.ref li), .val (.int (4 : Int32)), .val (.ref b3), .val (.ref b14), .val (.int (2 : Int32)), .val (.ref x1), .unset, .unset] [(.ref x2)]))
  refine own_astore X95 hx hby d_57_1__75 rfl (Ls' := #[.val (.ref a), .val (.int n), .val (.int (0 : Int32)), .val (.int (0 : Int32)), .val (.ref li), .val (.int (4 : Int32)), .val (.ref b3), .val (.ref b14), .val (.int (2 : Int32)), .val (.ref x2), .unset, .unset]) rfl (pc' := 77) rfl ?_
  refine own_aload X95 hx hby d_57_1__77 rfl rfl (pc' := 79) rfl ?_
  refine own_callV X95 hx hby hZ (by exact hml) hown (own_w hw 121 rfl) (own_w hw 122 rfl) (own_w hw 124 rfl) (own_w hw 123 rfl) (own_w hw 28 rfl) (own_w hw 125 rfl) (by decide) e95 0 (by decide) (by decide) (by decide) (by decide) (argsL := []) (rest := []) (lenOf pd___D rfl) rfl (Nat.le_of_eq rfl) (x2_0.keep K81) (rmL_capacity l Z a0 hw x2 FP.dconst1 h81 (x2_3.keep K81 nin_x2)) d_57_1__79 (pc' := 82) rfl ?_
  intro v96 T96 L96 X96 hQ96
  obtain ⟨rfl, rfl, e96⟩ := hQ96
  rw [List.append_nil] at X96
  replace e96 : T96.heap = h81 := e96
  show GoP p e below Φ (T96.setTop (mkF m 82 #[.val (.ref a), .val (.int n), .val (.int (0 : Int32)), .val (.int (0 : Int32)), .val (.ref li), .val (.int (4 : Int32)), .val (.ref b3), .val (.ref b14), .val (.int (2 : Int32)), .val (.ref x2), .unset, .unset] [(.double FP.dconst1)]))
  refine own_dconst0 X96 hx hby d_57_1__82 (pc' := 83) rfl ?_
  refine own_dcmp X96 hx hby d_57_1__83 own_dc10l (pc' := 84) rfl ?_
  refine own_ifN X96 hx hby d_57_1__84 ((if0 _ _).trans (tlt (by decide)).2.2.2) (pc' := 87) rfl ?_
  refine own_aload X96 hx hby d_57_1__87 rfl rfl (pc' := 89) rfl ?_
  refine own_callV X96 hx hby hZ (by exact hml) hown (own_w hw 126 rfl) (own_w hw 127 rfl) (own_w hw 129 rfl) (own_w hw 128 rfl) (own_w hw 28 rfl) (own_w hw 130 rfl) (by decide) e96 0 (by decide) (by decide) (by decide) (by decide) (argsL := []) (rest := []) (lenOf pd___D rfl) rfl (Nat.le_of_eq rfl) (x2_0.keep K81) (rmL_freeFlowTime l Z a0 hw x2 FP.dconst0 h81 (x2_4.keep K81 nin_x2)) d_57_1__89 (pc' := 92) rfl ?_
  intro v97 T97 L97 X97 hQ97
  obtain ⟨rfl, rfl, e97⟩ := hQ97
  rw [List.append_nil] at X97
  replace e97 : T97.heap = h81 := e97
  show GoP p e below Φ (T97.setTop (mkF m 92 #[.val (.ref a), .val (.int n), .val (.int (0 : Int32)), .val (.int (0 : Int32)), .val (.ref li), .val (.int (4 : Int32)), .val (.ref b3), .val (.ref b14), .val (.int (2 : Int32)), .val (.ref x2), .unset, .unset] [(.double FP.dconst0)]))
  refine own_dconst0 X97 hx hby d_57_1__92 (pc' := 93) rfl ?_
  refine own_dcmp X97 hx hby d_57_1__93 own_dc00l (pc' := 94) rfl ?_
  refine own_ifN X97 hx hby d_57_1__94 ((if0 _ _).trans (flt (by decide)).1) (pc' := 97) rfl ?_
  refine own_aload X97 hx hby d_57_1__97 rfl rfl (pc' := 99) rfl ?_
  refine own_callV X97 hx hby hZ (by exact hml) hown (own_w hw 131 rfl) (own_w hw 132 rfl) (own_w hw 134 rfl) (own_w hw 133 rfl) (own_w hw 28 rfl) (own_w hw 135 rfl) (by decide) e97 0 (by decide) (by decide) (by decide) (by decide) (argsL := []) (rest := []) (lenOf pd___D rfl) rfl (Nat.le_of_eq rfl) (x2_0.keep K81) (rmL_b l Z a0 hw x2 FP.dconst0 h81 (x2_5.keep K81 nin_x2)) d_57_1__99 (pc' := 102) rfl ?_
  intro v98 T98 L98 X98 hQ98
  obtain ⟨rfl, rfl, e98⟩ := hQ98
  rw [List.append_nil] at X98
  replace e98 : T98.heap = h81 := e98
  show GoP p e below Φ (T98.setTop (mkF m 102 #[.val (.ref a), .val (.int n), .val (.int (0 : Int32)), .val (.int (0 : Int32)), .val (.ref li), .val (.int (4 : Int32)), .val (.ref b3), .val (.ref b14), .val (.int (2 : Int32)), .val (.ref x2), .unset, .unset] [(.double FP.dconst0)]))
  refine own_dconst0 X98 hx hby d_57_1__102 (pc' := 103) rfl ?_
  refine own_dcmp X98 hx hby d_57_1__103 own_dc00l (pc' := 104) rfl ?_
  refine own_ifN X98 hx hby d_57_1__104 ((if0 _ _).trans (flt (by decide)).1) (pc' := 107) rfl ?_
  refine own_aload X98 hx hby d_57_1__107 rfl rfl (pc' := 109) rfl ?_
  refine own_callV X98 hx hby hZ (by exact hml) hown (own_w hw 136 rfl) (own_w hw 137 rfl) (own_w hw 139 rfl) (own_w hw 138 rfl) (own_w hw 28 rfl) (own_w hw 140 rfl) (by decide) e98 0 (by decide) (by decide) (by decide) (by decide) (argsL := []) (rest := []) (lenOf pd___D rfl) rfl (Nat.le_of_eq rfl) (x2_0.keep K81) (rmL_power l Z a0 hw x2 FP.dconst0 h81 (x2_6.keep K81 nin_x2)) d_57_1__109 (pc' := 112) rfl ?_
  intro v99 T99 L99 X99 hQ99
  obtain ⟨rfl, rfl, e99⟩ := hQ99
  rw [List.append_nil] at X99
  replace e99 : T99.heap = h81 := e99
  show GoP p e below Φ (T99.setTop (mkF m 112 #[.val (.ref a), .val (.int n), .val (.int (0 : Int32)), .val (.int (0 : Int32)), .val (.ref li), .val (.int (4 : Int32)), .val (.ref b3), .val (.ref b14), .val (.int (2 : Int32)), .val (.ref x2), .unset, .unset] [(.double FP.dconst0)]))
  refine own_dconst0 X99 hx hby d_57_1__112 (pc' := 113) rfl ?_
  refine own_dcmp X99 hx hby d_57_1__113 own_dc00l (pc' := 114) rfl ?_
  refine own_ifY X99 hx hby d_57_1__114 ((if0 _ _).trans (teq (by decide)).1) (by decide) (pc' := 147) (by decide) ?_
  refine own_aload X99 hx hby d_57_1__147 rfl rfl (pc' := 149) rfl ?_
  refine own_iload X99 hx hby d_57_1__149 rfl (pc' := 151) rfl ?_
  refine own_aload X99 hx hby d_57_1__151 rfl rfl (pc' := 153) rfl ?_
  refine own_callV X99 hx hby hZ (by exact hml) hown (own_w hw 141 rfl) (own_w hw 142 rfl) (own_w hw 144 rfl) (own_w hw 143 rfl) (own_w hw 28 rfl) (own_w hw 145 rfl) (by decide) e99 2 (by decide) (by decide) (by decide) (by decide) (argsL := []) (rest := [(.int (2 : Int32)), (.ref b3)]) (lenOf pd___I rfl) rfl (Nat.le_of_eq rfl) (x2_0.keep K81) (rmL_tail l Z a0 hw x2 t2 h81 (x2_1.keep K81 nin_x2)) d_57_1__153 (pc' := 156) rfl ?_
  intro v100 T100 L100 X100 hQ100
  obtain ⟨rfl, rfl, e100⟩ := hQ100
  rw [List.append_nil] at X100
  replace e100 : T100.heap = h81 := e100
  show GoP p e below Φ (T100.setTop (mkF m 156 #[.val (.ref a), .val (.int n), .val (.int (0 : Int32)), .val (.int (0 : Int32)), .val (.ref li), .val (.int (4 : Int32)), .val (.ref b3), .val (.ref b14), .val (.int (2 : Int32)), .val (.ref x2), .unset, .unset] [(.int t2), (.int (2 : Int32)), (.ref b3)]))
  refine own_iastore X100 hx hby hZ e100 V92_b3 (by decide) (Nat.le_of_ble_eq_true rfl) d_57_1__156 (pc' := 157) rfl ?_
  intro T101 h101 X101 e101 W101 V101
  replace V101 : AV Z h101 b3 .int [(.int t0), (.int t1), (.int t2), (.int (0 : Int32))] := V101
  have E102_a := E82_a.wr W101
  have F103_graph := F83_graph.other W101 (Or.inl ne_a_b3)
  have F104_zoneCount := F84_zoneCount.other W101 (Or.inl ne_a_b3)
  have F105_firstThruNode := F85_firstThruNode.other W101 (Or.inl ne_a_b3)
  have F106_linkTail := F86_linkTail.other W101 (Or.inl ne_a_b3)
  have F107_linkArc := F87_linkArc.other W101 (Or.inl ne_a_b3)
  have F108_capacity := F88_capacity.other W101 (Or.inl ne_a_b3)
  have F109_freeFlowTime := F89_freeFlowTime.other W101 (Or.inl ne_a_b3)
  have F110_b := F90_b.other W101 (Or.inl ne_a_b3)
  have F111_power := F91_power.other W101 (Or.inl ne_a_b3)
  have V113_b14 := V81.other W101 (Ne.symm ne_b3_b14)
  have Z101 : n0 ≤ h101.size := by rw [W101.size]; exact Z81
  have N101 := Fr.snoc X101 N81 n0_b3
  have K101 : Keep h0 h101 [a] := K81.wr W101 (Or.inr sz_b3)
  refine own_aload X101 hx hby d_57_1__157 rfl rfl (pc' := 159) rfl ?_
  refine own_iload X101 hx hby d_57_1__159 rfl (pc' := 161) rfl ?_
  refine own_aload X101 hx hby d_57_1__161 rfl rfl (pc' := 163) rfl ?_
  refine own_callV X101 hx hby hZ (by exact hml) hown (own_w hw 146 rfl) (own_w hw 147 rfl) (own_w hw 149 rfl) (own_w hw 148 rfl) (own_w hw 28 rfl) (own_w hw 150 rfl) (by decide) e101 2 (by decide) (by decide) (by decide) (by decide) (argsL := []) (rest := [(.int (2 : Int32)), (.ref b14)]) (lenOf pd___I rfl) rfl (Nat.le_of_eq rfl) (x2_0.keep K101) (rmL_head l Z a0 hw x2 y2 h101 (x2_2.keep K101 nin_x2)) d_57_1__163 (pc' := 166) rfl ?_
  intro v114 T114 L114 X114 hQ114
  obtain ⟨rfl, rfl, e114⟩ := hQ114
  rw [List.append_nil] at X114
  replace e114 : T114.heap = h101 := e114
  show GoP p e below Φ (T114.setTop (mkF m 166 #[.val (.ref a), .val (.int n), .val (.int (0 : Int32)), .val (.int (0 : Int32)), .val (.ref li), .val (.int (4 : Int32)), .val (.ref b3), .val (.ref b14), .val (.int (2 : Int32)), .val (.ref x2), .unset, .unset] [(.int y2), (.int (2 : Int32)), (.ref b14)]))
  refine own_iastore X114 hx hby hZ e114 V113_b14 (by decide) (Nat.le_of_ble_eq_true rfl) d_57_1__166 (pc' := 167) rfl ?_
  intro T115 h115 X115 e115 W115 V115
  replace V115 : AV Z h115 b14 .int [(.int y0), (.int y1), (.int y2), (.int (0 : Int32))] := V115
  have E116_a := E102_a.wr W115
  have F117_graph := F103_graph.other W115 (Or.inl ne_a_b14)
  have F118_zoneCount := F104_zoneCount.other W115 (Or.inl ne_a_b14)
  have F119_firstThruNode := F105_firstThruNode.other W115 (Or.inl ne_a_b14)
  have F120_linkTail := F106_linkTail.other W115 (Or.inl ne_a_b14)
  have F121_linkArc := F107_linkArc.other W115 (Or.inl ne_a_b14)
  have F122_capacity := F108_capacity.other W115 (Or.inl ne_a_b14)
  have F123_freeFlowTime := F109_freeFlowTime.other W115 (Or.inl ne_a_b14)
  have F124_b := F110_b.other W115 (Or.inl ne_a_b14)
  have F125_power := F111_power.other W115 (Or.inl ne_a_b14)
  have V126_b3 := V101.other W115 ne_b3_b14
  have Z115 : n0 ≤ h115.size := by rw [W115.size]; exact Z101
  have N115 := Fr.snoc X115 N101 n0_b14
  have K115 : Keep h0 h115 [a] := K101.wr W115 (Or.inr sz_b14)
  refine own_iinc X115 hx hby d_57_1__167 rfl (v := (1 : Int32)) rfl (Ls' := #[.val (.ref a), .val (.int n), .val (.int (0 : Int32)), .val (.int (0 : Int32)), .val (.ref li), .val (.int (4 : Int32)), .val (.ref b3), .val (.ref b14), .val (.int (3 : Int32)), .val (.ref x2), .unset, .unset]) rfl (pc' := 170) rfl ?_
  refine own_goto X115 hx hby d_57_1__170 (by decide) (pc' := 56) (by decide) ?_
  refine own_iload X115 hx hby d_57_1__56 rfl (pc' := 58) rfl ?_
  refine own_iload X115 hx hby d_57_1__58 rfl (pc' := 60) rfl ?_
  refine own_icmpN X115 hx hby d_57_1__60 (tlt (by decide)).2.1 (pc' := 63) rfl ?_
  refine own_aload X115 hx hby d_57_1__63 rfl rfl (pc' := 65) rfl ?_
  refine own_iload X115 hx hby d_57_1__65 rfl (pc' := 67) rfl ?_
  refine own_callF X115 hx hby hZ (by exact hml) hown (x0 := (⟨"java/util/List", "get", "(I)Ljava/lang/Object;"⟩ : MethodName)) (y := (⟨"java/util/ArrayList", "get", "(I)Ljava/lang/Object;"⟩ : MethodName)) (own_w hw 98 rfl) (own_w hw 99 rfl) (own_w hw 100 rfl) (own_w hw 101 rfl) (own_w hw 102 rfl) (own_w hw 103 rfl) (own_w hw 104 rfl) (own_w hw 95 rfl) (own_w hw 2 rfl) rfl (own_w hw 105 rfl) (by decide) e115 0 (by decide) (by decide) (by decide) (by decide) (argsL := [(.int (3 : Int32))]) (rest := []) (lenOf pd__I_Ljava_lang_Object_ rfl) rfl (Nat.le_of_eq rfl) (El.keep K115) (rmG3 l Z a0 hw li es x3 (4 : Int32) (.ref x0) (.ref x1) (.ref x2) .null .null .null .null .null .null h115 (by decide) (El.keep K115) (Fs.keep K115 nin_li) (Fe.keep K115 nin_li) (V.keep K115 nin_es)) d_57_1__67 (pc' := 72) rfl ?_
  intro v128 T128 L128 X128 hQ128
  obtain ⟨rfl, rfl, e128⟩ := hQ128
  rw [List.append_nil] at X128
  replace e128 : T128.heap = h115 := e128
  show GoP p e below Φ (T128.setTop (mkF m 72 #[.val (.ref a), .val (.int n), .val (.int (0 : Int32)), .val (.int (0 : Int32)), .val (.ref li), .val (.int (4 : Int32)), .val (.ref b3), .val (.ref b14), .val (.int (3 : Int32)), .val (.ref x2), .unset, .unset] [(.ref x3)]))
  obtain ⟨T129, X129, e129, st129⟩ := castY X128 hx hZ hown (own_w hw 119 rfl) e128 (Ins.self (x3_0.keep K115)) (g := (mkF m 72 #[.val (.ref a), .val (.int n), .val (.int (0 : Int32)), .val (.int (0 : Int32)), .val (.ref li), .val (.int (4 : Int32)), .val (.ref b3), .val (.ref b14), .val (.int (3 : Int32)), .val (.ref x2), .unset, .unset] [(.ref x3)])) rfl rfl (hb hby d_57_1__72)
  refine own_step st129 ?_
  show GoP p e below Φ (T129.setTop (mkF m 75 #[.val (.ref a), .val (.int n), .val (.int (0 : Int32)), .val (.int (0 : Int32)), .val (.ref li), .val (.int (4 : Int32)), .val (.ref b3), .val (.ref b14), .val (.int (3 : Int32)), .val (.ref x2), .unset, .unset] [(.ref x3)]))
  refine own_astore X129 hx hby d_57_1__75 rfl (Ls' := #[.val (.ref a), .val (.int n), .val (.int (0 : Int32)), .val (.int (0 : Int32)), .val (.ref li), .val (.int (4 : Int32)), .val (.ref b3), .val (.ref b14), .val (.int (3 : Int32)), .val (.ref x3), .unset, .unset]) rfl (pc' := 77) rfl ?_
  refine own_aload X129 hx hby d_57_1__77 rfl rfl (pc' := 79) rfl ?_
  refine own_callV X129 hx hby hZ (by exact hml) hown (own_w hw 121 rfl) (own_w hw 122 rfl) (own_w hw 124 rfl) (own_w hw 123 rfl) (own_w hw 28 rfl) (own_w hw 125 rfl) (by decide) e129 0 (by decide) (by decide) (by decide) (by decide) (argsL := []) (rest := []) (lenOf pd___D rfl) rfl (Nat.le_of_eq rfl) (x3_0.keep K115) (rmL_capacity l Z a0 hw x3 FP.dconst1 h115 (x3_3.keep K115 nin_x3)) d_57_1__79 (pc' := 82) rfl ?_
  intro v130 T130 L130 X130 hQ130
  obtain ⟨rfl, rfl, e130⟩ := hQ130
  rw [List.append_nil] at X130
  replace e130 : T130.heap = h115 := e130
  show GoP p e below Φ (T130.setTop (mkF m 82 #[.val (.ref a), .val (.int n), .val (.int (0 : Int32)), .val (.int (0 : Int32)), .val (.ref li), .val (.int (4 : Int32)), .val (.ref b3), .val (.ref b14), .val (.int (3 : Int32)), .val (.ref x3), .unset, .unset] [(.double FP.dconst1)]))
  refine own_dconst0 X130 hx hby d_57_1__82 (pc' := 83) rfl ?_
  refine own_dcmp X130 hx hby d_57_1__83 own_dc10l (pc' := 84) rfl ?_
  refine own_ifN X130 hx hby d_57_1__84 ((if0 _ _).trans (tlt (by decide)).2.2.2) (pc' := 87) rfl ?_
  refine own_aload X130 hx hby d_57_1__87 rfl rfl (pc' := 89) rfl ?_
  refine own_callV X130 hx hby hZ (by exact hml) hown (own_w hw 126 rfl) (own_w hw 127 rfl) (own_w hw 129 rfl) (own_w hw 128 rfl) (own_w hw 28 rfl) (own_w hw 130 rfl) (by decide) e130 0 (by decide) (by decide) (by decide) (by decide) (argsL := []) (rest := []) (lenOf pd___D rfl) rfl (Nat.le_of_eq rfl) (x3_0.keep K115) (rmL_freeFlowTime l Z a0 hw x3 FP.dconst0 h115 (x3_4.keep K115 nin_x3)) d_57_1__89 (pc' := 92) rfl ?_
  intro v131 T131 L131 X131 hQ131
  obtain ⟨rfl, rfl, e131⟩ := hQ131
  rw [List.append_nil] at X131
  replace e131 : T131.heap = h115 := e131
  show GoP p e below Φ (T131.setTop (mkF m 92 #[.val (.ref a), .val (.int n), .val (.int (0 : Int32)), .val (.int (0 : Int32)), .val (.ref li), .val (.int (4 : Int32)), .val (.ref b3), .val (.ref b14), .val (.int (3 : Int32)), .val (.ref x3), .unset, .unset] [(.double FP.dconst0)]))
  refine own_dconst0 X131 hx hby d_57_1__92 (pc' := 93) rfl ?_
  refine own_dcmp X131 hx hby d_57_1__93 own_dc00l (pc' := 94) rfl ?_
  refine own_ifN X131 hx hby d_57_1__94 ((if0 _ _).trans (flt (by decide)).1) (pc' := 97) rfl ?_
  refine own_aload X131 hx hby d_57_1__97 rfl rfl (pc' := 99) rfl ?_
  refine own_callV X131 hx hby hZ (by exact hml) hown (own_w hw 131 rfl) (own_w hw 132 rfl) (own_w hw 134 rfl) (own_w hw 133 rfl) (own_w hw 28 rfl) (own_w hw 135 rfl) (by decide) e131 0 (by decide) (by decide) (by decide) (by decide) (argsL := []) (rest := []) (lenOf pd___D rfl) rfl (Nat.le_of_eq rfl) (x3_0.keep K115) (rmL_b l Z a0 hw x3 FP.dconst0 h115 (x3_5.keep K115 nin_x3)) d_57_1__99 (pc' := 102) rfl ?_
  intro v132 T132 L132 X132 hQ132
  obtain ⟨rfl, rfl, e132⟩ := hQ132
  rw [List.append_nil] at X132
  replace e132 : T132.heap = h115 := e132
  show GoP p e below Φ (T132.setTop (mkF m 102 #[.val (.ref a), .val (.int n), .val (.int (0 : Int32)), .val (.int (0 : Int32)), .val (.ref li), .val (.int (4 : Int32)), .val (.ref b3), .val (.ref b14), .val (.int (3 : Int32)), .val (.ref x3), .unset, .unset] [(.double FP.dconst0)]))
  refine own_dconst0 X132 hx hby d_57_1__102 (pc' := 103) rfl ?_
  refine own_dcmp X132 hx hby d_57_1__103 own_dc00l (pc' := 104) rfl ?_
  refine own_ifN X132 hx hby d_57_1__104 ((if0 _ _).trans (flt (by decide)).1) (pc' := 107) rfl ?_
  refine own_aload X132 hx hby d_57_1__107 rfl rfl (pc' := 109) rfl ?_
  refine own_callV X132 hx hby hZ (by exact hml) hown (own_w hw 136 rfl) (own_w hw 137 rfl) (own_w hw 139 rfl) (own_w hw 138 rfl) (own_w hw 28 rfl) (own_w hw 140 rfl) (by decide) e132 0 (by decide) (by decide) (by decide) (by decide) (argsL := []) (rest := []) (lenOf pd___D rfl) rfl (Nat.le_of_eq rfl) (x3_0.keep K115) (rmL_power l Z a0 hw x3 FP.dconst0 h115 (x3_6.keep K115 nin_x3)) d_57_1__109 (pc' := 112) rfl ?_
  intro v133 T133 L133 X133 hQ133
  obtain ⟨rfl, rfl, e133⟩ := hQ133
  rw [List.append_nil] at X133
  replace e133 : T133.heap = h115 := e133
  show GoP p e below Φ (T133.setTop (mkF m 112 #[.val (.ref a), .val (.int n), .val (.int (0 : Int32)), .val (.int (0 : Int32)), .val (.ref li), .val (.int (4 : Int32)), .val (.ref b3), .val (.ref b14), .val (.int (3 : Int32)), .val (.ref x3), .unset, .unset] [(.double FP.dconst0)]))
  refine own_dconst0 X133 hx hby d_57_1__112 (pc' := 113) rfl ?_
  refine own_dcmp X133 hx hby d_57_1__113 own_dc00l (pc' := 114) rfl ?_
  refine own_ifY X133 hx hby d_57_1__114 ((if0 _ _).trans (teq (by decide)).1) (by decide) (pc' := 147) (by decide) ?_
  refine own_aload X133 hx hby d_57_1__147 rfl rfl (pc' := 149) rfl ?_
  refine own_iload X133 hx hby d_57_1__149 rfl (pc' := 151) rfl ?_
  refine own_aload X133 hx hby d_57_1__151 rfl rfl (pc' := 153) rfl ?_
  refine own_callV X133 hx hby hZ (by exact hml) hown (own_w hw 141 rfl) (own_w hw 142 rfl) (own_w hw 144 rfl) (own_w hw 143 rfl) (own_w hw 28 rfl) (own_w hw 145 rfl) (by decide) e133 2 (by decide) (by decide) (by decide) (by decide) (argsL := []) (rest := [(.int (3 : Int32)), (.ref b3)]) (lenOf pd___I rfl) rfl (Nat.le_of_eq rfl) (x3_0.keep K115) (rmL_tail l Z a0 hw x3 t3 h115 (x3_1.keep K115 nin_x3)) d_57_1__153 (pc' := 156) rfl ?_
  intro v134 T134 L134 X134 hQ134
  obtain ⟨rfl, rfl, e134⟩ := hQ134
  rw [List.append_nil] at X134
  replace e134 : T134.heap = h115 := e134
  show GoP p e below Φ (T134.setTop (mkF m 156 #[.val (.ref a), .val (.int n), .val (.int (0 : Int32)), .val (.int (0 : Int32)), .val (.ref li), .val (.int (4 : Int32)), .val (.ref b3), .val (.ref b14), .val (.int (3 : Int32)), .val (.ref x3), .unset, .unset] [(.int t3), (.int (3 : Int32)), (.ref b3)]))
  refine own_iastore X134 hx hby hZ e134 V126_b3 (by decide) (Nat.le_of_ble_eq_true rfl) d_57_1__156 (pc' := 157) rfl ?_
  intro T135 h135 X135 e135 W135 V135
  replace V135 : AV Z h135 b3 .int [(.int t0), (.int t1), (.int t2), (.int t3)] := V135
  have E136_a := E116_a.wr W135
  have F137_graph := F117_graph.other W135 (Or.inl ne_a_b3)
  have F138_zoneCount := F118_zoneCount.other W135 (Or.inl ne_a_b3)
  have F139_firstThruNode := F119_firstThruNode.other W135 (Or.inl ne_a_b3)
  have F140_linkTail := F120_linkTail.other W135 (Or.inl ne_a_b3)
  have F141_linkArc := F121_linkArc.other W135 (Or.inl ne_a_b3)
  have F142_capacity := F122_capacity.other W135 (Or.inl ne_a_b3)
  have F143_freeFlowTime := F123_freeFlowTime.other W135 (Or.inl ne_a_b3)
  have F144_b := F124_b.other W135 (Or.inl ne_a_b3)
  have F145_power := F125_power.other W135 (Or.inl ne_a_b3)
  have V147_b14 := V115.other W135 (Ne.symm ne_b3_b14)
  have Z135 : n0 ≤ h135.size := by rw [W135.size]; exact Z115
  have N135 := Fr.snoc X135 N115 n0_b3
  have K135 : Keep h0 h135 [a] := K115.wr W135 (Or.inr sz_b3)
  refine own_aload X135 hx hby d_57_1__157 rfl rfl (pc' := 159) rfl ?_
  refine own_iload X135 hx hby d_57_1__159 rfl (pc' := 161) rfl ?_
  refine own_aload X135 hx hby d_57_1__161 rfl rfl (pc' := 163) rfl ?_
  refine own_callV X135 hx hby hZ (by exact hml) hown (own_w hw 146 rfl) (own_w hw 147 rfl) (own_w hw 149 rfl) (own_w hw 148 rfl) (own_w hw 28 rfl) (own_w hw 150 rfl) (by decide) e135 2 (by decide) (by decide) (by decide) (by decide) (argsL := []) (rest := [(.int (3 : Int32)), (.ref b14)]) (lenOf pd___I rfl) rfl (Nat.le_of_eq rfl) (x3_0.keep K135) (rmL_head l Z a0 hw x3 y3 h135 (x3_2.keep K135 nin_x3)) d_57_1__163 (pc' := 166) rfl ?_
  intro v148 T148 L148 X148 hQ148
  obtain ⟨rfl, rfl, e148⟩ := hQ148
  rw [List.append_nil] at X148
  replace e148 : T148.heap = h135 := e148
  show GoP p e below Φ (T148.setTop (mkF m 166 #[.val (.ref a), .val (.int n), .val (.int (0 : Int32)), .val (.int (0 : Int32)), .val (.ref li), .val (.int (4 : Int32)), .val (.ref b3), .val (.ref b14), .val (.int (3 : Int32)), .val (.ref x3), .unset, .unset] [(.int y3), (.int (3 : Int32)), (.ref b14)]))
  refine own_iastore X148 hx hby hZ e148 V147_b14 (by decide) (Nat.le_of_ble_eq_true rfl) d_57_1__166 (pc' := 167) rfl ?_
  intro T149 h149 X149 e149 W149 V149
  replace V149 : AV Z h149 b14 .int [(.int y0), (.int y1), (.int y2), (.int y3)] := V149
  have E150_a := E136_a.wr W149
  have F151_graph := F137_graph.other W149 (Or.inl ne_a_b14)
  have F152_zoneCount := F138_zoneCount.other W149 (Or.inl ne_a_b14)
  have F153_firstThruNode := F139_firstThruNode.other W149 (Or.inl ne_a_b14)
  have F154_linkTail := F140_linkTail.other W149 (Or.inl ne_a_b14)
  have F155_linkArc := F141_linkArc.other W149 (Or.inl ne_a_b14)
  have F156_capacity := F142_capacity.other W149 (Or.inl ne_a_b14)
  have F157_freeFlowTime := F143_freeFlowTime.other W149 (Or.inl ne_a_b14)
  have F158_b := F144_b.other W149 (Or.inl ne_a_b14)
  have F159_power := F145_power.other W149 (Or.inl ne_a_b14)
  have V160_b3 := V135.other W149 ne_b3_b14
  have Z149 : n0 ≤ h149.size := by rw [W149.size]; exact Z135
  have N149 := Fr.snoc X149 N135 n0_b14
  have K149 : Keep h0 h149 [a] := K135.wr W149 (Or.inr sz_b14)
  refine own_iinc X149 hx hby d_57_1__167 rfl (v := (1 : Int32)) rfl (Ls' := #[.val (.ref a), .val (.int n), .val (.int (0 : Int32)), .val (.int (0 : Int32)), .val (.ref li), .val (.int (4 : Int32)), .val (.ref b3), .val (.ref b14), .val (.int (4 : Int32)), .val (.ref x3), .unset, .unset]) rfl (pc' := 170) rfl ?_
  refine own_goto X149 hx hby d_57_1__170 (by decide) (pc' := 56) (by decide) ?_
  refine own_iload X149 hx hby d_57_1__56 rfl (pc' := 58) rfl ?_
  refine own_iload X149 hx hby d_57_1__58 rfl (pc' := 60) rfl ?_
  refine own_icmpY X149 hx hby d_57_1__60 (flt (by decide)).2.1 (by decide) (pc' := 173) (by decide) ?_
  refine own_aloadN X149 hx hby d_57_1__173 rfl rfl (pc' := 174) rfl ?_
  refine own_iloadN X149 hx hby d_57_1__174 rfl (pc' := 175) rfl ?_
  refine own_iload X149 hx hby d_57_1__175 rfl (pc' := 177) rfl ?_
  refine own_aload X149 hx hby d_57_1__177 rfl rfl (pc' := 179) rfl ?_
  refine own_aload X149 hx hby d_57_1__179 rfl rfl (pc' := 181) rfl ?_
  refine own_iload X149 hx hby d_57_1__181 rfl (pc' := 183) rfl ?_
  obtain ⟨T162, h162, k162, X162, e162, E162, A162, st162⟩ := newP X149 hx hZ (own_w hw 151 rfl) e149 (g := (mkF m 183 #[.val (.ref a), .val (.int n), .val (.int (0 : Int32)), .val (.int (0 : Int32)), .val (.ref li), .val (.int (4 : Int32)), .val (.ref b3), .val (.ref b14), .val (.int (4 : Int32)), .val (.ref x3), .unset, .unset] [(.int (4 : Int32)), (.ref b14), (.ref b3), (.int (4 : Int32)), (.int n), (.ref a)])) rfl (hb hby d_57_1__183) rfl (by decide) (cap := 4) (by decide) (by decide) (by decide) (by decide)
  obtain ⟨b162, g162⟩ : ∃ z, z = h149.size := ⟨_, rfl⟩
  have ne_a_b162 : a ≠ b162 := Nat.ne_of_lt (g162 ▸ E150_a.lt)
  have ne_b3_b162 : b3 ≠ b162 := Nat.ne_of_lt (g162 ▸ V160_b3.lt)
  have ne_b14_b162 : b14 ≠ b162 := Nat.ne_of_lt (g162 ▸ V149.lt)
  have E163_a := E150_a.ext E162
  have F164_graph := F151_graph.ext E162
  have F165_zoneCount := F152_zoneCount.ext E162
  have F166_firstThruNode := F153_firstThruNode.ext E162
  have F167_linkTail := F154_linkTail.ext E162
  have F168_linkArc := F155_linkArc.ext E162
  have F169_capacity := F156_capacity.ext E162
  have F170_freeFlowTime := F157_freeFlowTime.ext E162
  have F171_b := F158_b.ext E162
  have F172_power := F159_power.ext E162
  have V173_b3 := V160_b3.ext E162
  have V174_b14 := V149.ext E162
  have Z162 : n0 ≤ h162.size := Nat.le_trans Z149 E162.1
  have n0_b162 : n0 ≤ b162 := g162 ▸ Z149
  have sz_b162 : h0.size ≤ b162 := g162 ▸ K149.1
  have K162 : Keep h0 h162 [a] := K149.ext E162
  rw [← g162] at A162 st162
  refine own_step st162 ?_
  have V162 : AV Z h162 b162 .long [(.long (0 : Int64)), (.long (0 : Int64)), (.long (0 : Int64)), (.long (0 : Int64))] := AV.new A162 (by decide)
  show GoP p e below Φ (T162.setTop (mkF m 185 #[.val (.ref a), .val (.int n), .val (.int (0 : Int32)), .val (.int (0 : Int32)), .val (.ref li), .val (.int (4 : Int32)), .val (.ref b3), .val (.ref b14), .val (.int (4 : Int32)), .val (.ref x3), .unset, .unset] [(.ref b162), (.ref b14), (.ref b3), (.int (4 : Int32)), (.int n), (.ref a)]))
  refine own_callS X162 hx hby hZ (by exact hml) hown (own_w hw 152 rfl) (own_w hw 153 rfl) (own_w hw 154 rfl) (own_w hw 155 rfl) (by decide) e162 1 (by decide) (by decide) (by decide) (by decide) (argsL := [(.int n), (.int (4 : Int32)), (.ref b3), (.ref b14), (.ref b162)]) (rest := [(.ref a)]) (lenOf pd__II_I_I_J_Lcom_example_wayfold_wayfold_Graph_ rfl) rfl (rmG l Z a0 hw n t0 t1 t2 t3 y0 y1 y2 y3 b3 b14 b162 n0 h162 Z162 hn1 hn2 lt0 ut0 lt1 ut1 lt2 ut2 lt3 ut3 ly0 uy0 ly1 uy1 ly2 uy2 ly3 uy3 hg V173_b3 V174_b14 V162) (Nat.le_of_eq rfl) d_57_1__185 (pc' := 188) rfl ?_
  intro v175 T175 L175 X175 hQ175
  obtain ⟨gr, fa, ah, rfl, Nq175, K175, sg, sf, sa, E175, FA175, FH175, BF175, BH175⟩ := hQ175
  have ne_a_gr : a ≠ gr := Nat.ne_of_lt (Nat.lt_of_lt_of_le E163_a.lt sg)
  have sz_gr : h0.size ≤ gr := Nat.le_trans K162.1 sg
  have ne_a_fa : a ≠ fa := Nat.ne_of_lt (Nat.lt_of_lt_of_le E163_a.lt sf)
  have sz_fa : h0.size ≤ fa := Nat.le_trans K162.1 sf
  have ne_a_ah : a ≠ ah := Nat.ne_of_lt (Nat.lt_of_lt_of_le E163_a.lt sa)
  have sz_ah : h0.size ≤ ah := Nat.le_trans K162.1 sa
  have E176_a := E163_a.keep K175
  have F177_graph := F164_graph.keep K175 nin0
  have F178_zoneCount := F165_zoneCount.keep K175 nin0
  have F179_firstThruNode := F166_firstThruNode.keep K175 nin0
  have F180_linkTail := F167_linkTail.keep K175 nin0
  have F181_linkArc := F168_linkArc.keep K175 nin0
  have F182_capacity := F169_capacity.keep K175 nin0
  have F183_freeFlowTime := F170_freeFlowTime.keep K175 nin0
  have F184_b := F171_b.keep K175 nin0
  have F185_power := F172_power.keep K175 nin0
  have N175 := Fr.app N149 Nq175
  have Z175 : n0 ≤ T175.heap.size := Nat.le_trans Z162 K175.1
  have KK175 : Keep h0 T175.heap [a] := K162.trans K175 all0
  show GoP p e below Φ (T175.setTop (mkF m 188 #[.val (.ref a), .val (.int n), .val (.int (0 : Int32)), .val (.int (0 : Int32)), .val (.ref li), .val (.int (4 : Int32)), .val (.ref b3), .val (.ref b14), .val (.int (4 : Int32)), .val (.ref x3), .unset, .unset] [(.ref gr), (.ref a)]))
  refine own_putF X175 hx hby hZ hown (host := "") (Or.inl (own_w hw 181 rfl)) Via.refl rfl F177_graph E176_a (Or.inr ⟨(own_w hw 182 rfl), rfl, hnm⟩) (own_w hw 82 rfl) (ty := (.object "com/example/wayfold/wayfold/Graph")) (by decide) rfl rfl d_57_1__188 (pc' := 191) rfl ?_
  intro T186 h186 X186 e186 W186
  have E187_a := E176_a.wr W186
  have F188_graph := F177_graph.same W186
  have F189_zoneCount := F178_zoneCount.other W186 (Or.inr (slot_ne (Or.inr (own_w hw 184 rfl)) (Or.inr (own_w hw 182 rfl)) (by decide) (t := .int) (t' := (.object "com/example/wayfold/wayfold/Graph")) (by decide) (by decide)))
  have F190_firstThruNode := F179_firstThruNode.other W186 (Or.inr (slot_ne (Or.inr (own_w hw 186 rfl)) (Or.inr (own_w hw 182 rfl)) (by decide) (t := .int) (t' := (.object "com/example/wayfold/wayfold/Graph")) (by decide) (by decide)))
  have F191_linkTail := F180_linkTail.other W186 (Or.inr (slot_ne (Or.inr (own_w hw 188 rfl)) (Or.inr (own_w hw 182 rfl)) (by decide) (t := (.array .int)) (t' := (.object "com/example/wayfold/wayfold/Graph")) (by decide) (by decide)))
  have F192_linkArc := F181_linkArc.other W186 (Or.inr (slot_ne (Or.inr (own_w hw 190 rfl)) (Or.inr (own_w hw 182 rfl)) (by decide) (t := (.array .int)) (t' := (.object "com/example/wayfold/wayfold/Graph")) (by decide) (by decide)))
  have F193_capacity := F182_capacity.other W186 (Or.inr (slot_ne (Or.inr (own_w hw 198 rfl)) (Or.inr (own_w hw 182 rfl)) (by decide) (t := (.array .double)) (t' := (.object "com/example/wayfold/wayfold/Graph")) (by decide) (by decide)))
  have F194_freeFlowTime := F183_freeFlowTime.other W186 (Or.inr (slot_ne (Or.inr (own_w hw 200 rfl)) (Or.inr (own_w hw 182 rfl)) (by decide) (t := (.array .double)) (t' := (.object "com/example/wayfold/wayfold/Graph")) (by decide) (by decide)))
  have F195_b := F184_b.other W186 (Or.inr (slot_ne (Or.inr (own_w hw 202 rfl)) (Or.inr (own_w hw 182 rfl)) (by decide) (t := (.array .double)) (t' := (.object "com/example/wayfold/wayfold/Graph")) (by decide) (by decide)))
  have F196_power := F185_power.other W186 (Or.inr (slot_ne (Or.inr (own_w hw 204 rfl)) (Or.inr (own_w hw 182 rfl)) (by decide) (t := (.array .double)) (t' := (.object "com/example/wayfold/wayfold/Graph")) (by decide) (by decide)))
  have E197_gr := E175.wr W186
  have F198_firstArc := FA175.other W186 (Or.inl (Ne.symm ne_a_gr))
  have F199_arcHead := FH175.other W186 (Or.inl (Ne.symm ne_a_gr))
  have B200_fa := BF175.other W186 (Ne.symm ne_a_fa)
  have B201_ah := BH175.other W186 (Ne.symm ne_a_ah)
  have Z186 : n0 ≤ h186.size := by rw [W186.size]; exact Z175
  have N186 := Fr.snoc X186 N175 n0_a
  have K186 : Keep h0 h186 [a] := KK175.wr W186 (Or.inl (List.mem_of_getElem? (i := 0) rfl))
  refine own_aloadN X186 hx hby d_57_1__191 rfl rfl (pc' := 192) rfl ?_
  refine own_iloadN X186 hx hby d_57_1__192 rfl (pc' := 193) rfl ?_
  refine own_putF X186 hx hby hZ hown (host := "") (Or.inl (own_w hw 183 rfl)) Via.refl e186 F189_zoneCount E187_a (Or.inr ⟨(own_w hw 184 rfl), rfl, hnm⟩) (own_w hw 82 rfl) (ty := .int) (by decide) rfl rfl d_57_1__193 (pc' := 196) rfl ?_
  intro T202 h202 X202 e202 W202
  have E203_a := E187_a.wr W202
  have F204_graph := F188_graph.other W202 (Or.inr (slot_ne (Or.inr (own_w hw 182 rfl)) (Or.inr (own_w hw 184 rfl)) (by decide) (t := (.object "com/example/wayfold/wayfold/Graph")) (t' := .int) (by decide) (by decide)))
  have F205_zoneCount := F189_zoneCount.same W202
  have F206_firstThruNode := F190_firstThruNode.other W202 (Or.inr (slot_ne (Or.inr (own_w hw 186 rfl)) (Or.inr (own_w hw 184 rfl)) (by decide) (t := .int) (t' := .int) (by decide) (by decide)))
  have F207_linkTail := F191_linkTail.other W202 (Or.inr (slot_ne (Or.inr (own_w hw 188 rfl)) (Or.inr (own_w hw 184 rfl)) (by decide) (t := (.array .int)) (t' := .int) (by decide) (by decide)))
  have F208_linkArc := F192_linkArc.other W202 (Or.inr (slot_ne (Or.inr (own_w hw 190 rfl)) (Or.inr (own_w hw 184 rfl)) (by decide) (t := (.array .int)) (t' := .int) (by decide) (by decide)))
  have F209_capacity := F193_capacity.other W202 (Or.inr (slot_ne (Or.inr (own_w hw 198 rfl)) (Or.inr (own_w hw 184 rfl)) (by decide) (t := (.array .double)) (t' := .int) (by decide) (by decide)))
  have F210_freeFlowTime := F194_freeFlowTime.other W202 (Or.inr (slot_ne (Or.inr (own_w hw 200 rfl)) (Or.inr (own_w hw 184 rfl)) (by decide) (t := (.array .double)) (t' := .int) (by decide) (by decide)))
  have F211_b := F195_b.other W202 (Or.inr (slot_ne (Or.inr (own_w hw 202 rfl)) (Or.inr (own_w hw 184 rfl)) (by decide) (t := (.array .double)) (t' := .int) (by decide) (by decide)))
  have F212_power := F196_power.other W202 (Or.inr (slot_ne (Or.inr (own_w hw 204 rfl)) (Or.inr (own_w hw 184 rfl)) (by decide) (t := (.array .double)) (t' := .int) (by decide) (by decide)))
  have E213_gr := E197_gr.wr W202
  have F214_firstArc := F198_firstArc.other W202 (Or.inl (Ne.symm ne_a_gr))
  have F215_arcHead := F199_arcHead.other W202 (Or.inl (Ne.symm ne_a_gr))
  have B216_fa := B200_fa.other W202 (Ne.symm ne_a_fa)
  have B217_ah := B201_ah.other W202 (Ne.symm ne_a_ah)
  have Z202 : n0 ≤ h202.size := by rw [W202.size]; exact Z186
  have N202 := Fr.snoc X202 N186 n0_a
  have K202 : Keep h0 h202 [a] := K186.wr W202 (Or.inl (List.mem_of_getElem? (i := 0) rfl))
  refine own_aloadN X202 hx hby d_57_1__196 rfl rfl (pc' := 197) rfl ?_
  refine own_iloadN X202 hx hby d_57_1__197 rfl (pc' := 198) rfl ?_
  refine own_putF X202 hx hby hZ hown (host := "") (Or.inl (own_w hw 185 rfl)) Via.refl e202 F206_firstThruNode E203_a (Or.inr ⟨(own_w hw 186 rfl), rfl, hnm⟩) (own_w hw 82 rfl) (ty := .int) (by decide) rfl rfl d_57_1__198 (pc' := 201) rfl ?_
  intro T218 h218 X218 e218 W218
  have E219_a := E203_a.wr W218
  have F220_graph := F204_graph.other W218 (Or.inr (slot_ne (Or.inr (own_w hw 182 rfl)) (Or.inr (own_w hw 186 rfl)) (by decide) (t := (.object "com/example/wayfold/wayfold/Graph")) (t' := .int) (by decide) (by decide)))
  have F221_zoneCount := F205_zoneCount.other W218 (Or.inr (slot_ne (Or.inr (own_w hw 184 rfl)) (Or.inr (own_w hw 186 rfl)) (by decide) (t := .int) (t' := .int) (by decide) (by decide)))
  have F222_firstThruNode := F206_firstThruNode.same W218
  have F223_linkTail := F207_linkTail.other W218 (Or.inr (slot_ne (Or.inr (own_w hw 188 rfl)) (Or.inr (own_w hw 186 rfl)) (by decide) (t := (.array .int)) (t' := .int) (by decide) (by decide)))
  have F224_linkArc := F208_linkArc.other W218 (Or.inr (slot_ne (Or.inr (own_w hw 190 rfl)) (Or.inr (own_w hw 186 rfl)) (by decide) (t := (.array .int)) (t' := .int) (by decide) (by decide)))
  have F225_capacity := F209_capacity.other W218 (Or.inr (slot_ne (Or.inr (own_w hw 198 rfl)) (Or.inr (own_w hw 186 rfl)) (by decide) (t := (.array .double)) (t' := .int) (by decide) (by decide)))
  have F226_freeFlowTime := F210_freeFlowTime.other W218 (Or.inr (slot_ne (Or.inr (own_w hw 200 rfl)) (Or.inr (own_w hw 186 rfl)) (by decide) (t := (.array .double)) (t' := .int) (by decide) (by decide)))
  have F227_b := F211_b.other W218 (Or.inr (slot_ne (Or.inr (own_w hw 202 rfl)) (Or.inr (own_w hw 186 rfl)) (by decide) (t := (.array .double)) (t' := .int) (by decide) (by decide)))
  have F228_power := F212_power.other W218 (Or.inr (slot_ne (Or.inr (own_w hw 204 rfl)) (Or.inr (own_w hw 186 rfl)) (by decide) (t := (.array .double)) (t' := .int) (by decide) (by decide)))
  have E229_gr := E213_gr.wr W218
  have F230_firstArc := F214_firstArc.other W218 (Or.inl (Ne.symm ne_a_gr))
  have F231_arcHead := F215_arcHead.other W218 (Or.inl (Ne.symm ne_a_gr))
  have B232_fa := B216_fa.other W218 (Ne.symm ne_a_fa)
  have B233_ah := B217_ah.other W218 (Ne.symm ne_a_ah)
  have Z218 : n0 ≤ h218.size := by rw [W218.size]; exact Z202
  have N218 := Fr.snoc X218 N202 n0_a
  have K218 : Keep h0 h218 [a] := K202.wr W218 (Or.inl (List.mem_of_getElem? (i := 0) rfl))
  refine own_aloadN X218 hx hby d_57_1__201 rfl rfl (pc' := 202) rfl ?_
  refine own_aload X218 hx hby d_57_1__202 rfl rfl (pc' := 204) rfl ?_
  refine own_putF X218 hx hby hZ hown (host := "") (Or.inl (own_w hw 187 rfl)) Via.refl e218 F223_linkTail E219_a (Or.inr ⟨(own_w hw 188 rfl), rfl, hnm⟩) (own_w hw 82 rfl) (ty := (.array .int)) (by decide) rfl rfl d_57_1__204 (pc' := 207) rfl ?_
  intro T234 h234 X234 e234 W234
  have E235_a := E219_a.wr W234
  have F236_graph := F220_graph.other W234 (Or.inr (slot_ne (Or.inr (own_w hw 182 rfl)) (Or.inr (own_w hw 188 rfl)) (by decide) (t := (.object "com/example/wayfold/wayfold/Graph")) (t' := (.array .int)) (by decide) (by decide)))
  have F237_zoneCount := F221_zoneCount.other W234 (Or.inr (slot_ne (Or.inr (own_w hw 184 rfl)) (Or.inr (own_w hw 188 rfl)) (by decide) (t := .int) (t' := (.array .int)) (by decide) (by decide)))
  have F238_firstThruNode := F222_firstThruNode.other W234 (Or.inr (slot_ne (Or.inr (own_w hw 186 rfl)) (Or.inr (own_w hw 188 rfl)) (by decide) (t := .int) (t' := (.array .int)) (by decide) (by decide)))
  have F239_linkTail := F223_linkTail.same W234
  have F240_linkArc := F224_linkArc.other W234 (Or.inr (slot_ne (Or.inr (own_w hw 190 rfl)) (Or.inr (own_w hw 188 rfl)) (by decide) (t := (.array .int)) (t' := (.array .int)) (by decide) (by decide)))
  have F241_capacity := F225_capacity.other W234 (Or.inr (slot_ne (Or.inr (own_w hw 198 rfl)) (Or.inr (own_w hw 188 rfl)) (by decide) (t := (.array .double)) (t' := (.array .int)) (by decide) (by decide)))
  have F242_freeFlowTime := F226_freeFlowTime.other W234 (Or.inr (slot_ne (Or.inr (own_w hw 200 rfl)) (Or.inr (own_w hw 188 rfl)) (by decide) (t := (.array .double)) (t' := (.array .int)) (by decide) (by decide)))
  have F243_b := F227_b.other W234 (Or.inr (slot_ne (Or.inr (own_w hw 202 rfl)) (Or.inr (own_w hw 188 rfl)) (by decide) (t := (.array .double)) (t' := (.array .int)) (by decide) (by decide)))
  have F244_power := F228_power.other W234 (Or.inr (slot_ne (Or.inr (own_w hw 204 rfl)) (Or.inr (own_w hw 188 rfl)) (by decide) (t := (.array .double)) (t' := (.array .int)) (by decide) (by decide)))
  have E245_gr := E229_gr.wr W234
  have F246_firstArc := F230_firstArc.other W234 (Or.inl (Ne.symm ne_a_gr))
  have F247_arcHead := F231_arcHead.other W234 (Or.inl (Ne.symm ne_a_gr))
  have B248_fa := B232_fa.other W234 (Ne.symm ne_a_fa)
  have B249_ah := B233_ah.other W234 (Ne.symm ne_a_ah)
  have Z234 : n0 ≤ h234.size := by rw [W234.size]; exact Z218
  have N234 := Fr.snoc X234 N218 n0_a
  have K234 : Keep h0 h234 [a] := K218.wr W234 (Or.inl (List.mem_of_getElem? (i := 0) rfl))
  refine own_aloadN X234 hx hby d_57_1__207 rfl rfl (pc' := 208) rfl ?_
  refine own_iload X234 hx hby d_57_1__208 rfl (pc' := 210) rfl ?_
  obtain ⟨T250, h250, k250, X250, e250, E250, A250, st250⟩ := newP X234 hx hZ (own_w hw 97 rfl) e234 (g := (mkF m 210 #[.val (.ref a), .val (.int n), .val (.int (0 : Int32)), .val (.int (0 : Int32)), .val (.ref li), .val (.int (4 : Int32)), .val (.ref b3), .val (.ref b14), .val (.int (4 : Int32)), .val (.ref x3), .unset, .unset] [(.int (4 : Int32)), (.ref a)])) rfl (hb hby d_57_1__210) rfl (by decide) (cap := 4) (by decide) (by decide) (by decide) (by decide)
  obtain ⟨b250, g250⟩ : ∃ z, z = h234.size := ⟨_, rfl⟩
  have ne_a_b250 : a ≠ b250 := Nat.ne_of_lt (g250 ▸ E235_a.lt)
  have ne_gr_b250 : gr ≠ b250 := Nat.ne_of_lt (g250 ▸ E245_gr.lt)
  have ne_fa_b250 : fa ≠ b250 := Nat.ne_of_lt (g250 ▸ B248_fa.lt)
  have ne_ah_b250 : ah ≠ b250 := Nat.ne_of_lt (g250 ▸ B249_ah.lt)
  have E251_a := E235_a.ext E250
  have F252_graph := F236_graph.ext E250
  have F253_linkArc := F240_linkArc.ext E250
  have F254_capacity := F241_capacity.ext E250
  have F255_freeFlowTime := F242_freeFlowTime.ext E250
  have F256_b := F243_b.ext E250
  have F257_power := F244_power.ext E250
  have E258_gr := E245_gr.ext E250
  have F259_firstArc := F246_firstArc.ext E250
  have F260_arcHead := F247_arcHead.ext E250
  have B261_fa := B248_fa.ext E250
  have B262_ah := B249_ah.ext E250
  have Z250 : n0 ≤ h250.size := Nat.le_trans Z234 E250.1
  have n0_b250 : n0 ≤ b250 := g250 ▸ Z234
  have sz_b250 : h0.size ≤ b250 := g250 ▸ K234.1
  have K250 : Keep h0 h250 [a] := K234.ext E250
  rw [← g250] at A250 st250
  refine own_step st250 ?_
  have V250 : AV Z h250 b250 .int [(.int (0 : Int32)), (.int (0 : Int32)), (.int (0 : Int32)), (.int (0 : Int32))] := AV.new A250 (by decide)
  show GoP p e below Φ (T250.setTop (mkF m 212 #[.val (.ref a), .val (.int n), .val (.int (0 : Int32)), .val (.int (0 : Int32)), .val (.ref li), .val (.int (4 : Int32)), .val (.ref b3), .val (.ref b14), .val (.int (4 : Int32)), .val (.ref x3), .unset, .unset] [(.ref b250), (.ref a)]))
  refine own_putF X250 hx hby hZ hown (host := "") (Or.inl (own_w hw 189 rfl)) Via.refl e250 F253_linkArc E251_a (Or.inr ⟨(own_w hw 190 rfl), rfl, hnm⟩) (own_w hw 82 rfl) (ty := (.array .int)) (by decide) rfl rfl d_57_1__212 (pc' := 215) rfl ?_
  intro T263 h263 X263 e263 W263
  have E264_a := E251_a.wr W263
  have F265_graph := F252_graph.other W263 (Or.inr (slot_ne (Or.inr (own_w hw 182 rfl)) (Or.inr (own_w hw 190 rfl)) (by decide) (t := (.object "com/example/wayfold/wayfold/Graph")) (t' := (.array .int)) (by decide) (by decide)))
  have F266_linkArc := F253_linkArc.same W263
  have F267_capacity := F254_capacity.other W263 (Or.inr (slot_ne (Or.inr (own_w hw 198 rfl)) (Or.inr (own_w hw 190 rfl)) (by decide) (t := (.array .double)) (t' := (.array .int)) (by decide) (by decide)))
  have F268_freeFlowTime := F255_freeFlowTime.other W263 (Or.inr (slot_ne (Or.inr (own_w hw 200 rfl)) (Or.inr (own_w hw 190 rfl)) (by decide) (t := (.array .double)) (t' := (.array .int)) (by decide) (by decide)))
  have F269_b := F256_b.other W263 (Or.inr (slot_ne (Or.inr (own_w hw 202 rfl)) (Or.inr (own_w hw 190 rfl)) (by decide) (t := (.array .double)) (t' := (.array .int)) (by decide) (by decide)))
  have F270_power := F257_power.other W263 (Or.inr (slot_ne (Or.inr (own_w hw 204 rfl)) (Or.inr (own_w hw 190 rfl)) (by decide) (t := (.array .double)) (t' := (.array .int)) (by decide) (by decide)))
  have E271_gr := E258_gr.wr W263
  have F272_firstArc := F259_firstArc.other W263 (Or.inl (Ne.symm ne_a_gr))
  have F273_arcHead := F260_arcHead.other W263 (Or.inl (Ne.symm ne_a_gr))
  have B274_fa := B261_fa.other W263 (Ne.symm ne_a_fa)
  have B275_ah := B262_ah.other W263 (Ne.symm ne_a_ah)
  have V276_b250 := V250.other W263 (Ne.symm ne_a_b250)
  have Z263 : n0 ≤ h263.size := by rw [W263.size]; exact Z250
  have N263 := Fr.snoc X263 N234 n0_a
  have K263 : Keep h0 h263 [a] := K250.wr W263 (Or.inl (List.mem_of_getElem? (i := 0) rfl))
  refine own_iloadN X263 hx hby d_57_1__215 rfl (pc' := 216) rfl ?_
  refine own_iconst X263 hx hby d_57_1__216 (v := (1 : Int32)) rfl (pc' := 217) rfl ?_
  refine own_iadd X263 hx hby d_57_1__217 (pc' := 218) rfl ?_
  obtain ⟨T277, h277, k277, X277, e277, E277, A277, st277⟩ := newP X263 hx hZ (own_w hw 97 rfl) e263 (g := (mkF m 218 #[.val (.ref a), .val (.int n), .val (.int (0 : Int32)), .val (.int (0 : Int32)), .val (.ref li), .val (.int (4 : Int32)), .val (.ref b3), .val (.ref b14), .val (.int (4 : Int32)), .val (.ref x3), .unset, .unset] [(.int (n + (1 : Int32)))])) rfl (hb hby d_57_1__218) rfl (own_geI (by rw [own_z0]; omega)) (cap := 8) (by omega) (by decide) (by decide) (by decide)
  obtain ⟨b277, g277⟩ : ∃ z, z = h263.size := ⟨_, rfl⟩
  have ne_a_b277 : a ≠ b277 := Nat.ne_of_lt (g277 ▸ E264_a.lt)
  have ne_gr_b277 : gr ≠ b277 := Nat.ne_of_lt (g277 ▸ E271_gr.lt)
  have ne_fa_b277 : fa ≠ b277 := Nat.ne_of_lt (g277 ▸ B274_fa.lt)
  have ne_ah_b277 : ah ≠ b277 := Nat.ne_of_lt (g277 ▸ B275_ah.lt)
  have ne_b250_b277 : b250 ≠ b277 := Nat.ne_of_lt (g277 ▸ V276_b250.lt)
  have E278_a := E264_a.ext E277
  have F279_graph := F265_graph.ext E277
  have F280_linkArc := F266_linkArc.ext E277
  have F281_capacity := F267_capacity.ext E277
  have F282_freeFlowTime := F268_freeFlowTime.ext E277
  have F283_b := F269_b.ext E277
  have F284_power := F270_power.ext E277
  have E285_gr := E271_gr.ext E277
  have F286_firstArc := F272_firstArc.ext E277
  have F287_arcHead := F273_arcHead.ext E277
  have B288_fa := B274_fa.ext E277
  have B289_ah := B275_ah.ext E277
  have V290_b250 := V276_b250.ext E277
  have Z277 : n0 ≤ h277.size := Nat.le_trans Z263 E277.1
  have n0_b277 : n0 ≤ b277 := g277 ▸ Z263
  have sz_b277 : h0.size ≤ b277 := g277 ▸ K263.1
  have K277 : Keep h0 h277 [a] := K263.ext E277
  rw [← g277] at A277 st277
  refine own_step st277 ?_
  have V277 : AV Z h277 b277 .int (List.replicate ((n + (1 : Int32))).toNatClampNeg (.int (0 : Int32))) := AV.new A277 (own_geI (by rw [own_z0]; omega))
  show GoP p e below Φ (T277.setTop (mkF m 220 #[.val (.ref a), .val (.int n), .val (.int (0 : Int32)), .val (.int (0 : Int32)), .val (.ref li), .val (.int (4 : Int32)), .val (.ref b3), .val (.ref b14), .val (.int (4 : Int32)), .val (.ref x3), .unset, .unset] [(.ref b277)]))
  have B291 : LI Z h277 b277 (List.replicate (n + (1 : Int32)).toNatClampNeg (0 : Int32)) := LI.new V277
  have HL291 : (List.replicate (n + (1 : Int32)).toNatClampNeg (0 : Int32)).length = n.toInt.toNat + 1 := by rw [List.length_replicate]; omega
  refine own_astore X277 hx hby d_57_1__220 rfl (Ls' := #[.val (.ref a), .val (.int n), .val (.int (0 : Int32)), .val (.int (0 : Int32)), .val (.ref li), .val (.int (4 : Int32)), .val (.ref b3), .val (.ref b14), .val (.ref b277), .val (.ref x3), .unset, .unset]) rfl (pc' := 222) rfl ?_
  refine own_iconst X277 hx hby d_57_1__222 (v := (1 : Int32)) rfl (pc' := 223) rfl ?_
  refine own_istore X277 hx hby d_57_1__223  (Ls' := #[.val (.ref a), .val (.int n), .val (.int (0 : Int32)), .val (.int (0 : Int32)), .val (.ref li), .val (.int (4 : Int32)), .val (.ref b3), .val (.ref b14), .val (.ref b277), .val (.int (1 : Int32)), .unset, .unset]) rfl (pc' := 225) rfl ?_
  have LP225 : ∀ (d : Nat) (T : State) (h : Heap) (locs : List Loc) (j : Int32) (ys : List Int32), Stand p l e ({ frames := 3, cells := 14, slots := 69, locals := 100 } : Room) s m #[(.ref a), (.int n), (.int (0 : Int32)), (.int (0 : Int32)), (.ref li)] below meth c T locs 10 53 → T.heap = h → Fr n0 locs → Keep h277 h [b277] → LI Z h b277 ys → ys.length = n.toInt.toNat + 1 → 1 ≤ j.toInt → j.toInt + d = n.toInt + 1 → own_cp (own_fa n t0 t1 t2 t3) d j ys = (own_na n t0 t1 t2 t3) → GoP p e below Φ (T.setTop (mkF m 225 #[.val (.ref a), .val (.int n), .val (.int (0 : Int32)), .val (.int (0 : Int32)), .val (.ref li), .val (.int (4 : Int32)), .val (.ref b3), .val (.ref b14), .val (.ref b277), .val (.int j), .unset, .unset] [])) := by
    intro d
    induction d with
    | zero =>
      intro T h locs j ys X eT N KL IL HL g1 g2 hr
      have E292_a := E278_a.keep KL 
      have F293_graph := F279_graph.keep KL (ninS ne_a_b277 nin0)
      have F294_linkArc := F280_linkArc.keep KL (ninS ne_a_b277 nin0)
      have F295_capacity := F281_capacity.keep KL (ninS ne_a_b277 nin0)
      have F296_freeFlowTime := F282_freeFlowTime.keep KL (ninS ne_a_b277 nin0)
      have F297_b := F283_b.keep KL (ninS ne_a_b277 nin0)
      have F298_power := F284_power.keep KL (ninS ne_a_b277 nin0)
      have E299_gr := E285_gr.keep KL 
      have F300_firstArc := F286_firstArc.keep KL (ninS ne_gr_b277 nin0)
      have F301_arcHead := F287_arcHead.keep KL (ninS ne_gr_b277 nin0)
      have B302_fa := B288_fa.keep KL (ninS ne_fa_b277 nin0)
      have B303_ah := B289_ah.keep KL (ninS ne_ah_b277 nin0)
      have V304_b250 := V290_b250.keep KL (ninS ne_b250_b277 nin0)
      have KZ225 : Keep h0 h [a] := K277.trans KL (allS (Or.inr sz_b277) all0)
      have ZZ225 : n0 ≤ h.size := Nat.le_trans Z277 KL.1
      replace hr : ys = (own_na n t0 t1 t2 t3) := hr
      rw [hr] at IL HL
      refine own_iload X hx hby d_57_1__225 rfl (pc' := 227) rfl ?_
      refine own_iloadN X hx hby d_57_1__227 rfl (pc' := 228) rfl ?_
      refine own_icmpY X hx hby d_57_1__228 (tlt (own_ltI (by omega))).2.2.1 (by decide) (pc' := 251) (by decide) ?_
      refine own_aloadN X hx hby d_57_1__251 rfl rfl (pc' := 252) rfl ?_
      refine own_iload X hx hby d_57_1__252 rfl (pc' := 254) rfl ?_
      obtain ⟨T305, h305, k305, X305, e305, E305, A305, st305⟩ := newP X hx hZ (own_w hw 196 rfl) eT (g := (mkF m 254 #[.val (.ref a), .val (.int n), .val (.int (0 : Int32)), .val (.int (0 : Int32)), .val (.ref li), .val (.int (4 : Int32)), .val (.ref b3), .val (.ref b14), .val (.ref b277), .val (.int j), .unset, .unset] [(.int (4 : Int32)), (.ref a)])) rfl (hb hby d_57_1__254) rfl (by decide) (cap := 4) (by decide) (by decide) (by decide) (by decide)
      obtain ⟨b305, g305⟩ : ∃ z, z = h.size := ⟨_, rfl⟩
      have ne_a_b305 : a ≠ b305 := Nat.ne_of_lt (g305 ▸ E292_a.lt)
      have ne_gr_b305 : gr ≠ b305 := Nat.ne_of_lt (g305 ▸ E299_gr.lt)
      have ne_ah_b305 : ah ≠ b305 := Nat.ne_of_lt (g305 ▸ B303_ah.lt)
      have ne_b250_b305 : b250 ≠ b305 := Nat.ne_of_lt (g305 ▸ V304_b250.lt)
      have ne_b277_b305 : b277 ≠ b305 := Nat.ne_of_lt (g305 ▸ IL.lt)
      have E306_a := E292_a.ext E305
      have F307_graph := F293_graph.ext E305
      have F308_linkArc := F294_linkArc.ext E305
      have F309_capacity := F295_capacity.ext E305
      have F310_freeFlowTime := F296_freeFlowTime.ext E305
      have F311_b := F297_b.ext E305
      have F312_power := F298_power.ext E305
      have E313_gr := E299_gr.ext E305
      have F314_arcHead := F301_arcHead.ext E305
      have B315_ah := B303_ah.ext E305
      have V316_b250 := V304_b250.ext E305
      have B317_b277 := IL.ext E305
      have Z305 : n0 ≤ h305.size := Nat.le_trans ZZ225 E305.1
      have n0_b305 : n0 ≤ b305 := g305 ▸ ZZ225
      have sz_b305 : h0.size ≤ b305 := g305 ▸ KZ225.1
      have K305 : Keep h0 h305 [a] := KZ225.ext E305
      rw [← g305] at A305 st305
      refine own_step st305 ?_
      have V305 : AV Z h305 b305 .double [(.double 0), (.double 0), (.double 0), (.double 0)] := AV.new A305 (by decide)
      show GoP p e below Φ (T305.setTop (mkF m 256 #[.val (.ref a), .val (.int n), .val (.int (0 : Int32)), .val (.int (0 : Int32)), .val (.ref li), .val (.int (4 : Int32)), .val (.ref b3), .val (.ref b14), .val (.ref b277), .val (.int j), .unset, .unset] [(.ref b305), (.ref a)]))
      have M318 : LN Z h305 b305 .double 4 := ⟨_, rfl, V305⟩
      refine own_putF X305 hx hby hZ hown (host := "") (Or.inl (own_w hw 197 rfl)) Via.refl e305 F309_capacity E306_a (Or.inr ⟨(own_w hw 198 rfl), rfl, hnm⟩) (own_w hw 82 rfl) (ty := (.array .double)) (by decide) rfl rfl d_57_1__256 (pc' := 259) rfl ?_
      intro T319 h319 X319 e319 W319
      have E320_a := E306_a.wr W319
      have F321_graph := F307_graph.other W319 (Or.inr (slot_ne (Or.inr (own_w hw 182 rfl)) (Or.inr (own_w hw 198 rfl)) (by decide) (t := (.object "com/example/wayfold/wayfold/Graph")) (t' := (.array .double)) (by decide) (by decide)))
      have F322_linkArc := F308_linkArc.other W319 (Or.inr (slot_ne (Or.inr (own_w hw 190 rfl)) (Or.inr (own_w hw 198 rfl)) (by decide) (t := (.array .int)) (t' := (.array .double)) (by decide) (by decide)))
      have F323_capacity := F309_capacity.same W319
      have F324_freeFlowTime := F310_freeFlowTime.other W319 (Or.inr (slot_ne (Or.inr (own_w hw 200 rfl)) (Or.inr (own_w hw 198 rfl)) (by decide) (t := (.array .double)) (t' := (.array .double)) (by decide) (by decide)))
      have F325_b := F311_b.other W319 (Or.inr (slot_ne (Or.inr (own_w hw 202 rfl)) (Or.inr (own_w hw 198 rfl)) (by decide) (t := (.array .double)) (t' := (.array .double)) (by decide) (by decide)))
      have F326_power := F312_power.other W319 (Or.inr (slot_ne (Or.inr (own_w hw 204 rfl)) (Or.inr (own_w hw 198 rfl)) (by decide) (t := (.array .double)) (t' := (.array .double)) (by decide) (by decide)))
      have E327_gr := E313_gr.wr W319
      have F328_arcHead := F314_arcHead.other W319 (Or.inl (Ne.symm ne_a_gr))
      have B329_ah := B315_ah.other W319 (Ne.symm ne_a_ah)
      have V330_b250 := V316_b250.other W319 (Ne.symm ne_a_b250)
      have B331_b277 := B317_b277.other W319 (Ne.symm ne_a_b277)
      have M332_b305 := M318.other W319 (Ne.symm ne_a_b305)
      have Z319 : n0 ≤ h319.size := by rw [W319.size]; exact Z305
      have N319 := Fr.snoc X319 N n0_a
      have K319 : Keep h0 h319 [a] := K305.wr W319 (Or.inl (List.mem_of_getElem? (i := 0) rfl))
      refine own_aloadN X319 hx hby d_57_1__259 rfl rfl (pc' := 260) rfl ?_
      refine own_iload X319 hx hby d_57_1__260 rfl (pc' := 262) rfl ?_
      obtain ⟨T333, h333, k333, X333, e333, E333, A333, st333⟩ := newP X319 hx hZ (own_w hw 196 rfl) e319 (g := (mkF m 262 #[.val (.ref a), .val (.int n), .val (.int (0 : Int32)), .val (.int (0 : Int32)), .val (.ref li), .val (.int (4 : Int32)), .val (.ref b3), .val (.ref b14), .val (.ref b277), .val (.int j), .unset, .unset] [(.int (4 : Int32)), (.ref a)])) rfl (hb hby d_57_1__262) rfl (by decide) (cap := 4) (by decide) (by decide) (by decide) (by decide)
      obtain ⟨b333, g333⟩ : ∃ z, z = h319.size := ⟨_, rfl⟩
      have ne_a_b333 : a ≠ b333 := Nat.ne_of_lt (g333 ▸ E320_a.lt)
      have ne_gr_b333 : gr ≠ b333 := Nat.ne_of_lt (g333 ▸ E327_gr.lt)
      have ne_ah_b333 : ah ≠ b333 := Nat.ne_of_lt (g333 ▸ B329_ah.lt)
      have ne_b250_b333 : b250 ≠ b333 := Nat.ne_of_lt (g333 ▸ V330_b250.lt)
      have ne_b277_b333 : b277 ≠ b333 := Nat.ne_of_lt (g333 ▸ B331_b277.lt)
      have ne_b305_b333 : b305 ≠ b333 := Nat.ne_of_lt (g333 ▸ M332_b305.lt)
      have E334_a := E320_a.ext E333
      have F335_graph := F321_graph.ext E333
      have F336_linkArc := F322_linkArc.ext E333
      have F337_capacity := F323_capacity.ext E333
      have F338_freeFlowTime := F324_freeFlowTime.ext E333
      have F339_b := F325_b.ext E333
      have F340_power := F326_power.ext E333
      have E341_gr := E327_gr.ext E333
      have F342_arcHead := F328_arcHead.ext E333
      have B343_ah := B329_ah.ext E333
      have V344_b250 := V330_b250.ext E333
      have B345_b277 := B331_b277.ext E333
      have M346_b305 := M332_b305.ext E333
      have Z333 : n0 ≤ h333.size := Nat.le_trans Z319 E333.1
      have n0_b333 : n0 ≤ b333 := g333 ▸ Z319
      have sz_b333 : h0.size ≤ b333 := g333 ▸ K319.1
      have K333 : Keep h0 h333 [a] := K319.ext E333
      rw [← g333] at A333 st333
      refine own_step st333 ?_
      have V333 : AV Z h333 b333 .double [(.double 0), (.double 0), (.double 0), (.double 0)] := AV.new A333 (by decide)
      show GoP p e below Φ (T333.setTop (mkF m 264 #[.val (.ref a), .val (.int n), .val (.int (0 : Int32)), .val (.int (0 : Int32)), .val (.ref li), .val (.int (4 : Int32)), .val (.ref b3), .val (.ref b14), .val (.ref b277), .val (.int j), .unset, .unset] [(.ref b333), (.ref a)]))
      have M347 : LN Z h333 b333 .double 4 := ⟨_, rfl, V333⟩
      refine own_putF X333 hx hby hZ hown (host := "") (Or.inl (own_w hw 199 rfl)) Via.refl e333 F338_freeFlowTime E334_a (Or.inr ⟨(own_w hw 200 rfl), rfl, hnm⟩) (own_w hw 82 rfl) (ty := (.array .double)) (by decide) rfl rfl d_57_1__264 (pc' := 267) rfl ?_
      intro T348 h348 X348 e348 W348
      have E349_a := E334_a.wr W348
      have F350_graph := F335_graph.other W348 (Or.inr (slot_ne (Or.inr (own_w hw 182 rfl)) (Or.inr (own_w hw 200 rfl)) (by decide) (t := (.object "com/example/wayfold/wayfold/Graph")) (t' := (.array .double)) (by decide) (by decide)))
      have F351_linkArc := F336_linkArc.other W348 (Or.inr (slot_ne (Or.inr (own_w hw 190 rfl)) (Or.inr (own_w hw 200 rfl)) (by decide) (t := (.array .int)) (t' := (.array .double)) (by decide) (by decide)))
      have F352_capacity := F337_capacity.other W348 (Or.inr (slot_ne (Or.inr (own_w hw 198 rfl)) (Or.inr (own_w hw 200 rfl)) (by decide) (t := (.array .double)) (t' := (.array .double)) (by decide) (by decide)))
      have F353_freeFlowTime := F338_freeFlowTime.same W348
      have F354_b := F339_b.other W348 (Or.inr (slot_ne (Or.inr (own_w hw 202 rfl)) (Or.inr (own_w hw 200 rfl)) (by decide) (t := (.array .double)) (t' := (.array .double)) (by decide) (by decide)))
      have F355_power := F340_power.other W348 (Or.inr (slot_ne (Or.inr (own_w hw 204 rfl)) (Or.inr (own_w hw 200 rfl)) (by decide) (t := (.array .double)) (t' := (.array .double)) (by decide) (by decide)))
      have E356_gr := E341_gr.wr W348
      have F357_arcHead := F342_arcHead.other W348 (Or.inl (Ne.symm ne_a_gr))
      have B358_ah := B343_ah.other W348 (Ne.symm ne_a_ah)
      have V359_b250 := V344_b250.other W348 (Ne.symm ne_a_b250)
      have B360_b277 := B345_b277.other W348 (Ne.symm ne_a_b277)
      have M361_b305 := M346_b305.other W348 (Ne.symm ne_a_b305)
      have M362_b333 := M347.other W348 (Ne.symm ne_a_b333)
      have Z348 : n0 ≤ h348.size := by rw [W348.size]; exact Z333
      have N348 := Fr.snoc X348 N319 n0_a
      have K348 : Keep h0 h348 [a] := K333.wr W348 (Or.inl (List.mem_of_getElem? (i := 0) rfl))
      refine own_aloadN X348 hx hby d_57_1__267 rfl rfl (pc' := 268) rfl ?_
      refine own_iload X348 hx hby d_57_1__268 rfl (pc' := 270) rfl ?_
      obtain ⟨T363, h363, k363, X363, e363, E363, A363, st363⟩ := newP X348 hx hZ (own_w hw 196 rfl) e348 (g := (mkF m 270 #[.val (.ref a), .val (.int n), .val (.int (0 : Int32)), .val (.int (0 : Int32)), .val (.ref li), .val (.int (4 : Int32)), .val (.ref b3), .val (.ref b14), .val (.ref b277), .val (.int j), .unset, .unset] [(.int (4 : Int32)), (.ref a)])) rfl (hb hby d_57_1__270) rfl (by decide) (cap := 4) (by decide) (by decide) (by decide) (by decide)
      obtain ⟨b363, g363⟩ : ∃ z, z = h348.size := ⟨_, rfl⟩
      have ne_a_b363 : a ≠ b363 := Nat.ne_of_lt (g363 ▸ E349_a.lt)
      have ne_gr_b363 : gr ≠ b363 := Nat.ne_of_lt (g363 ▸ E356_gr.lt)
      have ne_ah_b363 : ah ≠ b363 := Nat.ne_of_lt (g363 ▸ B358_ah.lt)
      have ne_b250_b363 : b250 ≠ b363 := Nat.ne_of_lt (g363 ▸ V359_b250.lt)
      have ne_b277_b363 : b277 ≠ b363 := Nat.ne_of_lt (g363 ▸ B360_b277.lt)
      have ne_b305_b363 : b305 ≠ b363 := Nat.ne_of_lt (g363 ▸ M361_b305.lt)
      have ne_b333_b363 : b333 ≠ b363 := Nat.ne_of_lt (g363 ▸ M362_b333.lt)
      have E364_a := E349_a.ext E363
      have F365_graph := F350_graph.ext E363
      have F366_linkArc := F351_linkArc.ext E363
      have F367_capacity := F352_capacity.ext E363
      have F368_freeFlowTime := F353_freeFlowTime.ext E363
      have F369_b := F354_b.ext E363
      have F370_power := F355_power.ext E363
      have E371_gr := E356_gr.ext E363
      have F372_arcHead := F357_arcHead.ext E363
      have B373_ah := B358_ah.ext E363
      have V374_b250 := V359_b250.ext E363
      have B375_b277 := B360_b277.ext E363
      have M376_b305 := M361_b305.ext E363
      have M377_b333 := M362_b333.ext E363
      have Z363 : n0 ≤ h363.size := Nat.le_trans Z348 E363.1
      have n0_b363 : n0 ≤ b363 := g363 ▸ Z348
      have sz_b363 : h0.size ≤ b363 := g363 ▸ K348.1
      have K363 : Keep h0 h363 [a] := K348.ext E363
      rw [← g363] at A363 st363
      refine own_step st363 ?_
      have V363 : AV Z h363 b363 .double [(.double 0), (.double 0), (.double 0), (.double 0)] := AV.new A363 (by decide)
      show GoP p e below Φ (T363.setTop (mkF m 272 #[.val (.ref a), .val (.int n), .val (.int (0 : Int32)), .val (.int (0 : Int32)), .val (.ref li), .val (.int (4 : Int32)), .val (.ref b3), .val (.ref b14), .val (.ref b277), .val (.int j), .unset, .unset] [(.ref b363), (.ref a)]))
      have M378 : LN Z h363 b363 .double 4 := ⟨_, rfl, V363⟩
      refine own_putF X363 hx hby hZ hown (host := "") (Or.inl (own_w hw 201 rfl)) Via.refl e363 F369_b E364_a (Or.inr ⟨(own_w hw 202 rfl), rfl, hnm⟩) (own_w hw 82 rfl) (ty := (.array .double)) (by decide) rfl rfl d_57_1__272 (pc' := 275) rfl ?_
      intro T379 h379 X379 e379 W379
      have E380_a := E364_a.wr W379
      have F381_graph := F365_graph.other W379 (Or.inr (slot_ne (Or.inr (own_w hw 182 rfl)) (Or.inr (own_w hw 202 rfl)) (by decide) (t := (.object "com/example/wayfold/wayfold/Graph")) (t' := (.array .double)) (by decide) (by decide)))
      have F382_linkArc := F366_linkArc.other W379 (Or.inr (slot_ne (Or.inr (own_w hw 190 rfl)) (Or.inr (own_w hw 202 rfl)) (by decide) (t := (.array .int)) (t' := (.array .double)) (by decide) (by decide)))
      have F383_capacity := F367_capacity.other W379 (Or.inr (slot_ne (Or.inr (own_w hw 198 rfl)) (Or.inr (own_w hw 202 rfl)) (by decide) (t := (.array .double)) (t' := (.array .double)) (by decide) (by decide)))
      have F384_freeFlowTime := F368_freeFlowTime.other W379 (Or.inr (slot_ne (Or.inr (own_w hw 200 rfl)) (Or.inr (own_w hw 202 rfl)) (by decide) (t := (.array .double)) (t' := (.array .double)) (by decide) (by decide)))
      have F385_b := F369_b.same W379
      have F386_power := F370_power.other W379 (Or.inr (slot_ne (Or.inr (own_w hw 204 rfl)) (Or.inr (own_w hw 202 rfl)) (by decide) (t := (.array .double)) (t' := (.array .double)) (by decide) (by decide)))
      have E387_gr := E371_gr.wr W379
      have F388_arcHead := F372_arcHead.other W379 (Or.inl (Ne.symm ne_a_gr))
      have B389_ah := B373_ah.other W379 (Ne.symm ne_a_ah)
      have V390_b250 := V374_b250.other W379 (Ne.symm ne_a_b250)
      have B391_b277 := B375_b277.other W379 (Ne.symm ne_a_b277)
      have M392_b305 := M376_b305.other W379 (Ne.symm ne_a_b305)
      have M393_b333 := M377_b333.other W379 (Ne.symm ne_a_b333)
      have M394_b363 := M378.other W379 (Ne.symm ne_a_b363)
      have Z379 : n0 ≤ h379.size := by rw [W379.size]; exact Z363
      have N379 := Fr.snoc X379 N348 n0_a
      have K379 : Keep h0 h379 [a] := K363.wr W379 (Or.inl (List.mem_of_getElem? (i := 0) rfl))
      refine own_aloadN X379 hx hby d_57_1__275 rfl rfl (pc' := 276) rfl ?_
      refine own_iload X379 hx hby d_57_1__276 rfl (pc' := 278) rfl ?_
      obtain ⟨T395, h395, k395, X395, e395, E395, A395, st395⟩ := newP X379 hx hZ (own_w hw 196 rfl) e379 (g := (mkF m 278 #[.val (.ref a), .val (.int n), .val (.int (0 : Int32)), .val (.int (0 : Int32)), .val (.ref li), .val (.int (4 : Int32)), .val (.ref b3), .val (.ref b14), .val (.ref b277), .val (.int j), .unset, .unset] [(.int (4 : Int32)), (.ref a)])) rfl (hb hby d_57_1__278) rfl (by decide) (cap := 4) (by decide) (by decide) (by decide) (by decide)
      obtain ⟨b395, g395⟩ : ∃ z, z = h379.size := ⟨_, rfl⟩
      have ne_a_b395 : a ≠ b395 := Nat.ne_of_lt (g395 ▸ E380_a.lt)
      have ne_gr_b395 : gr ≠ b395 := Nat.ne_of_lt (g395 ▸ E387_gr.lt)
      have ne_ah_b395 : ah ≠ b395 := Nat.ne_of_lt (g395 ▸ B389_ah.lt)
      have ne_b250_b395 : b250 ≠ b395 := Nat.ne_of_lt (g395 ▸ V390_b250.lt)
      have ne_b277_b395 : b277 ≠ b395 := Nat.ne_of_lt (g395 ▸ B391_b277.lt)
      have ne_b305_b395 : b305 ≠ b395 := Nat.ne_of_lt (g395 ▸ M392_b305.lt)
      have ne_b333_b395 : b333 ≠ b395 := Nat.ne_of_lt (g395 ▸ M393_b333.lt)
      have ne_b363_b395 : b363 ≠ b395 := Nat.ne_of_lt (g395 ▸ M394_b363.lt)
      have E396_a := E380_a.ext E395
      have F397_graph := F381_graph.ext E395
      have F398_linkArc := F382_linkArc.ext E395
      have F399_capacity := F383_capacity.ext E395
      have F400_freeFlowTime := F384_freeFlowTime.ext E395
      have F401_b := F385_b.ext E395
      have F402_power := F386_power.ext E395
      have E403_gr := E387_gr.ext E395
      have F404_arcHead := F388_arcHead.ext E395
      have B405_ah := B389_ah.ext E395
      have V406_b250 := V390_b250.ext E395
      have B407_b277 := B391_b277.ext E395
      have M408_b305 := M392_b305.ext E395
      have M409_b333 := M393_b333.ext E395
      have M410_b363 := M394_b363.ext E395
      have Z395 : n0 ≤ h395.size := Nat.le_trans Z379 E395.1
      have n0_b395 : n0 ≤ b395 := g395 ▸ Z379
      have sz_b395 : h0.size ≤ b395 := g395 ▸ K379.1
      have K395 : Keep h0 h395 [a] := K379.ext E395
      rw [← g395] at A395 st395
      refine own_step st395 ?_
      have V395 : AV Z h395 b395 .double [(.double 0), (.double 0), (.double 0), (.double 0)] := AV.new A395 (by decide)
      show GoP p e below Φ (T395.setTop (mkF m 280 #[.val (.ref a), .val (.int n), .val (.int (0 : Int32)), .val (.int (0 : Int32)), .val (.ref li), .val (.int (4 : Int32)), .val (.ref b3), .val (.ref b14), .val (.ref b277), .val (.int j), .unset, .unset] [(.ref b395), (.ref a)]))
      have M411 : LN Z h395 b395 .double 4 := ⟨_, rfl, V395⟩
      refine own_putF X395 hx hby hZ hown (host := "") (Or.inl (own_w hw 203 rfl)) Via.refl e395 F402_power E396_a (Or.inr ⟨(own_w hw 204 rfl), rfl, hnm⟩) (own_w hw 82 rfl) (ty := (.array .double)) (by decide) rfl rfl d_57_1__280 (pc' := 283) rfl ?_
      intro T412 h412 X412 e412 W412
      have E413_a := E396_a.wr W412
      have F414_graph := F397_graph.other W412 (Or.inr (slot_ne (Or.inr (own_w hw 182 rfl)) (Or.inr (own_w hw 204 rfl)) (by decide) (t := (.object "com/example/wayfold/wayfold/Graph")) (t' := (.array .double)) (by decide) (by decide)))
      have F415_linkArc := F398_linkArc.other W412 (Or.inr (slot_ne (Or.inr (own_w hw 190 rfl)) (Or.inr (own_w hw 204 rfl)) (by decide) (t := (.array .int)) (t' := (.array .double)) (by decide) (by decide)))
      have F416_capacity := F399_capacity.other W412 (Or.inr (slot_ne (Or.inr (own_w hw 198 rfl)) (Or.inr (own_w hw 204 rfl)) (by decide) (t := (.array .double)) (t' := (.array .double)) (by decide) (by decide)))
      have F417_freeFlowTime := F400_freeFlowTime.other W412 (Or.inr (slot_ne (Or.inr (own_w hw 200 rfl)) (Or.inr (own_w hw 204 rfl)) (by decide) (t := (.array .double)) (t' := (.array .double)) (by decide) (by decide)))
      have F418_b := F401_b.other W412 (Or.inr (slot_ne (Or.inr (own_w hw 202 rfl)) (Or.inr (own_w hw 204 rfl)) (by decide) (t := (.array .double)) (t' := (.array .double)) (by decide) (by decide)))
      have F419_power := F402_power.same W412
      have E420_gr := E403_gr.wr W412
      have F421_arcHead := F404_arcHead.other W412 (Or.inl (Ne.symm ne_a_gr))
      have B422_ah := B405_ah.other W412 (Ne.symm ne_a_ah)
      have V423_b250 := V406_b250.other W412 (Ne.symm ne_a_b250)
      have B424_b277 := B407_b277.other W412 (Ne.symm ne_a_b277)
      have M425_b305 := M408_b305.other W412 (Ne.symm ne_a_b305)
      have M426_b333 := M409_b333.other W412 (Ne.symm ne_a_b333)
      have M427_b363 := M410_b363.other W412 (Ne.symm ne_a_b363)
      have M428_b395 := M411.other W412 (Ne.symm ne_a_b395)
      have Z412 : n0 ≤ h412.size := by rw [W412.size]; exact Z395
      have N412 := Fr.snoc X412 N379 n0_a
      have K412 : Keep h0 h412 [a] := K395.wr W412 (Or.inl (List.mem_of_getElem? (i := 0) rfl))
      refine own_iconst X412 hx hby d_57_1__283 (v := (0 : Int32)) rfl (pc' := 284) rfl ?_
      refine own_istore X412 hx hby d_57_1__284  (Ls' := #[.val (.ref a), .val (.int n), .val (.int (0 : Int32)), .val (.int (0 : Int32)), .val (.ref li), .val (.int (4 : Int32)), .val (.ref b3), .val (.ref b14), .val (.ref b277), .val (.int (0 : Int32)), .unset, .unset]) rfl (pc' := 286) rfl ?_
      refine own_iload X412 hx hby d_57_1__286 rfl (pc' := 288) rfl ?_
      refine own_iload X412 hx hby d_57_1__288 rfl (pc' := 290) rfl ?_
      refine own_icmpN X412 hx hby d_57_1__290 (tlt (by decide)).2.1 (pc' := 293) rfl ?_
      refine own_aload X412 hx hby d_57_1__293 rfl rfl (pc' := 295) rfl ?_
      refine own_iload X412 hx hby d_57_1__295 rfl (pc' := 297) rfl ?_
      refine own_callF X412 hx hby hZ (by exact hml) hown (x0 := (⟨"java/util/List", "get", "(I)Ljava/lang/Object;"⟩ : MethodName)) (y := (⟨"java/util/ArrayList", "get", "(I)Ljava/lang/Object;"⟩ : MethodName)) (own_w hw 98 rfl) (own_w hw 99 rfl) (own_w hw 100 rfl) (own_w hw 101 rfl) (own_w hw 102 rfl) (own_w hw 103 rfl) (own_w hw 104 rfl) (own_w hw 95 rfl) (own_w hw 2 rfl) rfl (own_w hw 105 rfl) (by decide) e412 0 (by decide) (by decide) (by decide) (by decide) (argsL := [(.int (0 : Int32))]) (rest := []) (lenOf pd__I_Ljava_lang_Object_ rfl) rfl (Nat.le_of_eq rfl) (El.keep K412) (rmG0 l Z a0 hw li es x0 (4 : Int32) (.ref x1) (.ref x2) (.ref x3) .null .null .null .null .null .null h412 (by decide) (El.keep K412) (Fs.keep K412 nin_li) (Fe.keep K412 nin_li) (V.keep K412 nin_es)) d_57_1__297 (pc' := 302) rfl ?_
      intro v429 T429 L429 X429 hQ429
      obtain ⟨rfl, rfl, e429⟩ := hQ429
      rw [List.append_nil] at X429
      replace e429 : T429.heap = h412 := e429
      show GoP p e below Φ (T429.setTop (mkF m 302 #[.val (.ref a), .val (.int n), .val (.int (0 : Int32)), .val (.int (0 : Int32)), .val (.ref li), .val (.int (4 : Int32)), .val (.ref b3), .val (.ref b14), .val (.ref b277), .val (.int (0 : Int32)), .unset, .unset] [(.ref x0)]))
      obtain ⟨T430, X430, e430, st430⟩ := castY X429 hx hZ hown (own_w hw 119 rfl) e429 (Ins.self (x0_0.keep K412)) (g := (mkF m 302 #[.val (.ref a), .val (.int n), .val (.int (0 : Int32)), .val (.int (0 : Int32)), .val (.ref li), .val (.int (4 : Int32)), .val (.ref b3), .val (.ref b14), .val (.ref b277), .val (.int (0 : Int32)), .unset, .unset] [(.ref x0)])) rfl rfl (hb hby d_57_1__302)
      refine own_step st430 ?_
      show GoP p e below Φ (T430.setTop (mkF m 305 #[.val (.ref a), .val (.int n), .val (.int (0 : Int32)), .val (.int (0 : Int32)), .val (.ref li), .val (.int (4 : Int32)), .val (.ref b3), .val (.ref b14), .val (.ref b277), .val (.int (0 : Int32)), .unset, .unset] [(.ref x0)]))
      refine own_astore X430 hx hby d_57_1__305 rfl (Ls' := #[.val (.ref a), .val (.int n), .val (.int (0 : Int32)), .val (.int (0 : Int32)), .val (.ref li), .val (.int (4 : Int32)), .val (.ref b3), .val (.ref b14), .val (.ref b277), .val (.int (0 : Int32)), .val (.ref x0), .unset]) rfl (pc' := 307) rfl ?_
      refine own_aload X430 hx hby d_57_1__307 rfl rfl (pc' := 309) rfl ?_
      refine own_aload X430 hx hby d_57_1__309 rfl rfl (pc' := 311) rfl ?_
      refine own_callV X430 hx hby hZ (by exact hml) hown (own_w hw 141 rfl) (own_w hw 142 rfl) (own_w hw 144 rfl) (own_w hw 143 rfl) (own_w hw 28 rfl) (own_w hw 145 rfl) (by decide) e430 1 (by decide) (by decide) (by decide) (by decide) (argsL := []) (rest := [(.ref b277)]) (lenOf pd___I rfl) rfl (Nat.le_of_eq rfl) (x0_0.keep K412) (rmL_tail l Z a0 hw x0 t0 h412 (x0_1.keep K412 nin_x0)) d_57_1__311 (pc' := 314) rfl ?_
      intro v431 T431 L431 X431 hQ431
      obtain ⟨rfl, rfl, e431⟩ := hQ431
      rw [List.append_nil] at X431
      replace e431 : T431.heap = h412 := e431
      show GoP p e below Φ (T431.setTop (mkF m 314 #[.val (.ref a), .val (.int n), .val (.int (0 : Int32)), .val (.int (0 : Int32)), .val (.ref li), .val (.int (4 : Int32)), .val (.ref b3), .val (.ref b14), .val (.ref b277), .val (.int (0 : Int32)), .val (.ref x0), .unset] [(.int t0), (.ref b277)]))
      refine own_dup2 X431 hx hby d_57_1__314 rfl rfl (pc' := 315) rfl ?_
      refine own_ialoadL X431 hx hby hZ e431 B424_b277 (by rw [HL]; exact ix_t0) d_57_1__315 (pc' := 316) rfl ?_
      refine own_dup_x2 X431 hx hby d_57_1__316 rfl rfl rfl (pc' := 317) rfl ?_
      refine own_iconst X431 hx hby d_57_1__317 (v := (1 : Int32)) rfl (pc' := 318) rfl ?_
      refine own_iadd X431 hx hby d_57_1__318 (pc' := 319) rfl ?_
      refine own_iastoreL X431 hx hby hZ e431 B424_b277 (by rw [HL]; exact ix_t0) d_57_1__319 (pc' := 320) rfl ?_
      intro T432 h432 X432 e432 W432 B432
      have E433_a := E413_a.wr W432
      have F434_graph := F414_graph.other W432 (Or.inl ne_a_b277)
      have F435_linkArc := F415_linkArc.other W432 (Or.inl ne_a_b277)
      have F436_capacity := F416_capacity.other W432 (Or.inl ne_a_b277)
      have F437_freeFlowTime := F417_freeFlowTime.other W432 (Or.inl ne_a_b277)
      have F438_b := F418_b.other W432 (Or.inl ne_a_b277)
      have F439_power := F419_power.other W432 (Or.inl ne_a_b277)
      have E440_gr := E420_gr.wr W432
      have F441_arcHead := F421_arcHead.other W432 (Or.inl ne_gr_b277)
      have B442_ah := B422_ah.other W432 ne_ah_b277
      have V443_b250 := V423_b250.other W432 ne_b250_b277
      have M445_b305 := M425_b305.other W432 (Ne.symm ne_b277_b305)
      have M446_b333 := M426_b333.other W432 (Ne.symm ne_b277_b333)
      have M447_b363 := M427_b363.other W432 (Ne.symm ne_b277_b363)
      have M448_b395 := M428_b395.other W432 (Ne.symm ne_b277_b395)
      have Z432 : n0 ≤ h432.size := by rw [W432.size]; exact Z412
      have N432 := Fr.snoc X432 N412 n0_b277
      have K432 : Keep h0 h432 [a] := K412.wr W432 (Or.inr sz_b277)
      refine own_istore X432 hx hby d_57_1__320  (Ls' := #[.val (.ref a), .val (.int n), .val (.int (0 : Int32)), .val (.int (0 : Int32)), .val (.ref li), .val (.int (4 : Int32)), .val (.ref b3), .val (.ref b14), .val (.ref b277), .val (.int (0 : Int32)), .val (.ref x0), .val (.int (own_g (own_na n t0 t1 t2 t3) t0))]) rfl (pc' := 322) rfl ?_
      have B449 : LI Z h432 b277 (own_inc (own_na n t0 t1 t2 t3) t0) := B432
      have HL449 := (own_inclen (own_na n t0 t1 t2 t3) t0).trans HL
      show GoP p e below Φ (T432.setTop (mkF m 322 #[.val (.ref a), .val (.int n), .val (.int (0 : Int32)), .val (.int (0 : Int32)), .val (.ref li), .val (.int (4 : Int32)), .val (.ref b3), .val (.ref b14), .val (.ref b277), .val (.int (0 : Int32)), .val (.ref x0), .val (.int (own_s0 (own_na n t0 t1 t2 t3) t0))] []))
      rw [hgo.2.1]
      refine own_aloadN X432 hx hby d_57_1__322 rfl rfl (pc' := 323) rfl ?_
      refine own_getF X432 hx hby hZ hown (host := "") (Or.inl (own_w hw 189 rfl)) Via.refl e432 F435_linkArc d_57_1__323 (pc' := 326) rfl ?_
      intro T450 X450 e450
      refine own_iload X450 hx hby d_57_1__326 rfl (pc' := 328) rfl ?_
      refine own_iload X450 hx hby d_57_1__328 rfl (pc' := 330) rfl ?_
      refine own_iastore X450 hx hby hZ e450 V443_b250 (by decide) (Nat.le_of_ble_eq_true rfl) d_57_1__330 (pc' := 331) rfl ?_
      intro T451 h451 X451 e451 W451 V451
      replace V451 : AV Z h451 b250 .int [(.int (own_s0 (own_nx n t0 t1 t2 t3) t0)), (.int (0 : Int32)), (.int (0 : Int32)), (.int (0 : Int32))] := V451
      have E452_a := E433_a.wr W451
      have F453_graph := F434_graph.other W451 (Or.inl ne_a_b250)
      have F454_linkArc := F435_linkArc.other W451 (Or.inl ne_a_b250)
      have F455_capacity := F436_capacity.other W451 (Or.inl ne_a_b250)
      have F456_freeFlowTime := F437_freeFlowTime.other W451 (Or.inl ne_a_b250)
      have F457_b := F438_b.other W451 (Or.inl ne_a_b250)
      have F458_power := F439_power.other W451 (Or.inl ne_a_b250)
      have E459_gr := E440_gr.wr W451
      have F460_arcHead := F441_arcHead.other W451 (Or.inl ne_gr_b250)
      have B461_ah := B442_ah.other W451 ne_ah_b250
      have B463_b277 := B449.other W451 (Ne.symm ne_b250_b277)
      have M464_b305 := M445_b305.other W451 (Ne.symm ne_b250_b305)
      have M465_b333 := M446_b333.other W451 (Ne.symm ne_b250_b333)
      have M466_b363 := M447_b363.other W451 (Ne.symm ne_b250_b363)
      have M467_b395 := M448_b395.other W451 (Ne.symm ne_b250_b395)
      have Z451 : n0 ≤ h451.size := by rw [W451.size]; exact Z432
      have N451 := Fr.snoc X451 N432 n0_b250
      have K451 : Keep h0 h451 [a] := K432.wr W451 (Or.inr sz_b250)
      refine own_aloadN X451 hx hby d_57_1__331 rfl rfl (pc' := 332) rfl ?_
      refine own_getF X451 hx hby hZ hown (host := "") (Or.inl (own_w hw 197 rfl)) Via.refl e451 F455_capacity d_57_1__332 (pc' := 335) rfl ?_
      intro T468 X468 e468
      refine own_iload X468 hx hby d_57_1__335 rfl (pc' := 337) rfl ?_
      refine own_aload X468 hx hby d_57_1__337 rfl rfl (pc' := 339) rfl ?_
      refine own_callV X468 hx hby hZ (by exact hml) hown (own_w hw 121 rfl) (own_w hw 122 rfl) (own_w hw 124 rfl) (own_w hw 123 rfl) (own_w hw 28 rfl) (own_w hw 125 rfl) (by decide) e468 2 (by decide) (by decide) (by decide) (by decide) (argsL := []) (rest := [(.int (own_s0 (own_nx n t0 t1 t2 t3) t0)), (.ref b305)]) (lenOf pd___D rfl) rfl (Nat.le_of_eq rfl) (x0_0.keep K451) (rmL_capacity l Z a0 hw x0 FP.dconst1 h451 (x0_3.keep K451 nin_x0)) d_57_1__339 (pc' := 342) rfl ?_
      intro v469 T469 L469 X469 hQ469
      obtain ⟨rfl, rfl, e469⟩ := hQ469
      rw [List.append_nil] at X469
      replace e469 : T469.heap = h451 := e469
      show GoP p e below Φ (T469.setTop (mkF m 342 #[.val (.ref a), .val (.int n), .val (.int (0 : Int32)), .val (.int (0 : Int32)), .val (.ref li), .val (.int (4 : Int32)), .val (.ref b3), .val (.ref b14), .val (.ref b277), .val (.int (0 : Int32)), .val (.ref x0), .val (.int (own_s0 (own_nx n t0 t1 t2 t3) t0))] [(.double FP.dconst1), (.int (own_s0 (own_nx n t0 t1 t2 t3) t0)), (.ref b305)]))
      refine own_dastoreN X469 hx hby hZ e469 M464_b305 hsm.1 d_57_1__342 (pc' := 343) rfl ?_
      intro T470 h470 X470 e470 W470 M470
      have E471_a := E452_a.wr W470
      have F472_graph := F453_graph.other W470 (Or.inl ne_a_b305)
      have F473_linkArc := F454_linkArc.other W470 (Or.inl ne_a_b305)
      have F474_capacity := F455_capacity.other W470 (Or.inl ne_a_b305)
      have F475_freeFlowTime := F456_freeFlowTime.other W470 (Or.inl ne_a_b305)
      have F476_b := F457_b.other W470 (Or.inl ne_a_b305)
      have F477_power := F458_power.other W470 (Or.inl ne_a_b305)
      have E478_gr := E459_gr.wr W470
      have F479_arcHead := F460_arcHead.other W470 (Or.inl ne_gr_b305)
      have B480_ah := B461_ah.other W470 ne_ah_b305
      have V481_b250 := V451.other W470 ne_b250_b305
      have B482_b277 := B463_b277.other W470 ne_b277_b305
      have M484_b333 := M465_b333.other W470 (Ne.symm ne_b305_b333)
      have M485_b363 := M466_b363.other W470 (Ne.symm ne_b305_b363)
      have M486_b395 := M467_b395.other W470 (Ne.symm ne_b305_b395)
      have Z470 : n0 ≤ h470.size := by rw [W470.size]; exact Z451
      have N470 := Fr.snoc X470 N451 n0_b305
      have K470 : Keep h0 h470 [a] := K451.wr W470 (Or.inr sz_b305)
      refine own_aloadN X470 hx hby d_57_1__343 rfl rfl (pc' := 344) rfl ?_
      refine own_getF X470 hx hby hZ hown (host := "") (Or.inl (own_w hw 199 rfl)) Via.refl e470 F475_freeFlowTime d_57_1__344 (pc' := 347) rfl ?_
      intro T487 X487 e487
      refine own_iload X487 hx hby d_57_1__347 rfl (pc' := 349) rfl ?_
      refine own_aload X487 hx hby d_57_1__349 rfl rfl (pc' := 351) rfl ?_
      refine own_callV X487 hx hby hZ (by exact hml) hown (own_w hw 126 rfl) (own_w hw 127 rfl) (own_w hw 129 rfl) (own_w hw 128 rfl) (own_w hw 28 rfl) (own_w hw 130 rfl) (by decide) e487 2 (by decide) (by decide) (by decide) (by decide) (argsL := []) (rest := [(.int (own_s0 (own_nx n t0 t1 t2 t3) t0)), (.ref b333)]) (lenOf pd___D rfl) rfl (Nat.le_of_eq rfl) (x0_0.keep K470) (rmL_freeFlowTime l Z a0 hw x0 FP.dconst0 h470 (x0_4.keep K470 nin_x0)) d_57_1__351 (pc' := 354) rfl ?_
      intro v488 T488 L488 X488 hQ488
      obtain ⟨rfl, rfl, e488⟩ := hQ488
      rw [List.append_nil] at X488
      replace e488 : T488.heap = h470 := e488
      show GoP p e below Φ (T488.setTop (mkF m 354 #[.val (.ref a), .val (.int n), .val (.int (0 : Int32)), .val (.int (0 : Int32)), .val (.ref li), .val (.int (4 : Int32)), .val (.ref b3), .val (.ref b14), .val (.ref b277), .val (.int (0 : Int32)), .val (.ref x0), .val (.int (own_s0 (own_nx n t0 t1 t2 t3) t0))] [(.double FP.dconst0), (.int (own_s0 (own_nx n t0 t1 t2 t3) t0)), (.ref b333)]))
      refine own_dastoreN X488 hx hby hZ e488 M484_b333 hsm.1 d_57_1__354 (pc' := 355) rfl ?_
      intro T489 h489 X489 e489 W489 M489
      have E490_a := E471_a.wr W489
      have F491_graph := F472_graph.other W489 (Or.inl ne_a_b333)
      have F492_linkArc := F473_linkArc.other W489 (Or.inl ne_a_b333)
      have F493_capacity := F474_capacity.other W489 (Or.inl ne_a_b333)
      have F494_freeFlowTime := F475_freeFlowTime.other W489 (Or.inl ne_a_b333)
      have F495_b := F476_b.other W489 (Or.inl ne_a_b333)
      have F496_power := F477_power.other W489 (Or.inl ne_a_b333)
      have E497_gr := E478_gr.wr W489
      have F498_arcHead := F479_arcHead.other W489 (Or.inl ne_gr_b333)
      have B499_ah := B480_ah.other W489 ne_ah_b333
      have V500_b250 := V481_b250.other W489 ne_b250_b333
      have B501_b277 := B482_b277.other W489 ne_b277_b333
      have M502_b305 := M470.other W489 ne_b305_b333
      have M504_b363 := M485_b363.other W489 (Ne.symm ne_b333_b363)
      have M505_b395 := M486_b395.other W489 (Ne.symm ne_b333_b395)
      have Z489 : n0 ≤ h489.size := by rw [W489.size]; exact Z470
      have N489 := Fr.snoc X489 N470 n0_b333
      have K489 : Keep h0 h489 [a] := K470.wr W489 (Or.inr sz_b333)
      refine own_aloadN X489 hx hby d_57_1__355 rfl rfl (pc' := 356) rfl ?_
      refine own_getF X489 hx hby hZ hown (host := "") (Or.inl (own_w hw 201 rfl)) Via.refl e489 F495_b d_57_1__356 (pc' := 359) rfl ?_
      intro T506 X506 e506
      refine own_iload X506 hx hby d_57_1__359 rfl (pc' := 361) rfl ?_
      refine own_aload X506 hx hby d_57_1__361 rfl rfl (pc' := 363) rfl ?_
      refine own_callV X506 hx hby hZ (by exact hml) hown (own_w hw 131 rfl) (own_w hw 132 rfl) (own_w hw 134 rfl) (own_w hw 133 rfl) (own_w hw 28 rfl) (own_w hw 135 rfl) (by decide) e506 2 (by decide) (by decide) (by decide) (by decide) (argsL := []) (rest := [(.int (own_s0 (own_nx n t0 t1 t2 t3) t0)), (.ref b363)]) (lenOf pd___D rfl) rfl (Nat.le_of_eq rfl) (x0_0.keep K489) (rmL_b l Z a0 hw x0 FP.dconst0 h489 (x0_5.keep K489 nin_x0)) d_57_1__363 (pc' := 366) rfl ?_
      intro v507 T507 L507 X507 hQ507
      obtain ⟨rfl, rfl, e507⟩ := hQ507
      rw [List.append_nil] at X507
      replace e507 : T507.heap = h489 := e507
      show GoP p e below Φ (T507.setTop (mkF m 366 #[.val (.ref a), .val (.int n), .val (.int (0 : Int32)), .val (.int (0 : Int32)), .val (.ref li), .val (.int (4 : Int32)), .val (.ref b3), .val (.ref b14), .val (.ref b277), .val (.int (0 : Int32)), .val (.ref x0), .val (.int (own_s0 (own_nx n t0 t1 t2 t3) t0))] [(.double FP.dconst0), (.int (own_s0 (own_nx n t0 t1 t2 t3) t0)), (.ref b363)]))
      refine own_dastoreN X507 hx hby hZ e507 M504_b363 hsm.1 d_57_1__366 (pc' := 367) rfl ?_
      intro T508 h508 X508 e508 W508 M508
      have E509_a := E490_a.wr W508
      have F510_graph := F491_graph.other W508 (Or.inl ne_a_b363)
      have F511_linkArc := F492_linkArc.other W508 (Or.inl ne_a_b363)
      have F512_capacity := F493_capacity.other W508 (Or.inl ne_a_b363)
      have F513_freeFlowTime := F494_freeFlowTime.other W508 (Or.inl ne_a_b363)
      have F514_b := F495_b.other W508 (Or.inl ne_a_b363)
      have F515_power := F496_power.other W508 (Or.inl ne_a_b363)
      have E516_gr := E497_gr.wr W508
      have F517_arcHead := F498_arcHead.other W508 (Or.inl ne_gr_b363)
      have B518_ah := B499_ah.other W508 ne_ah_b363
      have V519_b250 := V500_b250.other W508 ne_b250_b363
      have B520_b277 := B501_b277.other W508 ne_b277_b363
      have M521_b305 := M502_b305.other W508 ne_b305_b363
      have M522_b333 := M489.other W508 ne_b333_b363
      have M524_b395 := M505_b395.other W508 (Ne.symm ne_b363_b395)
      have Z508 : n0 ≤ h508.size := by rw [W508.size]; exact Z489
      have N508 := Fr.snoc X508 N489 n0_b363
      have K508 : Keep h0 h508 [a] := K489.wr W508 (Or.inr sz_b363)
      refine own_aloadN X508 hx hby d_57_1__367 rfl rfl (pc' := 368) rfl ?_
      refine own_getF X508 hx hby hZ hown (host := "") (Or.inl (own_w hw 203 rfl)) Via.refl e508 F515_power d_57_1__368 (pc' := 371) rfl ?_
      intro T525 X525 e525
      refine own_iload X525 hx hby d_57_1__371 rfl (pc' := 373) rfl ?_
      refine own_aload X525 hx hby d_57_1__373 rfl rfl (pc' := 375) rfl ?_
      refine own_callV X525 hx hby hZ (by exact hml) hown (own_w hw 136 rfl) (own_w hw 137 rfl) (own_w hw 139 rfl) (own_w hw 138 rfl) (own_w hw 28 rfl) (own_w hw 140 rfl) (by decide) e525 2 (by decide) (by decide) (by decide) (by decide) (argsL := []) (rest := [(.int (own_s0 (own_nx n t0 t1 t2 t3) t0)), (.ref b395)]) (lenOf pd___D rfl) rfl (Nat.le_of_eq rfl) (x0_0.keep K508) (rmL_power l Z a0 hw x0 FP.dconst0 h508 (x0_6.keep K508 nin_x0)) d_57_1__375 (pc' := 378) rfl ?_
      intro v526 T526 L526 X526 hQ526
      obtain ⟨rfl, rfl, e526⟩ := hQ526
      rw [List.append_nil] at X526
      replace e526 : T526.heap = h508 := e526
      show GoP p e below Φ (T526.setTop (mkF m 378 #[.val (.ref a), .val (.int n), .val (.int (0 : Int32)), .val (.int (0 : Int32)), .val (.ref li), .val (.int (4 : Int32)), .val (.ref b3), .val (.ref b14), .val (.ref b277), .val (.int (0 : Int32)), .val (.ref x0), .val (.int (own_s0 (own_nx n t0 t1 t2 t3) t0))] [(.double FP.dconst0), (.int (own_s0 (own_nx n t0 t1 t2 t3) t0)), (.ref b395)]))
      refine own_dastoreN X526 hx hby hZ e526 M524_b395 hsm.1 d_57_1__378 (pc' := 379) rfl ?_
      intro T527 h527 X527 e527 W527 M527
      have E528_a := E509_a.wr W527
      have F529_graph := F510_graph.other W527 (Or.inl ne_a_b395)
      have F530_linkArc := F511_linkArc.other W527 (Or.inl ne_a_b395)
      have F531_capacity := F512_capacity.other W527 (Or.inl ne_a_b395)
      have F532_freeFlowTime := F513_freeFlowTime.other W527 (Or.inl ne_a_b395)
      have F533_b := F514_b.other W527 (Or.inl ne_a_b395)
      have F534_power := F515_power.other W527 (Or.inl ne_a_b395)
      have E535_gr := E516_gr.wr W527
      have F536_arcHead := F517_arcHead.other W527 (Or.inl ne_gr_b395)
      have B537_ah := B518_ah.other W527 ne_ah_b395
      have V538_b250 := V519_b250.other W527 ne_b250_b395
      have B539_b277 := B520_b277.other W527 ne_b277_b395
      have M540_b305 := M521_b305.other W527 ne_b305_b395
      have M541_b333 := M522_b333.other W527 ne_b333_b395
      have M542_b363 := M508.other W527 ne_b363_b395
      have Z527 : n0 ≤ h527.size := by rw [W527.size]; exact Z508
      have N527 := Fr.snoc X527 N508 n0_b395
      have K527 : Keep h0 h527 [a] := K508.wr W527 (Or.inr sz_b395)
      refine own_iinc X527 hx hby d_57_1__379 rfl (v := (1 : Int32)) rfl (Ls' := #[.val (.ref a), .val (.int n), .val (.int (0 : Int32)), .val (.int (0 : Int32)), .val (.ref li), .val (.int (4 : Int32)), .val (.ref b3), .val (.ref b14), .val (.ref b277), .val (.int (1 : Int32)), .val (.ref x0), .val (.int (own_s0 (own_nx n t0 t1 t2 t3) t0))]) rfl (pc' := 382) rfl ?_
      refine own_goto X527 hx hby d_57_1__382 (by decide) (pc' := 286) (by decide) ?_
      refine own_iload X527 hx hby d_57_1__286 rfl (pc' := 288) rfl ?_
      refine own_iload X527 hx hby d_57_1__288 rfl (pc' := 290) rfl ?_
      refine own_icmpN X527 hx hby d_57_1__290 (tlt (by decide)).2.1 (pc' := 293) rfl ?_
      refine own_aload X527 hx hby d_57_1__293 rfl rfl (pc' := 295) rfl ?_
      refine own_iload X527 hx hby d_57_1__295 rfl (pc' := 297) rfl ?_
      refine own_callF X527 hx hby hZ (by exact hml) hown (x0 := (⟨"java/util/List", "get", "(I)Ljava/lang/Object;"⟩ : MethodName)) (y := (⟨"java/util/ArrayList", "get", "(I)Ljava/lang/Object;"⟩ : MethodName)) (own_w hw 98 rfl) (own_w hw 99 rfl) (own_w hw 100 rfl) (own_w hw 101 rfl) (own_w hw 102 rfl) (own_w hw 103 rfl) (own_w hw 104 rfl) (own_w hw 95 rfl) (own_w hw 2 rfl) rfl (own_w hw 105 rfl) (by decide) e527 0 (by decide) (by decide) (by decide) (by decide) (argsL := [(.int (1 : Int32))]) (rest := []) (lenOf pd__I_Ljava_lang_Object_ rfl) rfl (Nat.le_of_eq rfl) (El.keep K527) (rmG1 l Z a0 hw li es x1 (4 : Int32) (.ref x0) (.ref x2) (.ref x3) .null .null .null .null .null .null h527 (by decide) (El.keep K527) (Fs.keep K527 nin_li) (Fe.keep K527 nin_li) (V.keep K527 nin_es)) d_57_1__297 (pc' := 302) rfl ?_
      intro v544 T544 L544 X544 hQ544
      obtain ⟨rfl, rfl, e544⟩ := hQ544
      rw [List.append_nil] at X544
      replace e544 : T544.heap = h527 := e544
      show GoP p e below Φ (T544.setTop (mkF m 302 #[.val (.ref a), .val (.int n), .val (.int (0 : Int32)), .val (.int (0 : Int32)), .val (.ref li), .val (.int (4 : Int32)), .val (.ref b3), .val (.ref b14), .val (.ref b277), .val (.int (1 : Int32)), .val (.ref x0), .val (.int (own_s0 (own_nx n t0 t1 t2 t3) t0))] [(.ref x1)]))
      obtain ⟨T545, X545, e545, st545⟩ := castY X544 hx hZ hown (own_w hw 119 rfl) e544 (Ins.self (x1_0.keep K527)) (g := (mkF m 302 #[.val (.ref a), .val (.int n), .val (.int (0 : Int32)), .val (.int (0 : Int32)), .val (.ref li), .val (.int (4 : Int32)), .val (.ref b3), .val (.ref b14), .val (.ref b277), .val (.int (1 : Int32)), .val (.ref x0), .val (.int (own_s0 (own_nx n t0 t1 t2 t3) t0))] [(.ref x1)])) rfl rfl (hb hby d_57_1__302)
      refine own_step st545 ?_
      show GoP p e below Φ (T545.setTop (mkF m 305 #[.val (.ref a), .val (.int n), .val (.int (0 : Int32)), .val (.int (0 : Int32)), .val (.ref li), .val (.int (4 : Int32)), .val (.ref b3), .val (.ref b14), .val (.ref b277), .val (.int (1 : Int32)), .val (.ref x0), .val (.int (own_s0 (own_nx n t0 t1 t2 t3) t0))] [(.ref x1)]))
      refine own_astore X545 hx hby d_57_1__305 rfl (Ls' := #[.val (.ref a), .val (.int n), .val (.int (0 : Int32)), .val (.int (0 : Int32)), .val (.ref li), .val (.int (4 : Int32)), .val (.ref b3), .val (.ref b14), .val (.ref b277), .val (.int (1 : Int32)), .val (.ref x1), .val (.int (own_s0 (own_nx n t0 t1 t2 t3) t0))]) rfl (pc' := 307) rfl ?_
      refine own_aload X545 hx hby d_57_1__307 rfl rfl (pc' := 309) rfl ?_
      refine own_aload X545 hx hby d_57_1__309 rfl rfl (pc' := 311) rfl ?_
      refine own_callV X545 hx hby hZ (by exact hml) hown (own_w hw 141 rfl) (own_w hw 142 rfl) (own_w hw 144 rfl) (own_w hw 143 rfl) (own_w hw 28 rfl) (own_w hw 145 rfl) (by decide) e545 1 (by decide) (by decide) (by decide) (by decide) (argsL := []) (rest := [(.ref b277)]) (lenOf pd___I rfl) rfl (Nat.le_of_eq rfl) (x1_0.keep K527) (rmL_tail l Z a0 hw x1 t1 h527 (x1_1.keep K527 nin_x1)) d_57_1__311 (pc' := 314) rfl ?_
      intro v546 T546 L546 X546 hQ546
      obtain ⟨rfl, rfl, e546⟩ := hQ546
      rw [List.append_nil] at X546
      replace e546 : T546.heap = h527 := e546
      show GoP p e below Φ (T546.setTop (mkF m 314 #[.val (.ref a), .val (.int n), .val (.int (0 : Int32)), .val (.int (0 : Int32)), .val (.ref li), .val (.int (4 : Int32)), .val (.ref b3), .val (.ref b14), .val (.ref b277), .val (.int (1 : Int32)), .val (.ref x1), .val (.int (own_s0 (own_nx n t0 t1 t2 t3) t0))] [(.int t1), (.ref b277)]))
      refine own_dup2 X546 hx hby d_57_1__314 rfl rfl (pc' := 315) rfl ?_
      refine own_ialoadL X546 hx hby hZ e546 B539_b277 (by rw [HL449]; exact ix_t1) d_57_1__315 (pc' := 316) rfl ?_
      refine own_dup_x2 X546 hx hby d_57_1__316 rfl rfl rfl (pc' := 317) rfl ?_
      refine own_iconst X546 hx hby d_57_1__317 (v := (1 : Int32)) rfl (pc' := 318) rfl ?_
      refine own_iadd X546 hx hby d_57_1__318 (pc' := 319) rfl ?_
      refine own_iastoreL X546 hx hby hZ e546 B539_b277 (by rw [HL449]; exact ix_t1) d_57_1__319 (pc' := 320) rfl ?_
      intro T547 h547 X547 e547 W547 B547
      have E548_a := E528_a.wr W547
      have F549_graph := F529_graph.other W547 (Or.inl ne_a_b277)
      have F550_linkArc := F530_linkArc.other W547 (Or.inl ne_a_b277)
      have F551_capacity := F531_capacity.other W547 (Or.inl ne_a_b277)
      have F552_freeFlowTime := F532_freeFlowTime.other W547 (Or.inl ne_a_b277)
      have F553_b := F533_b.other W547 (Or.inl ne_a_b277)
      have F554_power := F534_power.other W547 (Or.inl ne_a_b277)
      have E555_gr := E535_gr.wr W547
      have F556_arcHead := F536_arcHead.other W547 (Or.inl ne_gr_b277)
      have B557_ah := B537_ah.other W547 ne_ah_b277
      have V558_b250 := V538_b250.other W547 ne_b250_b277
      have M560_b305 := M540_b305.other W547 (Ne.symm ne_b277_b305)
      have M561_b333 := M541_b333.other W547 (Ne.symm ne_b277_b333)
      have M562_b363 := M542_b363.other W547 (Ne.symm ne_b277_b363)
      have M563_b395 := M527.other W547 (Ne.symm ne_b277_b395)
      have Z547 : n0 ≤ h547.size := by rw [W547.size]; exact Z527
      have N547 := Fr.snoc X547 N527 n0_b277
      have K547 : Keep h0 h547 [a] := K527.wr W547 (Or.inr sz_b277)
      refine own_istore X547 hx hby d_57_1__320  (Ls' := #[.val (.ref a), .val (.int n), .val (.int (0 : Int32)), .val (.int (0 : Int32)), .val (.ref li), .val (.int (4 : Int32)), .val (.ref b3), .val (.ref b14), .val (.ref b277), .val (.int (1 : Int32)), .val (.ref x1), .val (.int (own_g (own_inc (own_na n t0 t1 t2 t3) t0) t1))]) rfl (pc' := 322) rfl ?_
      have B564 : LI Z h547 b277 (own_inc (own_inc (own_na n t0 t1 t2 t3) t0) t1) := B547
      have HL564 := (own_inclen (own_inc (own_na n t0 t1 t2 t3) t0) t1).trans HL449
      show GoP p e below Φ (T547.setTop (mkF m 322 #[.val (.ref a), .val (.int n), .val (.int (0 : Int32)), .val (.int (0 : Int32)), .val (.ref li), .val (.int (4 : Int32)), .val (.ref b3), .val (.ref b14), .val (.ref b277), .val (.int (1 : Int32)), .val (.ref x1), .val (.int (own_s1 (own_na n t0 t1 t2 t3) t0 t1))] []))
      rw [hgo.2.2.1]
      refine own_aloadN X547 hx hby d_57_1__322 rfl rfl (pc' := 323) rfl ?_
      refine own_getF X547 hx hby hZ hown (host := "") (Or.inl (own_w hw 189 rfl)) Via.refl e547 F550_linkArc d_57_1__323 (pc' := 326) rfl ?_
      intro T565 X565 e565
      refine own_iload X565 hx hby d_57_1__326 rfl (pc' := 328) rfl ?_
      refine own_iload X565 hx hby d_57_1__328 rfl (pc' := 330) rfl ?_
      refine own_iastore X565 hx hby hZ e565 V558_b250 (by decide) (Nat.le_of_ble_eq_true rfl) d_57_1__330 (pc' := 331) rfl ?_
      intro T566 h566 X566 e566 W566 V566
      replace V566 : AV Z h566 b250 .int [(.int (own_s0 (own_nx n t0 t1 t2 t3) t0)), (.int (own_s1 (own_nx n t0 t1 t2 t3) t0 t1)), (.int (0 : Int32)), (.int (0 : Int32))] := V566
      have E567_a := E548_a.wr W566
      have F568_graph := F549_graph.other W566 (Or.inl ne_a_b250)
      have F569_linkArc := F550_linkArc.other W566 (Or.inl ne_a_b250)
      have F570_capacity := F551_capacity.other W566 (Or.inl ne_a_b250)
      have F571_freeFlowTime := F552_freeFlowTime.other W566 (Or.inl ne_a_b250)
      have F572_b := F553_b.other W566 (Or.inl ne_a_b250)
      have F573_power := F554_power.other W566 (Or.inl ne_a_b250)
      have E574_gr := E555_gr.wr W566
      have F575_arcHead := F556_arcHead.other W566 (Or.inl ne_gr_b250)
      have B576_ah := B557_ah.other W566 ne_ah_b250
      have B578_b277 := B564.other W566 (Ne.symm ne_b250_b277)
      have M579_b305 := M560_b305.other W566 (Ne.symm ne_b250_b305)
      have M580_b333 := M561_b333.other W566 (Ne.symm ne_b250_b333)
      have M581_b363 := M562_b363.other W566 (Ne.symm ne_b250_b363)
      have M582_b395 := M563_b395.other W566 (Ne.symm ne_b250_b395)
      have Z566 : n0 ≤ h566.size := by rw [W566.size]; exact Z547
      have N566 := Fr.snoc X566 N547 n0_b250
      have K566 : Keep h0 h566 [a] := K547.wr W566 (Or.inr sz_b250)
      refine own_aloadN X566 hx hby d_57_1__331 rfl rfl (pc' := 332) rfl ?_
      refine own_getF X566 hx hby hZ hown (host := "") (Or.inl (own_w hw 197 rfl)) Via.refl e566 F570_capacity d_57_1__332 (pc' := 335) rfl ?_
      intro T583 X583 e583
      refine own_iload X583 hx hby d_57_1__335 rfl (pc' := 337) rfl ?_
      refine own_aload X583 hx hby d_57_1__337 rfl rfl (pc' := 339) rfl ?_
      refine own_callV X583 hx hby hZ (by exact hml) hown (own_w hw 121 rfl) (own_w hw 122 rfl) (own_w hw 124 rfl) (own_w hw 123 rfl) (own_w hw 28 rfl) (own_w hw 125 rfl) (by decide) e583 2 (by decide) (by decide) (by decide) (by decide) (argsL := []) (rest := [(.int (own_s1 (own_nx n t0 t1 t2 t3) t0 t1)), (.ref b305)]) (lenOf pd___D rfl) rfl (Nat.le_of_eq rfl) (x1_0.keep K566) (rmL_capacity l Z a0 hw x1 FP.dconst1 h566 (x1_3.keep K566 nin_x1)) d_57_1__339 (pc' := 342) rfl ?_
      intro v584 T584 L584 X584 hQ584
      obtain ⟨rfl, rfl, e584⟩ := hQ584
      rw [List.append_nil] at X584
      replace e584 : T584.heap = h566 := e584
      show GoP p e below Φ (T584.setTop (mkF m 342 #[.val (.ref a), .val (.int n), .val (.int (0 : Int32)), .val (.int (0 : Int32)), .val (.ref li), .val (.int (4 : Int32)), .val (.ref b3), .val (.ref b14), .val (.ref b277), .val (.int (1 : Int32)), .val (.ref x1), .val (.int (own_s1 (own_nx n t0 t1 t2 t3) t0 t1))] [(.double FP.dconst1), (.int (own_s1 (own_nx n t0 t1 t2 t3) t0 t1)), (.ref b305)]))
      refine own_dastoreN X584 hx hby hZ e584 M579_b305 hsm.2.1 d_57_1__342 (pc' := 343) rfl ?_
      intro T585 h585 X585 e585 W585 M585
      have E586_a := E567_a.wr W585
      have F587_graph := F568_graph.other W585 (Or.inl ne_a_b305)
      have F588_linkArc := F569_linkArc.other W585 (Or.inl ne_a_b305)
      have F589_capacity := F570_capacity.other W585 (Or.inl ne_a_b305)
      have F590_freeFlowTime := F571_freeFlowTime.other W585 (Or.inl ne_a_b305)
      have F591_b := F572_b.other W585 (Or.inl ne_a_b305)
      have F592_power := F573_power.other W585 (Or.inl ne_a_b305)
      have E593_gr := E574_gr.wr W585
      have F594_arcHead := F575_arcHead.other W585 (Or.inl ne_gr_b305)
      have B595_ah := B576_ah.other W585 ne_ah_b305
      have V596_b250 := V566.other W585 ne_b250_b305
      have B597_b277 := B578_b277.other W585 ne_b277_b305
      have M599_b333 := M580_b333.other W585 (Ne.symm ne_b305_b333)
      have M600_b363 := M581_b363.other W585 (Ne.symm ne_b305_b363)
      have M601_b395 := M582_b395.other W585 (Ne.symm ne_b305_b395)
      have Z585 : n0 ≤ h585.size := by rw [W585.size]; exact Z566
      have N585 := Fr.snoc X585 N566 n0_b305
      have K585 : Keep h0 h585 [a] := K566.wr W585 (Or.inr sz_b305)
      refine own_aloadN X585 hx hby d_57_1__343 rfl rfl (pc' := 344) rfl ?_
      refine own_getF X585 hx hby hZ hown (host := "") (Or.inl (own_w hw 199 rfl)) Via.refl e585 F590_freeFlowTime d_57_1__344 (pc' := 347) rfl ?_
      intro T602 X602 e602
      refine own_iload X602 hx hby d_57_1__347 rfl (pc' := 349) rfl ?_
      refine own_aload X602 hx hby d_57_1__349 rfl rfl (pc' := 351) rfl ?_
      refine own_callV X602 hx hby hZ (by exact hml) hown (own_w hw 126 rfl) (own_w hw 127 rfl) (own_w hw 129 rfl) (own_w hw 128 rfl) (own_w hw 28 rfl) (own_w hw 130 rfl) (by decide) e602 2 (by decide) (by decide) (by decide) (by decide) (argsL := []) (rest := [(.int (own_s1 (own_nx n t0 t1 t2 t3) t0 t1)), (.ref b333)]) (lenOf pd___D rfl) rfl (Nat.le_of_eq rfl) (x1_0.keep K585) (rmL_freeFlowTime l Z a0 hw x1 FP.dconst0 h585 (x1_4.keep K585 nin_x1)) d_57_1__351 (pc' := 354) rfl ?_
      intro v603 T603 L603 X603 hQ603
      obtain ⟨rfl, rfl, e603⟩ := hQ603
      rw [List.append_nil] at X603
      replace e603 : T603.heap = h585 := e603
      show GoP p e below Φ (T603.setTop (mkF m 354 #[.val (.ref a), .val (.int n), .val (.int (0 : Int32)), .val (.int (0 : Int32)), .val (.ref li), .val (.int (4 : Int32)), .val (.ref b3), .val (.ref b14), .val (.ref b277), .val (.int (1 : Int32)), .val (.ref x1), .val (.int (own_s1 (own_nx n t0 t1 t2 t3) t0 t1))] [(.double FP.dconst0), (.int (own_s1 (own_nx n t0 t1 t2 t3) t0 t1)), (.ref b333)]))
      refine own_dastoreN X603 hx hby hZ e603 M599_b333 hsm.2.1 d_57_1__354 (pc' := 355) rfl ?_
      intro T604 h604 X604 e604 W604 M604
      have E605_a := E586_a.wr W604
      have F606_graph := F587_graph.other W604 (Or.inl ne_a_b333)
      have F607_linkArc := F588_linkArc.other W604 (Or.inl ne_a_b333)
      have F608_capacity := F589_capacity.other W604 (Or.inl ne_a_b333)
      have F609_freeFlowTime := F590_freeFlowTime.other W604 (Or.inl ne_a_b333)
      have F610_b := F591_b.other W604 (Or.inl ne_a_b333)
      have F611_power := F592_power.other W604 (Or.inl ne_a_b333)
      have E612_gr := E593_gr.wr W604
      have F613_arcHead := F594_arcHead.other W604 (Or.inl ne_gr_b333)
      have B614_ah := B595_ah.other W604 ne_ah_b333
      have V615_b250 := V596_b250.other W604 ne_b250_b333
      have B616_b277 := B597_b277.other W604 ne_b277_b333
      have M617_b305 := M585.other W604 ne_b305_b333
      have M619_b363 := M600_b363.other W604 (Ne.symm ne_b333_b363)
      have M620_b395 := M601_b395.other W604 (Ne.symm ne_b333_b395)
      have Z604 : n0 ≤ h604.size := by rw [W604.size]; exact Z585
      have N604 := Fr.snoc X604 N585 n0_b333
      have K604 : Keep h0 h604 [a] := K585.wr W604 (Or.inr sz_b333)
      refine own_aloadN X604 hx hby d_57_1__355 rfl rfl (pc' := 356) rfl ?_
      refine own_getF X604 hx hby hZ hown (host := "") (Or.inl (own_w hw 201 rfl)) Via.refl e604 F610_b d_57_1__356 (pc' := 359) rfl ?_
      intro T621 X621 e621
      refine own_iload X621 hx hby d_57_1__359 rfl (pc' := 361) rfl ?_
      refine own_aload X621 hx hby d_57_1__361 rfl rfl (pc' := 363) rfl ?_
      refine own_callV X621 hx hby hZ (by exact hml) hown (own_w hw 131 rfl) (own_w hw 132 rfl) (own_w hw 134 rfl) (own_w hw 133 rfl) (own_w hw 28 rfl) (own_w hw 135 rfl) (by decide) e621 2 (by decide) (by decide) (by decide) (by decide) (argsL := []) (rest := [(.int (own_s1 (own_nx n t0 t1 t2 t3) t0 t1)), (.ref b363)]) (lenOf pd___D rfl) rfl (Nat.le_of_eq rfl) (x1_0.keep K604) (rmL_b l Z a0 hw x1 FP.dconst0 h604 (x1_5.keep K604 nin_x1)) d_57_1__363 (pc' := 366) rfl ?_
      intro v622 T622 L622 X622 hQ622
      obtain ⟨rfl, rfl, e622⟩ := hQ622
      rw [List.append_nil] at X622
      replace e622 : T622.heap = h604 := e622
      show GoP p e below Φ (T622.setTop (mkF m 366 #[.val (.ref a), .val (.int n), .val (.int (0 : Int32)), .val (.int (0 : Int32)), .val (.ref li), .val (.int (4 : Int32)), .val (.ref b3), .val (.ref b14), .val (.ref b277), .val (.int (1 : Int32)), .val (.ref x1), .val (.int (own_s1 (own_nx n t0 t1 t2 t3) t0 t1))] [(.double FP.dconst0), (.int (own_s1 (own_nx n t0 t1 t2 t3) t0 t1)), (.ref b363)]))
      refine own_dastoreN X622 hx hby hZ e622 M619_b363 hsm.2.1 d_57_1__366 (pc' := 367) rfl ?_
      intro T623 h623 X623 e623 W623 M623
      have E624_a := E605_a.wr W623
      have F625_graph := F606_graph.other W623 (Or.inl ne_a_b363)
      have F626_linkArc := F607_linkArc.other W623 (Or.inl ne_a_b363)
      have F627_capacity := F608_capacity.other W623 (Or.inl ne_a_b363)
      have F628_freeFlowTime := F609_freeFlowTime.other W623 (Or.inl ne_a_b363)
      have F629_b := F610_b.other W623 (Or.inl ne_a_b363)
      have F630_power := F611_power.other W623 (Or.inl ne_a_b363)
      have E631_gr := E612_gr.wr W623
      have F632_arcHead := F613_arcHead.other W623 (Or.inl ne_gr_b363)
      have B633_ah := B614_ah.other W623 ne_ah_b363
      have V634_b250 := V615_b250.other W623 ne_b250_b363
      have B635_b277 := B616_b277.other W623 ne_b277_b363
      have M636_b305 := M617_b305.other W623 ne_b305_b363
      have M637_b333 := M604.other W623 ne_b333_b363
      have M639_b395 := M620_b395.other W623 (Ne.symm ne_b363_b395)
      have Z623 : n0 ≤ h623.size := by rw [W623.size]; exact Z604
      have N623 := Fr.snoc X623 N604 n0_b363
      have K623 : Keep h0 h623 [a] := K604.wr W623 (Or.inr sz_b363)
      refine own_aloadN X623 hx hby d_57_1__367 rfl rfl (pc' := 368) rfl ?_
      refine own_getF X623 hx hby hZ hown (host := "") (Or.inl (own_w hw 203 rfl)) Via.refl e623 F630_power d_57_1__368 (pc' := 371) rfl ?_
      intro T640 X640 e640
      refine own_iload X640 hx hby d_57_1__371 rfl (pc' := 373) rfl ?_
      refine own_aload X640 hx hby d_57_1__373 rfl rfl (pc' := 375) rfl ?_
      refine own_callV X640 hx hby hZ (by exact hml) hown (own_w hw 136 rfl) (own_w hw 137 rfl) (own_w hw 139 rfl) (own_w hw 138 rfl) (own_w hw 28 rfl) (own_w hw 140 rfl) (by decide) e640 2 (by decide) (by decide) (by decide) (by decide) (argsL := []) (rest := [(.int (own_s1 (own_nx n t0 t1 t2 t3) t0 t1)), (.ref b395)]) (lenOf pd___D rfl) rfl (Nat.le_of_eq rfl) (x1_0.keep K623) (rmL_power l Z a0 hw x1 FP.dconst0 h623 (x1_6.keep K623 nin_x1)) d_57_1__375 (pc' := 378) rfl ?_
      intro v641 T641 L641 X641 hQ641
      obtain ⟨rfl, rfl, e641⟩ := hQ641
      rw [List.append_nil] at X641
      replace e641 : T641.heap = h623 := e641
      show GoP p e below Φ (T641.setTop (mkF m 378 #[.val (.ref a), .val (.int n), .val (.int (0 : Int32)), .val (.int (0 : Int32)), .val (.ref li), .val (.int (4 : Int32)), .val (.ref b3), .val (.ref b14), .val (.ref b277), .val (.int (1 : Int32)), .val (.ref x1), .val (.int (own_s1 (own_nx n t0 t1 t2 t3) t0 t1))] [(.double FP.dconst0), (.int (own_s1 (own_nx n t0 t1 t2 t3) t0 t1)), (.ref b395)]))
      refine own_dastoreN X641 hx hby hZ e641 M639_b395 hsm.2.1 d_57_1__378 (pc' := 379) rfl ?_
      intro T642 h642 X642 e642 W642 M642
      have E643_a := E624_a.wr W642
      have F644_graph := F625_graph.other W642 (Or.inl ne_a_b395)
      have F645_linkArc := F626_linkArc.other W642 (Or.inl ne_a_b395)
      have F646_capacity := F627_capacity.other W642 (Or.inl ne_a_b395)
      have F647_freeFlowTime := F628_freeFlowTime.other W642 (Or.inl ne_a_b395)
      have F648_b := F629_b.other W642 (Or.inl ne_a_b395)
      have F649_power := F630_power.other W642 (Or.inl ne_a_b395)
      have E650_gr := E631_gr.wr W642
      have F651_arcHead := F632_arcHead.other W642 (Or.inl ne_gr_b395)
      have B652_ah := B633_ah.other W642 ne_ah_b395
      have V653_b250 := V634_b250.other W642 ne_b250_b395
      have B654_b277 := B635_b277.other W642 ne_b277_b395
      have M655_b305 := M636_b305.other W642 ne_b305_b395
      have M656_b333 := M637_b333.other W642 ne_b333_b395
      have M657_b363 := M623.other W642 ne_b363_b395
      have Z642 : n0 ≤ h642.size := by rw [W642.size]; exact Z623
      have N642 := Fr.snoc X642 N623 n0_b395
      have K642 : Keep h0 h642 [a] := K623.wr W642 (Or.inr sz_b395)
      refine own_iinc X642 hx hby d_57_1__379 rfl (v := (1 : Int32)) rfl (Ls' := #[.val (.ref a), .val (.int n), .val (.int (0 : Int32)), .val (.int (0 : Int32)), .val (.ref li), .val (.int (4 : Int32)), .val (.ref b3), .val (.ref b14), .val (.ref b277), .val (.int (2 : Int32)), .val (.ref x1), .val (.int (own_s1 (own_nx n t0 t1 t2 t3) t0 t1))]) rfl (pc' := 382) rfl ?_
      refine own_goto X642 hx hby d_57_1__382 (by decide) (pc' := 286) (by decide) ?_
      refine own_iload X642 hx hby d_57_1__286 rfl (pc' := 288) rfl ?_
      refine own_iload X642 hx hby d_57_1__288 rfl (pc' := 290) rfl ?_
      refine own_icmpN X642 hx hby d_57_1__290 (tlt (by decide)).2.1 (pc' := 293) rfl ?_
      refine own_aload X642 hx hby d_57_1__293 rfl rfl (pc' := 295) rfl ?_
      refine own_iload X642 hx hby d_57_1__295 rfl (pc' := 297) rfl ?_
      refine own_callF X642 hx hby hZ (by exact hml) hown (x0 := (⟨"java/util/List", "get", "(I)Ljava/lang/Object;"⟩ : MethodName)) (y := (⟨"java/util/ArrayList", "get", "(I)Ljava/lang/Object;"⟩ : MethodName)) (own_w hw 98 rfl) (own_w hw 99 rfl) (own_w hw 100 rfl) (own_w hw 101 rfl) (own_w hw 102 rfl) (own_w hw 103 rfl) (own_w hw 104 rfl) (own_w hw 95 rfl) (own_w hw 2 rfl) rfl (own_w hw 105 rfl) (by decide) e642 0 (by decide) (by decide) (by decide) (by decide) (argsL := [(.int (2 : Int32))]) (rest := []) (lenOf pd__I_Ljava_lang_Object_ rfl) rfl (Nat.le_of_eq rfl) (El.keep K642) (rmG2 l Z a0 hw li es x2 (4 : Int32) (.ref x0) (.ref x1) (.ref x3) .null .null .null .null .null .null h642 (by decide) (El.keep K642) (Fs.keep K642 nin_li) (Fe.keep K642 nin_li) (V.keep K642 nin_es)) d_57_1__297 (pc' := 302) rfl ?_
      intro v659 T659 L659 X659 hQ659
      obtain ⟨rfl, rfl, e659⟩ := hQ659
      rw [List.append_nil] at X659
      replace e659 : T659.heap = h642 := e659
      show GoP p e below Φ (T659.setTop (mkF m 302 #[.val (.ref a), .val (.int n), .val (.int (0 : Int32)), .val (.int (0 : Int32)), .val (.ref li), .val (.int (4 : Int32)), .val (.ref b3), .val (.ref b14), .val (.ref b277), .val (.int (2 : Int32)), .val (.ref x1), .val (.int (own_s1 (own_nx n t0 t1 t2 t3) t0 t1))] [(.ref x2)]))
      obtain ⟨T660, X660, e660, st660⟩ := castY X659 hx hZ hown (own_w hw 119 rfl) e659 (Ins.self (x2_0.keep K642)) (g := (mkF m 302 #[.val (.ref a), .val (.int n), .val (.int (0 : Int32)), .val (.int (0 : Int32)), .val (.ref li), .val (.int (4 : Int32)), .val (.ref b3), .val (.ref b14), .val (.ref b277), .val (.int (2 : Int32)), .val (.ref x1), .val (.int (own_s1 (own_nx n t0 t1 t2 t3) t0 t1))] [(.ref x2)])) rfl rfl (hb hby d_57_1__302)
      refine own_step st660 ?_
      show GoP p e below Φ (T660.setTop (mkF m 305 #[.val (.ref a), .val (.int n), .val (.int (0 : Int32)), .val (.int (0 : Int32)), .val (.ref li), .val (.int (4 : Int32)), .val (.ref b3), .val (.ref b14), .val (.ref b277), .val (.int (2 : Int32)), .val (.ref x1), .val (.int (own_s1 (own_nx n t0 t1 t2 t3) t0 t1))] [(.ref x2)]))
      refine own_astore X660 hx hby d_57_1__305 rfl (Ls' := #[.val (.ref a), .val (.int n), .val (.int (0 : Int32)), .val (.int (0 : Int32)), .val (.ref li), .val (.int (4 : Int32)), .val (.ref b3), .val (.ref b14), .val (.ref b277), .val (.int (2 : Int32)), .val (.ref x2), .val (.int (own_s1 (own_nx n t0 t1 t2 t3) t0 t1))]) rfl (pc' := 307) rfl ?_
      refine own_aload X660 hx hby d_57_1__307 rfl rfl (pc' := 309) rfl ?_
      refine own_aload X660 hx hby d_57_1__309 rfl rfl (pc' := 311) rfl ?_
      refine own_callV X660 hx hby hZ (by exact hml) hown (own_w hw 141 rfl) (own_w hw 142 rfl) (own_w hw 144 rfl) (own_w hw 143 rfl) (own_w hw 28 rfl) (own_w hw 145 rfl) (by decide) e660 1 (by decide) (by decide) (by decide) (by decide) (argsL := []) (rest := [(.ref b277)]) (lenOf pd___I rfl) rfl (Nat.le_of_eq rfl) (x2_0.keep K642) (rmL_tail l Z a0 hw x2 t2 h642 (x2_1.keep K642 nin_x2)) d_57_1__311 (pc' := 314) rfl ?_
      intro v661 T661 L661 X661 hQ661
      obtain ⟨rfl, rfl, e661⟩ := hQ661
      rw [List.append_nil] at X661
      replace e661 : T661.heap = h642 := e661
      show GoP p e below Φ (T661.setTop (mkF m 314 #[.val (.ref a), .val (.int n), .val (.int (0 : Int32)), .val (.int (0 : Int32)), .val (.ref li), .val (.int (4 : Int32)), .val (.ref b3), .val (.ref b14), .val (.ref b277), .val (.int (2 : Int32)), .val (.ref x2), .val (.int (own_s1 (own_nx n t0 t1 t2 t3) t0 t1))] [(.int t2), (.ref b277)]))
      refine own_dup2 X661 hx hby d_57_1__314 rfl rfl (pc' := 315) rfl ?_
      refine own_ialoadL X661 hx hby hZ e661 B654_b277 (by rw [HL564]; exact ix_t2) d_57_1__315 (pc' := 316) rfl ?_
      refine own_dup_x2 X661 hx hby d_57_1__316 rfl rfl rfl (pc' := 317) rfl ?_
      refine own_iconst X661 hx hby d_57_1__317 (v := (1 : Int32)) rfl (pc' := 318) rfl ?_
      refine own_iadd X661 hx hby d_57_1__318 (pc' := 319) rfl ?_
      refine own_iastoreL X661 hx hby hZ e661 B654_b277 (by rw [HL564]; exact ix_t2) d_57_1__319 (pc' := 320) rfl ?_
      intro T662 h662 X662 e662 W662 B662
      have E663_a := E643_a.wr W662
      have F664_graph := F644_graph.other W662 (Or.inl ne_a_b277)
      have F665_linkArc := F645_linkArc.other W662 (Or.inl ne_a_b277)
      have F666_capacity := F646_capacity.other W662 (Or.inl ne_a_b277)
      have F667_freeFlowTime := F647_freeFlowTime.other W662 (Or.inl ne_a_b277)
      have F668_b := F648_b.other W662 (Or.inl ne_a_b277)
      have F669_power := F649_power.other W662 (Or.inl ne_a_b277)
      have E670_gr := E650_gr.wr W662
      have F671_arcHead := F651_arcHead.other W662 (Or.inl ne_gr_b277)
      have B672_ah := B652_ah.other W662 ne_ah_b277
      have V673_b250 := V653_b250.other W662 ne_b250_b277
      have M675_b305 := M655_b305.other W662 (Ne.symm ne_b277_b305)
      have M676_b333 := M656_b333.other W662 (Ne.symm ne_b277_b333)
      have M677_b363 := M657_b363.other W662 (Ne.symm ne_b277_b363)
      have M678_b395 := M642.other W662 (Ne.symm ne_b277_b395)
      have Z662 : n0 ≤ h662.size := by rw [W662.size]; exact Z642
      have N662 := Fr.snoc X662 N642 n0_b277
      have K662 : Keep h0 h662 [a] := K642.wr W662 (Or.inr sz_b277)
      refine own_istore X662 hx hby d_57_1__320  (Ls' := #[.val (.ref a), .val (.int n), .val (.int (0 : Int32)), .val (.int (0 : Int32)), .val (.ref li), .val (.int (4 : Int32)), .val (.ref b3), .val (.ref b14), .val (.ref b277), .val (.int (2 : Int32)), .val (.ref x2), .val (.int (own_g (own_inc (own_inc (own_na n t0 t1 t2 t3) t0) t1) t2))]) rfl (pc' := 322) rfl ?_
      have B679 : LI Z h662 b277 (own_inc (own_inc (own_inc (own_na n t0 t1 t2 t3) t0) t1) t2) := B662
      have HL679 := (own_inclen (own_inc (own_inc (own_na n t0 t1 t2 t3) t0) t1) t2).trans HL564
      show GoP p e below Φ (T662.setTop (mkF m 322 #[.val (.ref a), .val (.int n), .val (.int (0 : Int32)), .val (.int (0 : Int32)), .val (.ref li), .val (.int (4 : Int32)), .val (.ref b3), .val (.ref b14), .val (.ref b277), .val (.int (2 : Int32)), .val (.ref x2), .val (.int (own_s2 (own_na n t0 t1 t2 t3) t0 t1 t2))] []))
      rw [hgo.2.2.2.1]
      refine own_aloadN X662 hx hby d_57_1__322 rfl rfl (pc' := 323) rfl ?_
      refine own_getF X662 hx hby hZ hown (host := "") (Or.inl (own_w hw 189 rfl)) Via.refl e662 F665_linkArc d_57_1__323 (pc' := 326) rfl ?_
      intro T680 X680 e680
      refine own_iload X680 hx hby d_57_1__326 rfl (pc' := 328) rfl ?_
      refine own_iload X680 hx hby d_57_1__328 rfl (pc' := 330) rfl ?_
      refine own_iastore X680 hx hby hZ e680 V673_b250 (by decide) (Nat.le_of_ble_eq_true rfl) d_57_1__330 (pc' := 331) rfl ?_
      intro T681 h681 X681 e681 W681 V681
      replace V681 : AV Z h681 b250 .int [(.int (own_s0 (own_nx n t0 t1 t2 t3) t0)), (.int (own_s1 (own_nx n t0 t1 t2 t3) t0 t1)), (.int (own_s2 (own_nx n t0 t1 t2 t3) t0 t1 t2)), (.int (0 : Int32))] := V681
      have E682_a := E663_a.wr W681
      have F683_graph := F664_graph.other W681 (Or.inl ne_a_b250)
      have F684_linkArc := F665_linkArc.other W681 (Or.inl ne_a_b250)
      have F685_capacity := F666_capacity.other W681 (Or.inl ne_a_b250)
      have F686_freeFlowTime := F667_freeFlowTime.other W681 (Or.inl ne_a_b250)
      have F687_b := F668_b.other W681 (Or.inl ne_a_b250)
      have F688_power := F669_power.other W681 (Or.inl ne_a_b250)
      have E689_gr := E670_gr.wr W681
      have F690_arcHead := F671_arcHead.other W681 (Or.inl ne_gr_b250)
      have B691_ah := B672_ah.other W681 ne_ah_b250
      have B693_b277 := B679.other W681 (Ne.symm ne_b250_b277)
      have M694_b305 := M675_b305.other W681 (Ne.symm ne_b250_b305)
      have M695_b333 := M676_b333.other W681 (Ne.symm ne_b250_b333)
      have M696_b363 := M677_b363.other W681 (Ne.symm ne_b250_b363)
      have M697_b395 := M678_b395.other W681 (Ne.symm ne_b250_b395)
      have Z681 : n0 ≤ h681.size := by rw [W681.size]; exact Z662
      have N681 := Fr.snoc X681 N662 n0_b250
      have K681 : Keep h0 h681 [a] := K662.wr W681 (Or.inr sz_b250)
      refine own_aloadN X681 hx hby d_57_1__331 rfl rfl (pc' := 332) rfl ?_
      refine own_getF X681 hx hby hZ hown (host := "") (Or.inl (own_w hw 197 rfl)) Via.refl e681 F685_capacity d_57_1__332 (pc' := 335) rfl ?_
      intro T698 X698 e698
      refine own_iload X698 hx hby d_57_1__335 rfl (pc' := 337) rfl ?_
      refine own_aload X698 hx hby d_57_1__337 rfl rfl (pc' := 339) rfl ?_
      refine own_callV X698 hx hby hZ (by exact hml) hown (own_w hw 121 rfl) (own_w hw 122 rfl) (own_w hw 124 rfl) (own_w hw 123 rfl) (own_w hw 28 rfl) (own_w hw 125 rfl) (by decide) e698 2 (by decide) (by decide) (by decide) (by decide) (argsL := []) (rest := [(.int (own_s2 (own_nx n t0 t1 t2 t3) t0 t1 t2)), (.ref b305)]) (lenOf pd___D rfl) rfl (Nat.le_of_eq rfl) (x2_0.keep K681) (rmL_capacity l Z a0 hw x2 FP.dconst1 h681 (x2_3.keep K681 nin_x2)) d_57_1__339 (pc' := 342) rfl ?_
      intro v699 T699 L699 X699 hQ699
      obtain ⟨rfl, rfl, e699⟩ := hQ699
      rw [List.append_nil] at X699
      replace e699 : T699.heap = h681 := e699
      show GoP p e below Φ (T699.setTop (mkF m 342 #[.val (.ref a), .val (.int n), .val (.int (0 : Int32)), .val (.int (0 : Int32)), .val (.ref li), .val (.int (4 : Int32)), .val (.ref b3), .val (.ref b14), .val (.ref b277), .val (.int (2 : Int32)), .val (.ref x2), .val (.int (own_s2 (own_nx n t0 t1 t2 t3) t0 t1 t2))] [(.double FP.dconst1), (.int (own_s2 (own_nx n t0 t1 t2 t3) t0 t1 t2)), (.ref b305)]))
      refine own_dastoreN X699 hx hby hZ e699 M694_b305 hsm.2.2.1 d_57_1__342 (pc' := 343) rfl ?_
      intro T700 h700 X700 e700 W700 M700
      have E701_a := E682_a.wr W700
      have F702_graph := F683_graph.other W700 (Or.inl ne_a_b305)
      have F703_linkArc := F684_linkArc.other W700 (Or.inl ne_a_b305)
      have F704_capacity := F685_capacity.other W700 (Or.inl ne_a_b305)
      have F705_freeFlowTime := F686_freeFlowTime.other W700 (Or.inl ne_a_b305)
      have F706_b := F687_b.other W700 (Or.inl ne_a_b305)
      have F707_power := F688_power.other W700 (Or.inl ne_a_b305)
      have E708_gr := E689_gr.wr W700
      have F709_arcHead := F690_arcHead.other W700 (Or.inl ne_gr_b305)
      have B710_ah := B691_ah.other W700 ne_ah_b305
      have V711_b250 := V681.other W700 ne_b250_b305
      have B712_b277 := B693_b277.other W700 ne_b277_b305
      have M714_b333 := M695_b333.other W700 (Ne.symm ne_b305_b333)
      have M715_b363 := M696_b363.other W700 (Ne.symm ne_b305_b363)
      have M716_b395 := M697_b395.other W700 (Ne.symm ne_b305_b395)
      have Z700 : n0 ≤ h700.size := by rw [W700.size]; exact Z681
      have N700 := Fr.snoc X700 N681 n0_b305
      have K700 : Keep h0 h700 [a] := K681.wr W700 (Or.inr sz_b305)
      refine own_aloadN X700 hx hby d_57_1__343 rfl rfl (pc' := 344) rfl ?_
      refine own_getF X700 hx hby hZ hown (host := "") (Or.inl (own_w hw 199 rfl)) Via.refl e700 F705_freeFlowTime d_57_1__344 (pc' := 347) rfl ?_
      intro T717 X717 e717
      refine own_iload X717 hx hby d_57_1__347 rfl (pc' := 349) rfl ?_
      refine own_aload X717 hx hby d_57_1__349 rfl rfl (pc' := 351) rfl ?_
      refine own_callV X717 hx hby hZ (by exact hml) hown (own_w hw 126 rfl) (own_w hw 127 rfl) (own_w hw 129 rfl) (own_w hw 128 rfl) (own_w hw 28 rfl) (own_w hw 130 rfl) (by decide) e717 2 (by decide) (by decide) (by decide) (by decide) (argsL := []) (rest := [(.int (own_s2 (own_nx n t0 t1 t2 t3) t0 t1 t2)), (.ref b333)]) (lenOf pd___D rfl) rfl (Nat.le_of_eq rfl) (x2_0.keep K700) (rmL_freeFlowTime l Z a0 hw x2 FP.dconst0 h700 (x2_4.keep K700 nin_x2)) d_57_1__351 (pc' := 354) rfl ?_
      intro v718 T718 L718 X718 hQ718
      obtain ⟨rfl, rfl, e718⟩ := hQ718
      rw [List.append_nil] at X718
      replace e718 : T718.heap = h700 := e718
      show GoP p e below Φ (T718.setTop (mkF m 354 #[.val (.ref a), .val (.int n), .val (.int (0 : Int32)), .val (.int (0 : Int32)), .val (.ref li), .val (.int (4 : Int32)), .val (.ref b3), .val (.ref b14), .val (.ref b277), .val (.int (2 : Int32)), .val (.ref x2), .val (.int (own_s2 (own_nx n t0 t1 t2 t3) t0 t1 t2))] [(.double FP.dconst0), (.int (own_s2 (own_nx n t0 t1 t2 t3) t0 t1 t2)), (.ref b333)]))
      refine own_dastoreN X718 hx hby hZ e718 M714_b333 hsm.2.2.1 d_57_1__354 (pc' := 355) rfl ?_
      intro T719 h719 X719 e719 W719 M719
      have E720_a := E701_a.wr W719
      have F721_graph := F702_graph.other W719 (Or.inl ne_a_b333)
      have F722_linkArc := F703_linkArc.other W719 (Or.inl ne_a_b333)
      have F723_capacity := F704_capacity.other W719 (Or.inl ne_a_b333)
      have F724_freeFlowTime := F705_freeFlowTime.other W719 (Or.inl ne_a_b333)
      have F725_b := F706_b.other W719 (Or.inl ne_a_b333)
      have F726_power := F707_power.other W719 (Or.inl ne_a_b333)
      have E727_gr := E708_gr.wr W719
      have F728_arcHead := F709_arcHead.other W719 (Or.inl ne_gr_b333)
      have B729_ah := B710_ah.other W719 ne_ah_b333
      have V730_b250 := V711_b250.other W719 ne_b250_b333
      have B731_b277 := B712_b277.other W719 ne_b277_b333
      have M732_b305 := M700.other W719 ne_b305_b333
      have M734_b363 := M715_b363.other W719 (Ne.symm ne_b333_b363)
      have M735_b395 := M716_b395.other W719 (Ne.symm ne_b333_b395)
      have Z719 : n0 ≤ h719.size := by rw [W719.size]; exact Z700
      have N719 := Fr.snoc X719 N700 n0_b333
      have K719 : Keep h0 h719 [a] := K700.wr W719 (Or.inr sz_b333)
      refine own_aloadN X719 hx hby d_57_1__355 rfl rfl (pc' := 356) rfl ?_
      refine own_getF X719 hx hby hZ hown (host := "") (Or.inl (own_w hw 201 rfl)) Via.refl e719 F725_b d_57_1__356 (pc' := 359) rfl ?_
      intro T736 X736 e736
      refine own_iload X736 hx hby d_57_1__359 rfl (pc' := 361) rfl ?_
      refine own_aload X736 hx hby d_57_1__361 rfl rfl (pc' := 363) rfl ?_
      refine own_callV X736 hx hby hZ (by exact hml) hown (own_w hw 131 rfl) (own_w hw 132 rfl) (own_w hw 134 rfl) (own_w hw 133 rfl) (own_w hw 28 rfl) (own_w hw 135 rfl) (by decide) e736 2 (by decide) (by decide) (by decide) (by decide) (argsL := []) (rest := [(.int (own_s2 (own_nx n t0 t1 t2 t3) t0 t1 t2)), (.ref b363)]) (lenOf pd___D rfl) rfl (Nat.le_of_eq rfl) (x2_0.keep K719) (rmL_b l Z a0 hw x2 FP.dconst0 h719 (x2_5.keep K719 nin_x2)) d_57_1__363 (pc' := 366) rfl ?_
      intro v737 T737 L737 X737 hQ737
      obtain ⟨rfl, rfl, e737⟩ := hQ737
      rw [List.append_nil] at X737
      replace e737 : T737.heap = h719 := e737
      show GoP p e below Φ (T737.setTop (mkF m 366 #[.val (.ref a), .val (.int n), .val (.int (0 : Int32)), .val (.int (0 : Int32)), .val (.ref li), .val (.int (4 : Int32)), .val (.ref b3), .val (.ref b14), .val (.ref b277), .val (.int (2 : Int32)), .val (.ref x2), .val (.int (own_s2 (own_nx n t0 t1 t2 t3) t0 t1 t2))] [(.double FP.dconst0), (.int (own_s2 (own_nx n t0 t1 t2 t3) t0 t1 t2)), (.ref b363)]))
      refine own_dastoreN X737 hx hby hZ e737 M734_b363 hsm.2.2.1 d_57_1__366 (pc' := 367) rfl ?_
      intro T738 h738 X738 e738 W738 M738
      have E739_a := E720_a.wr W738
      have F740_graph := F721_graph.other W738 (Or.inl ne_a_b363)
      have F741_linkArc := F722_linkArc.other W738 (Or.inl ne_a_b363)
      have F742_capacity := F723_capacity.other W738 (Or.inl ne_a_b363)
      have F743_freeFlowTime := F724_freeFlowTime.other W738 (Or.inl ne_a_b363)
      have F744_b := F725_b.other W738 (Or.inl ne_a_b363)
      have F745_power := F726_power.other W738 (Or.inl ne_a_b363)
      have E746_gr := E727_gr.wr W738
      have F747_arcHead := F728_arcHead.other W738 (Or.inl ne_gr_b363)
      have B748_ah := B729_ah.other W738 ne_ah_b363
      have V749_b250 := V730_b250.other W738 ne_b250_b363
      have B750_b277 := B731_b277.other W738 ne_b277_b363
      have M751_b305 := M732_b305.other W738 ne_b305_b363
      have M752_b333 := M719.other W738 ne_b333_b363
      have M754_b395 := M735_b395.other W738 (Ne.symm ne_b363_b395)
      have Z738 : n0 ≤ h738.size := by rw [W738.size]; exact Z719
      have N738 := Fr.snoc X738 N719 n0_b363
      have K738 : Keep h0 h738 [a] := K719.wr W738 (Or.inr sz_b363)
      refine own_aloadN X738 hx hby d_57_1__367 rfl rfl (pc' := 368) rfl ?_
      refine own_getF X738 hx hby hZ hown (host := "") (Or.inl (own_w hw 203 rfl)) Via.refl e738 F745_power d_57_1__368 (pc' := 371) rfl ?_
      intro T755 X755 e755
      refine own_iload X755 hx hby d_57_1__371 rfl (pc' := 373) rfl ?_
      refine own_aload X755 hx hby d_57_1__373 rfl rfl (pc' := 375) rfl ?_
      refine own_callV X755 hx hby hZ (by exact hml) hown (own_w hw 136 rfl) (own_w hw 137 rfl) (own_w hw 139 rfl) (own_w hw 138 rfl) (own_w hw 28 rfl) (own_w hw 140 rfl) (by decide) e755 2 (by decide) (by decide) (by decide) (by decide) (argsL := []) (rest := [(.int (own_s2 (own_nx n t0 t1 t2 t3) t0 t1 t2)), (.ref b395)]) (lenOf pd___D rfl) rfl (Nat.le_of_eq rfl) (x2_0.keep K738) (rmL_power l Z a0 hw x2 FP.dconst0 h738 (x2_6.keep K738 nin_x2)) d_57_1__375 (pc' := 378) rfl ?_
      intro v756 T756 L756 X756 hQ756
      obtain ⟨rfl, rfl, e756⟩ := hQ756
      rw [List.append_nil] at X756
      replace e756 : T756.heap = h738 := e756
      show GoP p e below Φ (T756.setTop (mkF m 378 #[.val (.ref a), .val (.int n), .val (.int (0 : Int32)), .val (.int (0 : Int32)), .val (.ref li), .val (.int (4 : Int32)), .val (.ref b3), .val (.ref b14), .val (.ref b277), .val (.int (2 : Int32)), .val (.ref x2), .val (.int (own_s2 (own_nx n t0 t1 t2 t3) t0 t1 t2))] [(.double FP.dconst0), (.int (own_s2 (own_nx n t0 t1 t2 t3) t0 t1 t2)), (.ref b395)]))
      refine own_dastoreN X756 hx hby hZ e756 M754_b395 hsm.2.2.1 d_57_1__378 (pc' := 379) rfl ?_
      intro T757 h757 X757 e757 W757 M757
      have E758_a := E739_a.wr W757
      have F759_graph := F740_graph.other W757 (Or.inl ne_a_b395)
      have F760_linkArc := F741_linkArc.other W757 (Or.inl ne_a_b395)
      have F761_capacity := F742_capacity.other W757 (Or.inl ne_a_b395)
      have F762_freeFlowTime := F743_freeFlowTime.other W757 (Or.inl ne_a_b395)
      have F763_b := F744_b.other W757 (Or.inl ne_a_b395)
      have F764_power := F745_power.other W757 (Or.inl ne_a_b395)
      have E765_gr := E746_gr.wr W757
      have F766_arcHead := F747_arcHead.other W757 (Or.inl ne_gr_b395)
      have B767_ah := B748_ah.other W757 ne_ah_b395
      have V768_b250 := V749_b250.other W757 ne_b250_b395
      have B769_b277 := B750_b277.other W757 ne_b277_b395
      have M770_b305 := M751_b305.other W757 ne_b305_b395
      have M771_b333 := M752_b333.other W757 ne_b333_b395
      have M772_b363 := M738.other W757 ne_b363_b395
      have Z757 : n0 ≤ h757.size := by rw [W757.size]; exact Z738
      have N757 := Fr.snoc X757 N738 n0_b395
      have K757 : Keep h0 h757 [a] := K738.wr W757 (Or.inr sz_b395)
      refine own_iinc X757 hx hby d_57_1__379 rfl (v := (1 : Int32)) rfl (Ls' := #[.val (.ref a), .val (.int n), .val (.int (0 : Int32)), .val (.int (0 : Int32)), .val (.ref li), .val (.int (4 : Int32)), .val (.ref b3), .val (.ref b14), .val (.ref b277), .val (.int (3 : Int32)), .val (.ref x2), .val (.int (own_s2 (own_nx n t0 t1 t2 t3) t0 t1 t2))]) rfl (pc' := 382) rfl ?_
      refine own_goto X757 hx hby d_57_1__382 (by decide) (pc' := 286) (by decide) ?_
      refine own_iload X757 hx hby d_57_1__286 rfl (pc' := 288) rfl ?_
      refine own_iload X757 hx hby d_57_1__288 rfl (pc' := 290) rfl ?_
      refine own_icmpN X757 hx hby d_57_1__290 (tlt (by decide)).2.1 (pc' := 293) rfl ?_
      refine own_aload X757 hx hby d_57_1__293 rfl rfl (pc' := 295) rfl ?_
      refine own_iload X757 hx hby d_57_1__295 rfl (pc' := 297) rfl ?_
      refine own_callF X757 hx hby hZ (by exact hml) hown (x0 := (⟨"java/util/List", "get", "(I)Ljava/lang/Object;"⟩ : MethodName)) (y := (⟨"java/util/ArrayList", "get", "(I)Ljava/lang/Object;"⟩ : MethodName)) (own_w hw 98 rfl) (own_w hw 99 rfl) (own_w hw 100 rfl) (own_w hw 101 rfl) (own_w hw 102 rfl) (own_w hw 103 rfl) (own_w hw 104 rfl) (own_w hw 95 rfl) (own_w hw 2 rfl) rfl (own_w hw 105 rfl) (by decide) e757 0 (by decide) (by decide) (by decide) (by decide) (argsL := [(.int (3 : Int32))]) (rest := []) (lenOf pd__I_Ljava_lang_Object_ rfl) rfl (Nat.le_of_eq rfl) (El.keep K757) (rmG3 l Z a0 hw li es x3 (4 : Int32) (.ref x0) (.ref x1) (.ref x2) .null .null .null .null .null .null h757 (by decide) (El.keep K757) (Fs.keep K757 nin_li) (Fe.keep K757 nin_li) (V.keep K757 nin_es)) d_57_1__297 (pc' := 302) rfl ?_
      intro v774 T774 L774 X774 hQ774
      obtain ⟨rfl, rfl, e774⟩ := hQ774
      rw [List.append_nil] at X774
      replace e774 : T774.heap = h757 := e774
      show GoP p e below Φ (T774.setTop (mkF m 302 #[.val (.ref a), .val (.int n), .val (.int (0 : Int32)), .val (.int (0 : Int32)), .val (.ref li), .val (.int (4 : Int32)), .val (.ref b3), .val (.ref b14), .val (.ref b277), .val (.int (3 : Int32)), .val (.ref x2), .val (.int (own_s2 (own_nx n t0 t1 t2 t3) t0 t1 t2))] [(.ref x3)]))
      obtain ⟨T775, X775, e775, st775⟩ := castY X774 hx hZ hown (own_w hw 119 rfl) e774 (Ins.self (x3_0.keep K757)) (g := (mkF m 302 #[.val (.ref a), .val (.int n), .val (.int (0 : Int32)), .val (.int (0 : Int32)), .val (.ref li), .val (.int (4 : Int32)), .val (.ref b3), .val (.ref b14), .val (.ref b277), .val (.int (3 : Int32)), .val (.ref x2), .val (.int (own_s2 (own_nx n t0 t1 t2 t3) t0 t1 t2))] [(.ref x3)])) rfl rfl (hb hby d_57_1__302)
      refine own_step st775 ?_
      show GoP p e below Φ (T775.setTop (mkF m 305 #[.val (.ref a), .val (.int n), .val (.int (0 : Int32)), .val (.int (0 : Int32)), .val (.ref li), .val (.int (4 : Int32)), .val (.ref b3), .val (.ref b14), .val (.ref b277), .val (.int (3 : Int32)), .val (.ref x2), .val (.int (own_s2 (own_nx n t0 t1 t2 t3) t0 t1 t2))] [(.ref x3)]))
      refine own_astore X775 hx hby d_57_1__305 rfl (Ls' := #[.val (.ref a), .val (.int n), .val (.int (0 : Int32)), .val (.int (0 : Int32)), .val (.ref li), .val (.int (4 : Int32)), .val (.ref b3), .val (.ref b14), .val (.ref b277), .val (.int (3 : Int32)), .val (.ref x3), .val (.int (own_s2 (own_nx n t0 t1 t2 t3) t0 t1 t2))]) rfl (pc' := 307) rfl ?_
      refine own_aload X775 hx hby d_57_1__307 rfl rfl (pc' := 309) rfl ?_
      refine own_aload X775 hx hby d_57_1__309 rfl rfl (pc' := 311) rfl ?_
      refine own_callV X775 hx hby hZ (by exact hml) hown (own_w hw 141 rfl) (own_w hw 142 rfl) (own_w hw 144 rfl) (own_w hw 143 rfl) (own_w hw 28 rfl) (own_w hw 145 rfl) (by decide) e775 1 (by decide) (by decide) (by decide) (by decide) (argsL := []) (rest := [(.ref b277)]) (lenOf pd___I rfl) rfl (Nat.le_of_eq rfl) (x3_0.keep K757) (rmL_tail l Z a0 hw x3 t3 h757 (x3_1.keep K757 nin_x3)) d_57_1__311 (pc' := 314) rfl ?_
      intro v776 T776 L776 X776 hQ776
      obtain ⟨rfl, rfl, e776⟩ := hQ776
      rw [List.append_nil] at X776
      replace e776 : T776.heap = h757 := e776
      show GoP p e below Φ (T776.setTop (mkF m 314 #[.val (.ref a), .val (.int n), .val (.int (0 : Int32)), .val (.int (0 : Int32)), .val (.ref li), .val (.int (4 : Int32)), .val (.ref b3), .val (.ref b14), .val (.ref b277), .val (.int (3 : Int32)), .val (.ref x3), .val (.int (own_s2 (own_nx n t0 t1 t2 t3) t0 t1 t2))] [(.int t3), (.ref b277)]))
      refine own_dup2 X776 hx hby d_57_1__314 rfl rfl (pc' := 315) rfl ?_
      refine own_ialoadL X776 hx hby hZ e776 B769_b277 (by rw [HL679]; exact ix_t3) d_57_1__315 (pc' := 316) rfl ?_
      refine own_dup_x2 X776 hx hby d_57_1__316 rfl rfl rfl (pc' := 317) rfl ?_
      refine own_iconst X776 hx hby d_57_1__317 (v := (1 : Int32)) rfl (pc' := 318) rfl ?_
      refine own_iadd X776 hx hby d_57_1__318 (pc' := 319) rfl ?_
      refine own_iastoreL X776 hx hby hZ e776 B769_b277 (by rw [HL679]; exact ix_t3) d_57_1__319 (pc' := 320) rfl ?_
      intro T777 h777 X777 e777 W777 B777
      have E778_a := E758_a.wr W777
      have F779_graph := F759_graph.other W777 (Or.inl ne_a_b277)
      have F780_linkArc := F760_linkArc.other W777 (Or.inl ne_a_b277)
      have F781_capacity := F761_capacity.other W777 (Or.inl ne_a_b277)
      have F782_freeFlowTime := F762_freeFlowTime.other W777 (Or.inl ne_a_b277)
      have F783_b := F763_b.other W777 (Or.inl ne_a_b277)
      have F784_power := F764_power.other W777 (Or.inl ne_a_b277)
      have E785_gr := E765_gr.wr W777
      have F786_arcHead := F766_arcHead.other W777 (Or.inl ne_gr_b277)
      have B787_ah := B767_ah.other W777 ne_ah_b277
      have V788_b250 := V768_b250.other W777 ne_b250_b277
      have M790_b305 := M770_b305.other W777 (Ne.symm ne_b277_b305)
      have M791_b333 := M771_b333.other W777 (Ne.symm ne_b277_b333)
      have M792_b363 := M772_b363.other W777 (Ne.symm ne_b277_b363)
      have M793_b395 := M757.other W777 (Ne.symm ne_b277_b395)
      have Z777 : n0 ≤ h777.size := by rw [W777.size]; exact Z757
      have N777 := Fr.snoc X777 N757 n0_b277
      have K777 : Keep h0 h777 [a] := K757.wr W777 (Or.inr sz_b277)
      refine own_istore X777 hx hby d_57_1__320  (Ls' := #[.val (.ref a), .val (.int n), .val (.int (0 : Int32)), .val (.int (0 : Int32)), .val (.ref li), .val (.int (4 : Int32)), .val (.ref b3), .val (.ref b14), .val (.ref b277), .val (.int (3 : Int32)), .val (.ref x3), .val (.int (own_g (own_inc (own_inc (own_inc (own_na n t0 t1 t2 t3) t0) t1) t2) t3))]) rfl (pc' := 322) rfl ?_
      have B794 : LI Z h777 b277 (own_inc (own_inc (own_inc (own_inc (own_na n t0 t1 t2 t3) t0) t1) t2) t3) := B777
      have HL794 := (own_inclen (own_inc (own_inc (own_inc (own_na n t0 t1 t2 t3) t0) t1) t2) t3).trans HL679
      show GoP p e below Φ (T777.setTop (mkF m 322 #[.val (.ref a), .val (.int n), .val (.int (0 : Int32)), .val (.int (0 : Int32)), .val (.ref li), .val (.int (4 : Int32)), .val (.ref b3), .val (.ref b14), .val (.ref b277), .val (.int (3 : Int32)), .val (.ref x3), .val (.int (own_s3 (own_na n t0 t1 t2 t3) t0 t1 t2 t3))] []))
      rw [hgo.2.2.2.2]
      refine own_aloadN X777 hx hby d_57_1__322 rfl rfl (pc' := 323) rfl ?_
      refine own_getF X777 hx hby hZ hown (host := "") (Or.inl (own_w hw 189 rfl)) Via.refl e777 F780_linkArc d_57_1__323 (pc' := 326) rfl ?_
      intro T795 X795 e795
      refine own_iload X795 hx hby d_57_1__326 rfl (pc' := 328) rfl ?_
      refine own_iload X795 hx hby d_57_1__328 rfl (pc' := 330) rfl ?_
      refine own_iastore X795 hx hby hZ e795 V788_b250 (by decide) (Nat.le_of_ble_eq_true rfl) d_57_1__330 (pc' := 331) rfl ?_
      intro T796 h796 X796 e796 W796 V796
      replace V796 : AV Z h796 b250 .int [(.int (own_s0 (own_nx n t0 t1 t2 t3) t0)), (.int (own_s1 (own_nx n t0 t1 t2 t3) t0 t1)), (.int (own_s2 (own_nx n t0 t1 t2 t3) t0 t1 t2)), (.int (own_s3 (own_nx n t0 t1 t2 t3) t0 t1 t2 t3))] := V796
      have E797_a := E778_a.wr W796
      have F798_graph := F779_graph.other W796 (Or.inl ne_a_b250)
      have F799_linkArc := F780_linkArc.other W796 (Or.inl ne_a_b250)
      have F800_capacity := F781_capacity.other W796 (Or.inl ne_a_b250)
      have F801_freeFlowTime := F782_freeFlowTime.other W796 (Or.inl ne_a_b250)
      have F802_b := F783_b.other W796 (Or.inl ne_a_b250)
      have F803_power := F784_power.other W796 (Or.inl ne_a_b250)
      have E804_gr := E785_gr.wr W796
      have F805_arcHead := F786_arcHead.other W796 (Or.inl ne_gr_b250)
      have B806_ah := B787_ah.other W796 ne_ah_b250
      have B808_b277 := B794.other W796 (Ne.symm ne_b250_b277)
      have M809_b305 := M790_b305.other W796 (Ne.symm ne_b250_b305)
      have M810_b333 := M791_b333.other W796 (Ne.symm ne_b250_b333)
      have M811_b363 := M792_b363.other W796 (Ne.symm ne_b250_b363)
      have M812_b395 := M793_b395.other W796 (Ne.symm ne_b250_b395)
      have Z796 : n0 ≤ h796.size := by rw [W796.size]; exact Z777
      have N796 := Fr.snoc X796 N777 n0_b250
      have K796 : Keep h0 h796 [a] := K777.wr W796 (Or.inr sz_b250)
      refine own_aloadN X796 hx hby d_57_1__331 rfl rfl (pc' := 332) rfl ?_
      refine own_getF X796 hx hby hZ hown (host := "") (Or.inl (own_w hw 197 rfl)) Via.refl e796 F800_capacity d_57_1__332 (pc' := 335) rfl ?_
      intro T813 X813 e813
      refine own_iload X813 hx hby d_57_1__335 rfl (pc' := 337) rfl ?_
      refine own_aload X813 hx hby d_57_1__337 rfl rfl (pc' := 339) rfl ?_
      refine own_callV X813 hx hby hZ (by exact hml) hown (own_w hw 121 rfl) (own_w hw 122 rfl) (own_w hw 124 rfl) (own_w hw 123 rfl) (own_w hw 28 rfl) (own_w hw 125 rfl) (by decide) e813 2 (by decide) (by decide) (by decide) (by decide) (argsL := []) (rest := [(.int (own_s3 (own_nx n t0 t1 t2 t3) t0 t1 t2 t3)), (.ref b305)]) (lenOf pd___D rfl) rfl (Nat.le_of_eq rfl) (x3_0.keep K796) (rmL_capacity l Z a0 hw x3 FP.dconst1 h796 (x3_3.keep K796 nin_x3)) d_57_1__339 (pc' := 342) rfl ?_
      intro v814 T814 L814 X814 hQ814
      obtain ⟨rfl, rfl, e814⟩ := hQ814
      rw [List.append_nil] at X814
      replace e814 : T814.heap = h796 := e814
      show GoP p e below Φ (T814.setTop (mkF m 342 #[.val (.ref a), .val (.int n), .val (.int (0 : Int32)), .val (.int (0 : Int32)), .val (.ref li), .val (.int (4 : Int32)), .val (.ref b3), .val (.ref b14), .val (.ref b277), .val (.int (3 : Int32)), .val (.ref x3), .val (.int (own_s3 (own_nx n t0 t1 t2 t3) t0 t1 t2 t3))] [(.double FP.dconst1), (.int (own_s3 (own_nx n t0 t1 t2 t3) t0 t1 t2 t3)), (.ref b305)]))
      refine own_dastoreN X814 hx hby hZ e814 M809_b305 hsm.2.2.2 d_57_1__342 (pc' := 343) rfl ?_
      intro T815 h815 X815 e815 W815 M815
      have E816_a := E797_a.wr W815
      have F817_graph := F798_graph.other W815 (Or.inl ne_a_b305)
      have F818_linkArc := F799_linkArc.other W815 (Or.inl ne_a_b305)
      have F819_capacity := F800_capacity.other W815 (Or.inl ne_a_b305)
      have F820_freeFlowTime := F801_freeFlowTime.other W815 (Or.inl ne_a_b305)
      have F821_b := F802_b.other W815 (Or.inl ne_a_b305)
      have F822_power := F803_power.other W815 (Or.inl ne_a_b305)
      have E823_gr := E804_gr.wr W815
      have F824_arcHead := F805_arcHead.other W815 (Or.inl ne_gr_b305)
      have B825_ah := B806_ah.other W815 ne_ah_b305
      have V826_b250 := V796.other W815 ne_b250_b305
      have B827_b277 := B808_b277.other W815 ne_b277_b305
      have M829_b333 := M810_b333.other W815 (Ne.symm ne_b305_b333)
      have M830_b363 := M811_b363.other W815 (Ne.symm ne_b305_b363)
      have M831_b395 := M812_b395.other W815 (Ne.symm ne_b305_b395)
      have Z815 : n0 ≤ h815.size := by rw [W815.size]; exact Z796
      have N815 := Fr.snoc X815 N796 n0_b305
      have K815 : Keep h0 h815 [a] := K796.wr W815 (Or.inr sz_b305)
      refine own_aloadN X815 hx hby d_57_1__343 rfl rfl (pc' := 344) rfl ?_
      refine own_getF X815 hx hby hZ hown (host := "") (Or.inl (own_w hw 199 rfl)) Via.refl e815 F820_freeFlowTime d_57_1__344 (pc' := 347) rfl ?_
      intro T832 X832 e832
      refine own_iload X832 hx hby d_57_1__347 rfl (pc' := 349) rfl ?_
      refine own_aload X832 hx hby d_57_1__349 rfl rfl (pc' := 351) rfl ?_
      refine own_callV X832 hx hby hZ (by exact hml) hown (own_w hw 126 rfl) (own_w hw 127 rfl) (own_w hw 129 rfl) (own_w hw 128 rfl) (own_w hw 28 rfl) (own_w hw 130 rfl) (by decide) e832 2 (by decide) (by decide) (by decide) (by decide) (argsL := []) (rest := [(.int (own_s3 (own_nx n t0 t1 t2 t3) t0 t1 t2 t3)), (.ref b333)]) (lenOf pd___D rfl) rfl (Nat.le_of_eq rfl) (x3_0.keep K815) (rmL_freeFlowTime l Z a0 hw x3 FP.dconst0 h815 (x3_4.keep K815 nin_x3)) d_57_1__351 (pc' := 354) rfl ?_
      intro v833 T833 L833 X833 hQ833
      obtain ⟨rfl, rfl, e833⟩ := hQ833
      rw [List.append_nil] at X833
      replace e833 : T833.heap = h815 := e833
      show GoP p e below Φ (T833.setTop (mkF m 354 #[.val (.ref a), .val (.int n), .val (.int (0 : Int32)), .val (.int (0 : Int32)), .val (.ref li), .val (.int (4 : Int32)), .val (.ref b3), .val (.ref b14), .val (.ref b277), .val (.int (3 : Int32)), .val (.ref x3), .val (.int (own_s3 (own_nx n t0 t1 t2 t3) t0 t1 t2 t3))] [(.double FP.dconst0), (.int (own_s3 (own_nx n t0 t1 t2 t3) t0 t1 t2 t3)), (.ref b333)]))
      refine own_dastoreN X833 hx hby hZ e833 M829_b333 hsm.2.2.2 d_57_1__354 (pc' := 355) rfl ?_
      intro T834 h834 X834 e834 W834 M834
      have E835_a := E816_a.wr W834
      have F836_graph := F817_graph.other W834 (Or.inl ne_a_b333)
      have F837_linkArc := F818_linkArc.other W834 (Or.inl ne_a_b333)
      have F838_capacity := F819_capacity.other W834 (Or.inl ne_a_b333)
      have F839_freeFlowTime := F820_freeFlowTime.other W834 (Or.inl ne_a_b333)
      have F840_b := F821_b.other W834 (Or.inl ne_a_b333)
      have F841_power := F822_power.other W834 (Or.inl ne_a_b333)
      have E842_gr := E823_gr.wr W834
      have F843_arcHead := F824_arcHead.other W834 (Or.inl ne_gr_b333)
      have B844_ah := B825_ah.other W834 ne_ah_b333
      have V845_b250 := V826_b250.other W834 ne_b250_b333
      have B846_b277 := B827_b277.other W834 ne_b277_b333
      have M847_b305 := M815.other W834 ne_b305_b333
      have M849_b363 := M830_b363.other W834 (Ne.symm ne_b333_b363)
      have M850_b395 := M831_b395.other W834 (Ne.symm ne_b333_b395)
      have Z834 : n0 ≤ h834.size := by rw [W834.size]; exact Z815
      have N834 := Fr.snoc X834 N815 n0_b333
      have K834 : Keep h0 h834 [a] := K815.wr W834 (Or.inr sz_b333)
      refine own_aloadN X834 hx hby d_57_1__355 rfl rfl (pc' := 356) rfl ?_
      refine own_getF X834 hx hby hZ hown (host := "") (Or.inl (own_w hw 201 rfl)) Via.refl e834 F840_b d_57_1__356 (pc' := 359) rfl ?_
      intro T851 X851 e851
      refine own_iload X851 hx hby d_57_1__359 rfl (pc' := 361) rfl ?_
      refine own_aload X851 hx hby d_57_1__361 rfl rfl (pc' := 363) rfl ?_
      refine own_callV X851 hx hby hZ (by exact hml) hown (own_w hw 131 rfl) (own_w hw 132 rfl) (own_w hw 134 rfl) (own_w hw 133 rfl) (own_w hw 28 rfl) (own_w hw 135 rfl) (by decide) e851 2 (by decide) (by decide) (by decide) (by decide) (argsL := []) (rest := [(.int (own_s3 (own_nx n t0 t1 t2 t3) t0 t1 t2 t3)), (.ref b363)]) (lenOf pd___D rfl) rfl (Nat.le_of_eq rfl) (x3_0.keep K834) (rmL_b l Z a0 hw x3 FP.dconst0 h834 (x3_5.keep K834 nin_x3)) d_57_1__363 (pc' := 366) rfl ?_
      intro v852 T852 L852 X852 hQ852
      obtain ⟨rfl, rfl, e852⟩ := hQ852
      rw [List.append_nil] at X852
      replace e852 : T852.heap = h834 := e852
      show GoP p e below Φ (T852.setTop (mkF m 366 #[.val (.ref a), .val (.int n), .val (.int (0 : Int32)), .val (.int (0 : Int32)), .val (.ref li), .val (.int (4 : Int32)), .val (.ref b3), .val (.ref b14), .val (.ref b277), .val (.int (3 : Int32)), .val (.ref x3), .val (.int (own_s3 (own_nx n t0 t1 t2 t3) t0 t1 t2 t3))] [(.double FP.dconst0), (.int (own_s3 (own_nx n t0 t1 t2 t3) t0 t1 t2 t3)), (.ref b363)]))
      refine own_dastoreN X852 hx hby hZ e852 M849_b363 hsm.2.2.2 d_57_1__366 (pc' := 367) rfl ?_
      intro T853 h853 X853 e853 W853 M853
      have E854_a := E835_a.wr W853
      have F855_graph := F836_graph.other W853 (Or.inl ne_a_b363)
      have F856_linkArc := F837_linkArc.other W853 (Or.inl ne_a_b363)
      have F857_capacity := F838_capacity.other W853 (Or.inl ne_a_b363)
      have F858_freeFlowTime := F839_freeFlowTime.other W853 (Or.inl ne_a_b363)
      have F859_b := F840_b.other W853 (Or.inl ne_a_b363)
      have F860_power := F841_power.other W853 (Or.inl ne_a_b363)
      have E861_gr := E842_gr.wr W853
      have F862_arcHead := F843_arcHead.other W853 (Or.inl ne_gr_b363)
      have B863_ah := B844_ah.other W853 ne_ah_b363
      have V864_b250 := V845_b250.other W853 ne_b250_b363
      have B865_b277 := B846_b277.other W853 ne_b277_b363
      have M866_b305 := M847_b305.other W853 ne_b305_b363
      have M867_b333 := M834.other W853 ne_b333_b363
      have M869_b395 := M850_b395.other W853 (Ne.symm ne_b363_b395)
      have Z853 : n0 ≤ h853.size := by rw [W853.size]; exact Z834
      have N853 := Fr.snoc X853 N834 n0_b363
      have K853 : Keep h0 h853 [a] := K834.wr W853 (Or.inr sz_b363)
      refine own_aloadN X853 hx hby d_57_1__367 rfl rfl (pc' := 368) rfl ?_
      refine own_getF X853 hx hby hZ hown (host := "") (Or.inl (own_w hw 203 rfl)) Via.refl e853 F860_power d_57_1__368 (pc' := 371) rfl ?_
      intro T870 X870 e870
      refine own_iload X870 hx hby d_57_1__371 rfl (pc' := 373) rfl ?_
      refine own_aload X870 hx hby d_57_1__373 rfl rfl (pc' := 375) rfl ?_
      refine own_callV X870 hx hby hZ (by exact hml) hown (own_w hw 136 rfl) (own_w hw 137 rfl) (own_w hw 139 rfl) (own_w hw 138 rfl) (own_w hw 28 rfl) (own_w hw 140 rfl) (by decide) e870 2 (by decide) (by decide) (by decide) (by decide) (argsL := []) (rest := [(.int (own_s3 (own_nx n t0 t1 t2 t3) t0 t1 t2 t3)), (.ref b395)]) (lenOf pd___D rfl) rfl (Nat.le_of_eq rfl) (x3_0.keep K853) (rmL_power l Z a0 hw x3 FP.dconst0 h853 (x3_6.keep K853 nin_x3)) d_57_1__375 (pc' := 378) rfl ?_
      intro v871 T871 L871 X871 hQ871
      obtain ⟨rfl, rfl, e871⟩ := hQ871
      rw [List.append_nil] at X871
      replace e871 : T871.heap = h853 := e871
      show GoP p e below Φ (T871.setTop (mkF m 378 #[.val (.ref a), .val (.int n), .val (.int (0 : Int32)), .val (.int (0 : Int32)), .val (.ref li), .val (.int (4 : Int32)), .val (.ref b3), .val (.ref b14), .val (.ref b277), .val (.int (3 : Int32)), .val (.ref x3), .val (.int (own_s3 (own_nx n t0 t1 t2 t3) t0 t1 t2 t3))] [(.double FP.dconst0), (.int (own_s3 (own_nx n t0 t1 t2 t3) t0 t1 t2 t3)), (.ref b395)]))
      refine own_dastoreN X871 hx hby hZ e871 M869_b395 hsm.2.2.2 d_57_1__378 (pc' := 379) rfl ?_
      intro T872 h872 X872 e872 W872 M872
      have E873_a := E854_a.wr W872
      have F874_graph := F855_graph.other W872 (Or.inl ne_a_b395)
      have F875_linkArc := F856_linkArc.other W872 (Or.inl ne_a_b395)
      have F876_capacity := F857_capacity.other W872 (Or.inl ne_a_b395)
      have F877_freeFlowTime := F858_freeFlowTime.other W872 (Or.inl ne_a_b395)
      have F878_b := F859_b.other W872 (Or.inl ne_a_b395)
      have F879_power := F860_power.other W872 (Or.inl ne_a_b395)
      have E880_gr := E861_gr.wr W872
      have F881_arcHead := F862_arcHead.other W872 (Or.inl ne_gr_b395)
      have B882_ah := B863_ah.other W872 ne_ah_b395
      have V883_b250 := V864_b250.other W872 ne_b250_b395
      have B884_b277 := B865_b277.other W872 ne_b277_b395
      have M885_b305 := M866_b305.other W872 ne_b305_b395
      have M886_b333 := M867_b333.other W872 ne_b333_b395
      have M887_b363 := M853.other W872 ne_b363_b395
      have Z872 : n0 ≤ h872.size := by rw [W872.size]; exact Z853
      have N872 := Fr.snoc X872 N853 n0_b395
      have K872 : Keep h0 h872 [a] := K853.wr W872 (Or.inr sz_b395)
      refine own_iinc X872 hx hby d_57_1__379 rfl (v := (1 : Int32)) rfl (Ls' := #[.val (.ref a), .val (.int n), .val (.int (0 : Int32)), .val (.int (0 : Int32)), .val (.ref li), .val (.int (4 : Int32)), .val (.ref b3), .val (.ref b14), .val (.ref b277), .val (.int (4 : Int32)), .val (.ref x3), .val (.int (own_s3 (own_nx n t0 t1 t2 t3) t0 t1 t2 t3))]) rfl (pc' := 382) rfl ?_
      refine own_goto X872 hx hby d_57_1__382 (by decide) (pc' := 286) (by decide) ?_
      refine own_iload X872 hx hby d_57_1__286 rfl (pc' := 288) rfl ?_
      refine own_iload X872 hx hby d_57_1__288 rfl (pc' := 290) rfl ?_
      refine own_icmpY X872 hx hby d_57_1__290 (flt (by decide)).2.1 (by decide) (pc' := 385) (by decide) ?_
      exact own_ret0 X872 hx hby fin hret d_57_1__385 (by decide) (by decide) (by rw [e872]; exact ⟨rfl, N872, K872, gr, ah, b250, E873_a, F874_graph, F875_linkArc, E880_gr, F881_arcHead, B882_ah, V883_b250⟩)
    | succ d ih =>
      intro T h locs j ys X eT N KL IL HL g1 g2 hr
      have E889_a := E278_a.keep KL 
      have F890_graph := F279_graph.keep KL (ninS ne_a_b277 nin0)
      have F891_linkArc := F280_linkArc.keep KL (ninS ne_a_b277 nin0)
      have F892_capacity := F281_capacity.keep KL (ninS ne_a_b277 nin0)
      have F893_freeFlowTime := F282_freeFlowTime.keep KL (ninS ne_a_b277 nin0)
      have F894_b := F283_b.keep KL (ninS ne_a_b277 nin0)
      have F895_power := F284_power.keep KL (ninS ne_a_b277 nin0)
      have E896_gr := E285_gr.keep KL 
      have F897_firstArc := F286_firstArc.keep KL (ninS ne_gr_b277 nin0)
      have F898_arcHead := F287_arcHead.keep KL (ninS ne_gr_b277 nin0)
      have B899_fa := B288_fa.keep KL (ninS ne_fa_b277 nin0)
      have B900_ah := B289_ah.keep KL (ninS ne_ah_b277 nin0)
      have V901_b250 := V290_b250.keep KL (ninS ne_b250_b277 nin0)
      have q1 := own_p1 (x := j) (by omega) (by omega)
      refine own_iload X hx hby d_57_1__225 rfl (pc' := 227) rfl ?_
      refine own_iloadN X hx hby d_57_1__227 rfl (pc' := 228) rfl ?_
      refine own_icmpN X hx hby d_57_1__228 (flt (own_geI (by omega))).2.2.1 (pc' := 231) rfl ?_
      refine own_aload X hx hby d_57_1__231 rfl rfl (pc' := 233) rfl ?_
      refine own_iload X hx hby d_57_1__233 rfl (pc' := 235) rfl ?_
      refine own_aloadN X hx hby d_57_1__235 rfl rfl (pc' := 236) rfl ?_
      refine own_getF X hx hby hZ hown (host := "") (Or.inl (own_w hw 181 rfl)) Via.refl eT F890_graph d_57_1__236 (pc' := 239) rfl ?_
      intro T902 X902 e902
      refine own_iload X902 hx hby d_57_1__239 rfl (pc' := 241) rfl ?_
      refine own_callV X902 hx hby hZ (by exact hml) hown (own_w hw 191 rfl) (own_w hw 192 rfl) (own_w hw 194 rfl) (own_w hw 193 rfl) (own_w hw 154 rfl) (own_w hw 195 rfl) (by decide) e902 2 (by decide) (by decide) (by decide) (by decide) (argsL := [(.int j)]) (rest := [(.int j), (.ref b277)]) (lenOf pd__I_I rfl) rfl (Nat.le_of_eq rfl) E896_gr (rmFA l Z a0 hw gr fa j (own_fa n t0 t1 t2 t3) h F897_firstArc B899_fa (by rw [HFA]; exact own_idx (by omega) (by omega))) d_57_1__241 (pc' := 244) rfl ?_
      intro v903 T903 L903 X903 hQ903
      obtain ⟨rfl, rfl, e903⟩ := hQ903
      rw [List.append_nil] at X903
      replace e903 : T903.heap = h := e903
      show GoP p e below Φ (T903.setTop (mkF m 244 #[.val (.ref a), .val (.int n), .val (.int (0 : Int32)), .val (.int (0 : Int32)), .val (.ref li), .val (.int (4 : Int32)), .val (.ref b3), .val (.ref b14), .val (.ref b277), .val (.int j), .unset, .unset] [(.int (own_g (own_fa n t0 t1 t2 t3) j)), (.int j), (.ref b277)]))
      refine own_iastoreL X903 hx hby hZ e903 IL (by rw [HL]; exact own_idx (by omega) (by omega)) d_57_1__244 (pc' := 245) rfl ?_
      intro T904 h904 X904 e904 W904 B904
      have E905_a := E889_a.wr W904
      have F906_graph := F890_graph.other W904 (Or.inl ne_a_b277)
      have F907_linkArc := F891_linkArc.other W904 (Or.inl ne_a_b277)
      have F908_capacity := F892_capacity.other W904 (Or.inl ne_a_b277)
      have F909_freeFlowTime := F893_freeFlowTime.other W904 (Or.inl ne_a_b277)
      have F910_b := F894_b.other W904 (Or.inl ne_a_b277)
      have F911_power := F895_power.other W904 (Or.inl ne_a_b277)
      have E912_gr := E896_gr.wr W904
      have F913_firstArc := F897_firstArc.other W904 (Or.inl ne_gr_b277)
      have F914_arcHead := F898_arcHead.other W904 (Or.inl ne_gr_b277)
      have B915_fa := B899_fa.other W904 ne_fa_b277
      have B916_ah := B900_ah.other W904 ne_ah_b277
      have V917_b250 := V901_b250.other W904 ne_b250_b277
      have N904 := Fr.snoc X904 N n0_b277
      have KL904 := KL.wr W904 (Or.inl (List.mem_of_getElem? (i := 0) rfl))
      refine own_iinc X904 hx hby d_57_1__245 rfl (v := (1 : Int32)) rfl (Ls' := #[.val (.ref a), .val (.int n), .val (.int (0 : Int32)), .val (.int (0 : Int32)), .val (.ref li), .val (.int (4 : Int32)), .val (.ref b3), .val (.ref b14), .val (.ref b277), .val (.int (j + (1 : Int32))), .unset, .unset]) rfl (pc' := 248) rfl ?_
      refine own_goto X904 hx hby d_57_1__248 (by decide) (pc' := 225) (by decide) ?_
      exact ih T904 h904 _ (j + (1 : Int32)) _ X904 e904 N904 KL904 B904 ((own_ulen _ _ _).trans HL) (by omega) (by omega) hr
  exact LP225 n.toNatClampNeg T277 h277 _ (1 : Int32) _ X277 e277 N263 (Keep.refl _ _) B291 HL291 (by decide) (by rw [own_z1]; omega) rfl
theorem ef_rmH0 (m : MethodId) (x0 : Addr) (x1 : Int32) : entryFrame m #[(.ref x0), (.int x1)] 2 = mkF m 0 #[.val (.ref x0), .val (.int x1)] [] := by first | (simp [entryFrame, mkF, argsToLocals, Value.category]; done) | rfl
theorem d_57_7__0 : decode prog_57_method_7_code 0 = .ok (.aload_n 0, 1) := by decide +kernel
theorem d_57_7__1 : decode prog_57_method_7_code 1 = .ok (.getfield 62, 3) := by decide +kernel
theorem d_57_7__4 : decode prog_57_method_7_code 4 = .ok (.aload_n 0, 1) := by decide +kernel
theorem d_57_7__5 : decode prog_57_method_7_code 5 = .ok (.getfield 79, 3) := by decide +kernel
theorem d_57_7__8 : decode prog_57_method_7_code 8 = .ok (.iload_n 1, 1) := by decide +kernel
theorem d_57_7__9 : decode prog_57_method_7_code 9 = .ok (.iaload, 1) := by decide +kernel
theorem d_57_7__10 : decode prog_57_method_7_code 10 = .ok (.invokevirtual 95, 3) := by decide +kernel
theorem d_57_7__13 : decode prog_57_method_7_code 13 = .ok (.ireturn, 1) := by decide +kernel
set_option maxRecDepth 65536 in
set_option maxHeartbeats 40000000 in
theorem rmH0 (l : Launch) (Z : State) (a0 : Array Value) (hw : ∀ d ∈ tables_1, d.before a0 Z = true) (a gr ah la : Addr) (n t0 t1 t2 t3 y0 y1 y2 y3 : Int32) (h0 : Heap) (hg : own_chk n t0 t1 t2 t3 = true) (H0 : Exa Z h0 a "com/example/wayfold/wayfold/TrafficNetwork") (H1 : Fld Z h0 a "com/example/wayfold/wayfold/TrafficNetwork" "graph" "Lcom/example/wayfold/wayfold/Graph;" (.ref gr)) (H2 : Fld Z h0 a "com/example/wayfold/wayfold/TrafficNetwork" "linkArc" "[I" (.ref la)) (H3 : Exa Z h0 gr "com/example/wayfold/wayfold/Graph") (H4 : Fld Z h0 gr "com/example/wayfold/wayfold/Graph" "arcHead" "[I" (.ref ah)) (H5 : LI Z h0 ah (own_hd (own_s0 (own_nx n t0 t1 t2 t3) t0) (own_s1 (own_nx n t0 t1 t2 t3) t0 t1) (own_s2 (own_nx n t0 t1 t2 t3) t0 t1 t2) (own_s3 (own_nx n t0 t1 t2 t3) t0 t1 t2 t3) y0 y1 y2 y3)) (H6 : AV Z h0 la .int [(.int (own_s0 (own_nx n t0 t1 t2 t3) t0)), (.int (own_s1 (own_nx n t0 t1 t2 t3) t0 t1)), (.int (own_s2 (own_nx n t0 t1 t2 t3) t0 t1 t2)), (.int (own_s3 (own_nx n t0 t1 t2 t3) t0 t1 t2 t3))]) : Con l Z (⟨"com/example/wayfold/wayfold/TrafficNetwork", "head", "(I)I"⟩ : MethodName) prog_57_method_7_code 2 (some .int) [] ({ frames := 1, cells := 0, slots := 0, locals := 20 } : Room) #[(.ref a), (.int (0 : Int32))] h0 (fun v h L => v = some (.int y0) ∧ L = [] ∧ h = h0) := by
  refine Con.of (plainFor_of_name pn_com_example_wayfold_wayfold_TrafficNetwork) ?_
  intro p e s m below meth c T X hx hby hml hown hnm hret eT hZ hsh Φ fin
  replace hown : s.vm.findClass "com/example/wayfold/wayfold/TrafficNetwork" = some m.cls := hown
  replace hml : 2 = c.maxLocals := hml.symm
  refine own_step (fun tq kq => castTop (ef_rmH0 m a (0 : Int32)) kq) ?_
  have hgo := own_goodOf hg
  have hsm := own_small hgo.1
  have hfo := (own_found hgo.1 y0 y1 y2 y3).1
  refine own_aloadN X hx hby d_57_7__0 rfl rfl (pc' := 1) rfl ?_
  refine own_getF X hx hby hZ hown (host := "") (Or.inl (own_w hw 181 rfl)) Via.refl eT H1 d_57_7__1 (pc' := 4) rfl ?_
  intro T1 X1 e1
  refine own_aloadN X1 hx hby d_57_7__4 rfl rfl (pc' := 5) rfl ?_
  refine own_getF X1 hx hby hZ hown (host := "") (Or.inl (own_w hw 189 rfl)) Via.refl e1 H2 d_57_7__5 (pc' := 8) rfl ?_
  intro T2 X2 e2
  refine own_iloadN X2 hx hby d_57_7__8 rfl (pc' := 9) rfl ?_
  refine own_iaload X2 hx hby hZ e2 H6 (by decide) (v := (.int (own_s0 (own_nx n t0 t1 t2 t3) t0))) rfl d_57_7__9 (pc' := 10) rfl ?_
  refine own_callV X2 hx hby hZ (by exact hml) hown (own_w hw 210 rfl) (own_w hw 211 rfl) (own_w hw 213 rfl) (own_w hw 212 rfl) (own_w hw 154 rfl) (own_w hw 214 rfl) (by decide) e2 0 (by decide) (by decide) (by decide) (by decide) (argsL := [(.int (own_s0 (own_nx n t0 t1 t2 t3) t0))]) (rest := []) (lenOf pd__I_I rfl) rfl (Nat.le_of_eq rfl) H3 (rmGH l Z a0 hw gr ah (own_s0 (own_nx n t0 t1 t2 t3) t0) (own_hd (own_s0 (own_nx n t0 t1 t2 t3) t0) (own_s1 (own_nx n t0 t1 t2 t3) t0 t1) (own_s2 (own_nx n t0 t1 t2 t3) t0 t1 t2) (own_s3 (own_nx n t0 t1 t2 t3) t0 t1 t2 t3) y0 y1 y2 y3) h0 H4 H5 ⟨hsm.1.1, by rw [own_hdlen]; exact hsm.1.2⟩) d_57_7__10 (pc' := 13) rfl ?_
  intro v3 T3 L3 X3 hQ3
  obtain ⟨rfl, rfl, e3⟩ := hQ3
  rw [List.append_nil] at X3
  replace e3 : T3.heap = h0 := e3
  show GoP p e below Φ (T3.setTop (mkF m 13 #[.val (.ref a), .val (.int (0 : Int32))] [(.int (own_g (own_hd (own_s0 (own_nx n t0 t1 t2 t3) t0) (own_s1 (own_nx n t0 t1 t2 t3) t0 t1) (own_s2 (own_nx n t0 t1 t2 t3) t0 t1 t2) (own_s3 (own_nx n t0 t1 t2 t3) t0 t1 t2 t3) y0 y1 y2 y3) (own_s0 (own_nx n t0 t1 t2 t3) t0)))]))
  exact own_retI X3 hx hby fin hret d_57_7__13 (by decide) (by decide) ⟨by rw [hfo], rfl, e3⟩
theorem ef_rmH1 (m : MethodId) (x0 : Addr) (x1 : Int32) : entryFrame m #[(.ref x0), (.int x1)] 2 = mkF m 0 #[.val (.ref x0), .val (.int x1)] [] := by first | (simp [entryFrame, mkF, argsToLocals, Value.category]; done) | rfl
set_option maxRecDepth 65536 in
set_option maxHeartbeats 40000000 in
theorem rmH1 (l : Launch) (Z : State) (a0 : Array Value) (hw : ∀ d ∈ tables_1, d.before a0 Z = true) (a gr ah la : Addr) (n t0 t1 t2 t3 y0 y1 y2 y3 : Int32) (h0 : Heap) (hg : own_chk n t0 t1 t2 t3 = true) (H0 : Exa Z h0 a "com/example/wayfold/wayfold/TrafficNetwork") (H1 : Fld Z h0 a "com/example/wayfold/wayfold/TrafficNetwork" "graph" "Lcom/example/wayfold/wayfold/Graph;" (.ref gr)) (H2 : Fld Z h0 a "com/example/wayfold/wayfold/TrafficNetwork" "linkArc" "[I" (.ref la)) (H3 : Exa Z h0 gr "com/example/wayfold/wayfold/Graph") (H4 : Fld Z h0 gr "com/example/wayfold/wayfold/Graph" "arcHead" "[I" (.ref ah)) (H5 : LI Z h0 ah (own_hd (own_s0 (own_nx n t0 t1 t2 t3) t0) (own_s1 (own_nx n t0 t1 t2 t3) t0 t1) (own_s2 (own_nx n t0 t1 t2 t3) t0 t1 t2) (own_s3 (own_nx n t0 t1 t2 t3) t0 t1 t2 t3) y0 y1 y2 y3)) (H6 : AV Z h0 la .int [(.int (own_s0 (own_nx n t0 t1 t2 t3) t0)), (.int (own_s1 (own_nx n t0 t1 t2 t3) t0 t1)), (.int (own_s2 (own_nx n t0 t1 t2 t3) t0 t1 t2)), (.int (own_s3 (own_nx n t0 t1 t2 t3) t0 t1 t2 t3))]) : Con l Z (⟨"com/example/wayfold/wayfold/TrafficNetwork", "head", "(I)I"⟩ : MethodName) prog_57_method_7_code 2 (some .int) [] ({ frames := 1, cells := 0, slots := 0, locals := 20 } : Room) #[(.ref a), (.int (1 : Int32))] h0 (fun v h L => v = some (.int y1) ∧ L = [] ∧ h = h0) := by
  refine Con.of (plainFor_of_name pn_com_example_wayfold_wayfold_TrafficNetwork) ?_
  intro p e s m below meth c T X hx hby hml hown hnm hret eT hZ hsh Φ fin
  replace hown : s.vm.findClass "com/example/wayfold/wayfold/TrafficNetwork" = some m.cls := hown
  replace hml : 2 = c.maxLocals := hml.symm
  refine own_step (fun tq kq => castTop (ef_rmH1 m a (1 : Int32)) kq) ?_
  have hgo := own_goodOf hg
  have hsm := own_small hgo.1
  have hfo := (own_found hgo.1 y0 y1 y2 y3).2.1
  refine own_aloadN X hx hby d_57_7__0 rfl rfl (pc' := 1) rfl ?_
  refine own_getF X hx hby hZ hown (host := "") (Or.inl (own_w hw 181 rfl)) Via.refl eT H1 d_57_7__1 (pc' := 4) rfl ?_
  intro T1 X1 e1
  refine own_aloadN X1 hx hby d_57_7__4 rfl rfl (pc' := 5) rfl ?_
  refine own_getF X1 hx hby hZ hown (host := "") (Or.inl (own_w hw 189 rfl)) Via.refl e1 H2 d_57_7__5 (pc' := 8) rfl ?_
  intro T2 X2 e2
  refine own_iloadN X2 hx hby d_57_7__8 rfl (pc' := 9) rfl ?_
  refine own_iaload X2 hx hby hZ e2 H6 (by decide) (v := (.int (own_s1 (own_nx n t0 t1 t2 t3) t0 t1))) rfl d_57_7__9 (pc' := 10) rfl ?_
  refine own_callV X2 hx hby hZ (by exact hml) hown (own_w hw 210 rfl) (own_w hw 211 rfl) (own_w hw 213 rfl) (own_w hw 212 rfl) (own_w hw 154 rfl) (own_w hw 214 rfl) (by decide) e2 0 (by decide) (by decide) (by decide) (by decide) (argsL := [(.int (own_s1 (own_nx n t0 t1 t2 t3) t0 t1))]) (rest := []) (lenOf pd__I_I rfl) rfl (Nat.le_of_eq rfl) H3 (rmGH l Z a0 hw gr ah (own_s1 (own_nx n t0 t1 t2 t3) t0 t1) (own_hd (own_s0 (own_nx n t0 t1 t2 t3) t0) (own_s1 (own_nx n t0 t1 t2 t3) t0 t1) (own_s2 (own_nx n t0 t1 t2 t3) t0 t1 t2) (own_s3 (own_nx n t0 t1 t2 t3) t0 t1 t2 t3) y0 y1 y2 y3) h0 H4 H5 ⟨hsm.2.1.1, by rw [own_hdlen]; exact hsm.2.1.2⟩) d_57_7__10 (pc' := 13) rfl ?_
  intro v3 T3 L3 X3 hQ3
  obtain ⟨rfl, rfl, e3⟩ := hQ3
  rw [List.append_nil] at X3
  replace e3 : T3.heap = h0 := e3
  show GoP p e below Φ (T3.setTop (mkF m 13 #[.val (.ref a), .val (.int (1 : Int32))] [(.int (own_g (own_hd (own_s0 (own_nx n t0 t1 t2 t3) t0) (own_s1 (own_nx n t0 t1 t2 t3) t0 t1) (own_s2 (own_nx n t0 t1 t2 t3) t0 t1 t2) (own_s3 (own_nx n t0 t1 t2 t3) t0 t1 t2 t3) y0 y1 y2 y3) (own_s1 (own_nx n t0 t1 t2 t3) t0 t1)))]))
  exact own_retI X3 hx hby fin hret d_57_7__13 (by decide) (by decide) ⟨by rw [hfo], rfl, e3⟩
theorem ef_rmH2 (m : MethodId) (x0 : Addr) (x1 : Int32) : entryFrame m #[(.ref x0), (.int x1)] 2 = mkF m 0 #[.val (.ref x0), .val (.int x1)] [] := by first | (simp [entryFrame, mkF, argsToLocals, Value.category]; done) | rfl
set_option maxRecDepth 65536 in
set_option maxHeartbeats 40000000 in
theorem rmH2 (l : Launch) (Z : State) (a0 : Array Value) (hw : ∀ d ∈ tables_1, d.before a0 Z = true) (a gr ah la : Addr) (n t0 t1 t2 t3 y0 y1 y2 y3 : Int32) (h0 : Heap) (hg : own_chk n t0 t1 t2 t3 = true) (H0 : Exa Z h0 a "com/example/wayfold/wayfold/TrafficNetwork") (H1 : Fld Z h0 a "com/example/wayfold/wayfold/TrafficNetwork" "graph" "Lcom/example/wayfold/wayfold/Graph;" (.ref gr)) (H2 : Fld Z h0 a "com/example/wayfold/wayfold/TrafficNetwork" "linkArc" "[I" (.ref la)) (H3 : Exa Z h0 gr "com/example/wayfold/wayfold/Graph") (H4 : Fld Z h0 gr "com/example/wayfold/wayfold/Graph" "arcHead" "[I" (.ref ah)) (H5 : LI Z h0 ah (own_hd (own_s0 (own_nx n t0 t1 t2 t3) t0) (own_s1 (own_nx n t0 t1 t2 t3) t0 t1) (own_s2 (own_nx n t0 t1 t2 t3) t0 t1 t2) (own_s3 (own_nx n t0 t1 t2 t3) t0 t1 t2 t3) y0 y1 y2 y3)) (H6 : AV Z h0 la .int [(.int (own_s0 (own_nx n t0 t1 t2 t3) t0)), (.int (own_s1 (own_nx n t0 t1 t2 t3) t0 t1)), (.int (own_s2 (own_nx n t0 t1 t2 t3) t0 t1 t2)), (.int (own_s3 (own_nx n t0 t1 t2 t3) t0 t1 t2 t3))]) : Con l Z (⟨"com/example/wayfold/wayfold/TrafficNetwork", "head", "(I)I"⟩ : MethodName) prog_57_method_7_code 2 (some .int) [] ({ frames := 1, cells := 0, slots := 0, locals := 20 } : Room) #[(.ref a), (.int (2 : Int32))] h0 (fun v h L => v = some (.int y2) ∧ L = [] ∧ h = h0) := by
  refine Con.of (plainFor_of_name pn_com_example_wayfold_wayfold_TrafficNetwork) ?_
  intro p e s m below meth c T X hx hby hml hown hnm hret eT hZ hsh Φ fin
  replace hown : s.vm.findClass "com/example/wayfold/wayfold/TrafficNetwork" = some m.cls := hown
  replace hml : 2 = c.maxLocals := hml.symm
  refine own_step (fun tq kq => castTop (ef_rmH2 m a (2 : Int32)) kq) ?_
  have hgo := own_goodOf hg
  have hsm := own_small hgo.1
  have hfo := (own_found hgo.1 y0 y1 y2 y3).2.2.1
  refine own_aloadN X hx hby d_57_7__0 rfl rfl (pc' := 1) rfl ?_
  refine own_getF X hx hby hZ hown (host := "") (Or.inl (own_w hw 181 rfl)) Via.refl eT H1 d_57_7__1 (pc' := 4) rfl ?_
  intro T1 X1 e1
  refine own_aloadN X1 hx hby d_57_7__4 rfl rfl (pc' := 5) rfl ?_
  refine own_getF X1 hx hby hZ hown (host := "") (Or.inl (own_w hw 189 rfl)) Via.refl e1 H2 d_57_7__5 (pc' := 8) rfl ?_
  intro T2 X2 e2
  refine own_iloadN X2 hx hby d_57_7__8 rfl (pc' := 9) rfl ?_
  refine own_iaload X2 hx hby hZ e2 H6 (by decide) (v := (.int (own_s2 (own_nx n t0 t1 t2 t3) t0 t1 t2))) rfl d_57_7__9 (pc' := 10) rfl ?_
  refine own_callV X2 hx hby hZ (by exact hml) hown (own_w hw 210 rfl) (own_w hw 211 rfl) (own_w hw 213 rfl) (own_w hw 212 rfl) (own_w hw 154 rfl) (own_w hw 214 rfl) (by decide) e2 0 (by decide) (by decide) (by decide) (by decide) (argsL := [(.int (own_s2 (own_nx n t0 t1 t2 t3) t0 t1 t2))]) (rest := []) (lenOf pd__I_I rfl) rfl (Nat.le_of_eq rfl) H3 (rmGH l Z a0 hw gr ah (own_s2 (own_nx n t0 t1 t2 t3) t0 t1 t2) (own_hd (own_s0 (own_nx n t0 t1 t2 t3) t0) (own_s1 (own_nx n t0 t1 t2 t3) t0 t1) (own_s2 (own_nx n t0 t1 t2 t3) t0 t1 t2) (own_s3 (own_nx n t0 t1 t2 t3) t0 t1 t2 t3) y0 y1 y2 y3) h0 H4 H5 ⟨hsm.2.2.1.1, by rw [own_hdlen]; exact hsm.2.2.1.2⟩) d_57_7__10 (pc' := 13) rfl ?_
  intro v3 T3 L3 X3 hQ3
  obtain ⟨rfl, rfl, e3⟩ := hQ3
  rw [List.append_nil] at X3
  replace e3 : T3.heap = h0 := e3
  show GoP p e below Φ (T3.setTop (mkF m 13 #[.val (.ref a), .val (.int (2 : Int32))] [(.int (own_g (own_hd (own_s0 (own_nx n t0 t1 t2 t3) t0) (own_s1 (own_nx n t0 t1 t2 t3) t0 t1) (own_s2 (own_nx n t0 t1 t2 t3) t0 t1 t2) (own_s3 (own_nx n t0 t1 t2 t3) t0 t1 t2 t3) y0 y1 y2 y3) (own_s2 (own_nx n t0 t1 t2 t3) t0 t1 t2)))]))
  exact own_retI X3 hx hby fin hret d_57_7__13 (by decide) (by decide) ⟨by rw [hfo], rfl, e3⟩
theorem ef_rmH3 (m : MethodId) (x0 : Addr) (x1 : Int32) : entryFrame m #[(.ref x0), (.int x1)] 2 = mkF m 0 #[.val (.ref x0), .val (.int x1)] [] := by first | (simp [entryFrame, mkF, argsToLocals, Value.category]; done) | rfl
set_option maxRecDepth 65536 in
set_option maxHeartbeats 40000000 in
theorem rmH3 (l : Launch) (Z : State) (a0 : Array Value) (hw : ∀ d ∈ tables_1, d.before a0 Z = true) (a gr ah la : Addr) (n t0 t1 t2 t3 y0 y1 y2 y3 : Int32) (h0 : Heap) (hg : own_chk n t0 t1 t2 t3 = true) (H0 : Exa Z h0 a "com/example/wayfold/wayfold/TrafficNetwork") (H1 : Fld Z h0 a "com/example/wayfold/wayfold/TrafficNetwork" "graph" "Lcom/example/wayfold/wayfold/Graph;" (.ref gr)) (H2 : Fld Z h0 a "com/example/wayfold/wayfold/TrafficNetwork" "linkArc" "[I" (.ref la)) (H3 : Exa Z h0 gr "com/example/wayfold/wayfold/Graph") (H4 : Fld Z h0 gr "com/example/wayfold/wayfold/Graph" "arcHead" "[I" (.ref ah)) (H5 : LI Z h0 ah (own_hd (own_s0 (own_nx n t0 t1 t2 t3) t0) (own_s1 (own_nx n t0 t1 t2 t3) t0 t1) (own_s2 (own_nx n t0 t1 t2 t3) t0 t1 t2) (own_s3 (own_nx n t0 t1 t2 t3) t0 t1 t2 t3) y0 y1 y2 y3)) (H6 : AV Z h0 la .int [(.int (own_s0 (own_nx n t0 t1 t2 t3) t0)), (.int (own_s1 (own_nx n t0 t1 t2 t3) t0 t1)), (.int (own_s2 (own_nx n t0 t1 t2 t3) t0 t1 t2)), (.int (own_s3 (own_nx n t0 t1 t2 t3) t0 t1 t2 t3))]) : Con l Z (⟨"com/example/wayfold/wayfold/TrafficNetwork", "head", "(I)I"⟩ : MethodName) prog_57_method_7_code 2 (some .int) [] ({ frames := 1, cells := 0, slots := 0, locals := 20 } : Room) #[(.ref a), (.int (3 : Int32))] h0 (fun v h L => v = some (.int y3) ∧ L = [] ∧ h = h0) := by
  refine Con.of (plainFor_of_name pn_com_example_wayfold_wayfold_TrafficNetwork) ?_
  intro p e s m below meth c T X hx hby hml hown hnm hret eT hZ hsh Φ fin
  replace hown : s.vm.findClass "com/example/wayfold/wayfold/TrafficNetwork" = some m.cls := hown
  replace hml : 2 = c.maxLocals := hml.symm
  refine own_step (fun tq kq => castTop (ef_rmH3 m a (3 : Int32)) kq) ?_
  have hgo := own_goodOf hg
  have hsm := own_small hgo.1
  have hfo := (own_found hgo.1 y0 y1 y2 y3).2.2.2
  refine own_aloadN X hx hby d_57_7__0 rfl rfl (pc' := 1) rfl ?_
  refine own_getF X hx hby hZ hown (host := "") (Or.inl (own_w hw 181 rfl)) Via.refl eT H1 d_57_7__1 (pc' := 4) rfl ?_
  intro T1 X1 e1
  refine own_aloadN X1 hx hby d_57_7__4 rfl rfl (pc' := 5) rfl ?_
  refine own_getF X1 hx hby hZ hown (host := "") (Or.inl (own_w hw 189 rfl)) Via.refl e1 H2 d_57_7__5 (pc' := 8) rfl ?_
  intro T2 X2 e2
  refine own_iloadN X2 hx hby d_57_7__8 rfl (pc' := 9) rfl ?_
  refine own_iaload X2 hx hby hZ e2 H6 (by decide) (v := (.int (own_s3 (own_nx n t0 t1 t2 t3) t0 t1 t2 t3))) rfl d_57_7__9 (pc' := 10) rfl ?_
  refine own_callV X2 hx hby hZ (by exact hml) hown (own_w hw 210 rfl) (own_w hw 211 rfl) (own_w hw 213 rfl) (own_w hw 212 rfl) (own_w hw 154 rfl) (own_w hw 214 rfl) (by decide) e2 0 (by decide) (by decide) (by decide) (by decide) (argsL := [(.int (own_s3 (own_nx n t0 t1 t2 t3) t0 t1 t2 t3))]) (rest := []) (lenOf pd__I_I rfl) rfl (Nat.le_of_eq rfl) H3 (rmGH l Z a0 hw gr ah (own_s3 (own_nx n t0 t1 t2 t3) t0 t1 t2 t3) (own_hd (own_s0 (own_nx n t0 t1 t2 t3) t0) (own_s1 (own_nx n t0 t1 t2 t3) t0 t1) (own_s2 (own_nx n t0 t1 t2 t3) t0 t1 t2) (own_s3 (own_nx n t0 t1 t2 t3) t0 t1 t2 t3) y0 y1 y2 y3) h0 H4 H5 ⟨hsm.2.2.2.1, by rw [own_hdlen]; exact hsm.2.2.2.2⟩) d_57_7__10 (pc' := 13) rfl ?_
  intro v3 T3 L3 X3 hQ3
  obtain ⟨rfl, rfl, e3⟩ := hQ3
  rw [List.append_nil] at X3
  replace e3 : T3.heap = h0 := e3
  show GoP p e below Φ (T3.setTop (mkF m 13 #[.val (.ref a), .val (.int (3 : Int32))] [(.int (own_g (own_hd (own_s0 (own_nx n t0 t1 t2 t3) t0) (own_s1 (own_nx n t0 t1 t2 t3) t0 t1) (own_s2 (own_nx n t0 t1 t2 t3) t0 t1 t2) (own_s3 (own_nx n t0 t1 t2 t3) t0 t1 t2 t3) y0 y1 y2 y3) (own_s3 (own_nx n t0 t1 t2 t3) t0 t1 t2 t3)))]))
  exact own_retI X3 hx hby fin hret d_57_7__13 (by decide) (by decide) ⟨by rw [hfo], rfl, e3⟩
theorem own_t4 (x : Int32) : 1 ≤ ((x &&& (3 : Int32)) + (1 : Int32)).toInt ∧ ((x &&& (3 : Int32)) + (1 : Int32)).toInt ≤ 4 := by
  have a := c_mask x 3 2 (by decide) (by decide)
  have e : ((x &&& (3 : Int32)) + (1 : Int32)).toInt = (x &&& (3 : Int32)).toInt + 1 := own_add32 (by rw [own_z1]) (by omega) (by omega)
  omega
theorem own_z4 : (4 : Int32).toInt = 4 := by decide
theorem own_n4 (x : Int32) : 4 ≤ ((4 : Int32) + (x &&& (3 : Int32))).toInt ∧ ((4 : Int32) + (x &&& (3 : Int32))).toInt ≤ 7 := by
  have a := c_mask x 3 2 (by decide) (by decide)
  have e : ((4 : Int32) + (x &&& (3 : Int32))).toInt = 4 + (x &&& (3 : Int32)).toInt := own_add32 (by rw [own_z4]) (by omega) (by omega)
  omega
theorem own_mem4 {x : Int32} (h1 : 1 ≤ x.toInt) (h2 : x.toInt ≤ 4) : x ∈ ([1, 2, 3, 4] : List Int32) := by
  have f : ∀ y : Int32, x.toInt = y.toInt → x = y := fun y q => Int32.toInt_inj.mp q
  have k : x.toInt = 1 ∨ x.toInt = 2 ∨ x.toInt = 3 ∨ x.toInt = 4 := by omega
  rcases k with q | q | q | q
  · rw [f 1 (q.trans (by decide))]; decide
  · rw [f 2 (q.trans (by decide))]; decide
  · rw [f 3 (q.trans (by decide))]; decide
  · rw [f 4 (q.trans (by decide))]; decide
theorem own_memn {x : Int32} (h1 : 4 ≤ x.toInt) (h2 : x.toInt ≤ 7) : x ∈ ([4, 5, 6, 7] : List Int32) := by
  have f : ∀ y : Int32, x.toInt = y.toInt → x = y := fun y q => Int32.toInt_inj.mp q
  have k : x.toInt = 4 ∨ x.toInt = 5 ∨ x.toInt = 6 ∨ x.toInt = 7 := by omega
  rcases k with q | q | q | q
  · rw [f 4 (q.trans (by decide))]; decide
  · rw [f 5 (q.trans (by decide))]; decide
  · rw [f 6 (q.trans (by decide))]; decide
  · rw [f 7 (q.trans (by decide))]; decide
theorem ef_rm0 (m : MethodId) (x0 : Int32) (x1 : Int32) (x2 : Int32) : entryFrame m #[(.int x0), (.int x1), (.int x2)] maxLocals = mkF m 0 #[.val (.int x0), .val (.int x1), .val (.int x2), .unset, .unset, .unset, .unset, .unset, .unset, .unset, .unset, .unset, .unset, .unset] [] := by first | (simp [entryFrame, mkF, argsToLocals, Value.category, maxLocals]; done) | rfl
theorem pn_com_example_wayfold_wayfold_TrafficNetworkHeadPinLaw : plainName "com/example/wayfold/wayfold/TrafficNetworkHeadPinLaw" = true := by first | (simp [plainName, overriddenIn]; done) | decide +kernel
theorem pd__IIDDDD_V : parseMethodDescriptor "(IIDDDD)V" = some ⟨[.int, .int, .double, .double, .double, .double], none⟩ := by decide +kernel
theorem pd__Ljava_lang_Object__Z : parseMethodDescriptor "(Ljava/lang/Object;)Z" = some ⟨[(.object "java/lang/Object")], some .boolean⟩ := by decide +kernel
theorem pd__IIILjava_util_List__V : parseMethodDescriptor "(IIILjava/util/List;)V" = some ⟨[.int, .int, .int, (.object "java/util/List")], none⟩ := by decide +kernel
set_option maxRecDepth 65536 in
set_option maxHeartbeats 40000000 in
theorem rm0 (l : Launch) (Z : State) (a0 : Array Value) (hw : ∀ d ∈ tables_1, d.before a0 Z = true) (p1 p2 p3 : Int32) (aD : Addr) (n0 : Nat) (h0 : Heap) (Z0 : n0 ≤ h0.size) (S : Sta Z h0 "java/util/ArrayList" "DEFAULTCAPACITY_EMPTY_ELEMENTDATA" "[Ljava/lang/Object;" (.ref aD)) (VD : AV Z h0 aD (.object "java/lang/Object") []) : Con l Z x code maxLocals ret tables_1 room_1 #[(.int p1), (.int p2), (.int p3)] h0 (fun v h L => v = some (.int 1) ∧ Fr n0 L) := by
  refine Con.of (plainFor_of_name pn_com_example_wayfold_wayfold_TrafficNetworkHeadPinLaw) ?_
  intro p e s m below meth c T X hx hby hml hown hnm hret eT hZ hsh Φ fin
  replace hown : s.vm.findClass "com/example/wayfold/wayfold/TrafficNetworkHeadPinLaw" = some m.cls := hown
  replace hml : 14 = c.maxLocals := hml.symm
  refine own_step (fun tq kq => castTop (ef_rm0 m p1 p2 p3) kq) ?_
  replace hret : meth.sig.returnType = (some .boolean) := hret
  have N0 := Fr.nil n0
  refine own_iloadN X hx hby at_0 rfl (pc' := 1) rfl ?_
  refine own_iconst X hx hby at_1 (v := (3 : Int32)) rfl (pc' := 2) rfl ?_
  refine own_iand X hx hby at_2 (pc' := 3) rfl ?_
  refine own_iconst X hx hby at_3 (v := (1 : Int32)) rfl (pc' := 4) rfl ?_
  refine own_iadd X hx hby at_4 (pc' := 5) rfl ?_
  refine own_istoreN X hx hby at_5  (Ls' := #[.val (.int p1), .val (.int p2), .val (.int p3), .val (.int ((p1 &&& (3 : Int32)) + (1 : Int32))), .unset, .unset, .unset, .unset, .unset, .unset, .unset, .unset, .unset, .unset]) rfl (pc' := 6) rfl ?_
  refine own_iloadN X hx hby at_6 rfl (pc' := 7) rfl ?_
  refine own_iconst X hx hby at_7 (v := (2 : Int32)) rfl (pc' := 8) rfl ?_
  refine own_iushr X hx hby at_8 (pc' := 9) rfl ?_
  refine own_iconst X hx hby at_9 (v := (3 : Int32)) rfl (pc' := 10) rfl ?_
  refine own_iand X hx hby at_10 (pc' := 11) rfl ?_
  refine own_iconst X hx hby at_11 (v := (1 : Int32)) rfl (pc' := 12) rfl ?_
  refine own_iadd X hx hby at_12 (pc' := 13) rfl ?_
  refine own_istore X hx hby at_13  (Ls' := #[.val (.int p1), .val (.int p2), .val (.int p3), .val (.int ((p1 &&& (3 : Int32)) + (1 : Int32))), .val (.int ((((p1.toUInt32 >>> ((2 : Int32) &&& 31).toUInt32).toInt32) &&& (3 : Int32)) + (1 : Int32))), .unset, .unset, .unset, .unset, .unset, .unset, .unset, .unset, .unset]) rfl (pc' := 15) rfl ?_
  refine own_iloadN X hx hby at_15 rfl (pc' := 16) rfl ?_
  refine own_iconst X hx hby at_16 (v := (4 : Int32)) rfl (pc' := 17) rfl ?_
  refine own_iushr X hx hby at_17 (pc' := 18) rfl ?_
  refine own_iconst X hx hby at_18 (v := (3 : Int32)) rfl (pc' := 19) rfl ?_
  refine own_iand X hx hby at_19 (pc' := 20) rfl ?_
  refine own_iconst X hx hby at_20 (v := (1 : Int32)) rfl (pc' := 21) rfl ?_
  refine own_iadd X hx hby at_21 (pc' := 22) rfl ?_
  refine own_istore X hx hby at_22  (Ls' := #[.val (.int p1), .val (.int p2), .val (.int p3), .val (.int ((p1 &&& (3 : Int32)) + (1 : Int32))), .val (.int ((((p1.toUInt32 >>> ((2 : Int32) &&& 31).toUInt32).toInt32) &&& (3 : Int32)) + (1 : Int32))), .val (.int ((((p1.toUInt32 >>> ((4 : Int32) &&& 31).toUInt32).toInt32) &&& (3 : Int32)) + (1 : Int32))), .unset, .unset, .unset, .unset, .unset, .unset, .unset, .unset]) rfl (pc' := 24) rfl ?_
  refine own_iloadN X hx hby at_24 rfl (pc' := 25) rfl ?_
  refine own_bipush X hx hby at_25 (v := (6 : Int32)) rfl (pc' := 27) rfl ?_
  refine own_iushr X hx hby at_27 (pc' := 28) rfl ?_
  refine own_iconst X hx hby at_28 (v := (3 : Int32)) rfl (pc' := 29) rfl ?_
  refine own_iand X hx hby at_29 (pc' := 30) rfl ?_
  refine own_iconst X hx hby at_30 (v := (1 : Int32)) rfl (pc' := 31) rfl ?_
  refine own_iadd X hx hby at_31 (pc' := 32) rfl ?_
  refine own_istore X hx hby at_32  (Ls' := #[.val (.int p1), .val (.int p2), .val (.int p3), .val (.int ((p1 &&& (3 : Int32)) + (1 : Int32))), .val (.int ((((p1.toUInt32 >>> ((2 : Int32) &&& 31).toUInt32).toInt32) &&& (3 : Int32)) + (1 : Int32))), .val (.int ((((p1.toUInt32 >>> ((4 : Int32) &&& 31).toUInt32).toInt32) &&& (3 : Int32)) + (1 : Int32))), .val (.int ((((p1.toUInt32 >>> ((6 : Int32) &&& 31).toUInt32).toInt32) &&& (3 : Int32)) + (1 : Int32))), .unset, .unset, .unset, .unset, .unset, .unset, .unset]) rfl (pc' := 34) rfl ?_
  refine own_iloadN X hx hby at_34 rfl (pc' := 35) rfl ?_
  refine own_iconst X hx hby at_35 (v := (3 : Int32)) rfl (pc' := 36) rfl ?_
  refine own_iand X hx hby at_36 (pc' := 37) rfl ?_
  refine own_iconst X hx hby at_37 (v := (1 : Int32)) rfl (pc' := 38) rfl ?_
  refine own_iadd X hx hby at_38 (pc' := 39) rfl ?_
  refine own_istore X hx hby at_39  (Ls' := #[.val (.int p1), .val (.int p2), .val (.int p3), .val (.int ((p1 &&& (3 : Int32)) + (1 : Int32))), .val (.int ((((p1.toUInt32 >>> ((2 : Int32) &&& 31).toUInt32).toInt32) &&& (3 : Int32)) + (1 : Int32))), .val (.int ((((p1.toUInt32 >>> ((4 : Int32) &&& 31).toUInt32).toInt32) &&& (3 : Int32)) + (1 : Int32))), .val (.int ((((p1.toUInt32 >>> ((6 : Int32) &&& 31).toUInt32).toInt32) &&& (3 : Int32)) + (1 : Int32))), .val (.int ((p2 &&& (3 : Int32)) + (1 : Int32))), .unset, .unset, .unset, .unset, .unset, .unset]) rfl (pc' := 41) rfl ?_
  refine own_iloadN X hx hby at_41 rfl (pc' := 42) rfl ?_
  refine own_iconst X hx hby at_42 (v := (2 : Int32)) rfl (pc' := 43) rfl ?_
  refine own_iushr X hx hby at_43 (pc' := 44) rfl ?_
  refine own_iconst X hx hby at_44 (v := (3 : Int32)) rfl (pc' := 45) rfl ?_
  refine own_iand X hx hby at_45 (pc' := 46) rfl ?_
  refine own_iconst X hx hby at_46 (v := (1 : Int32)) rfl (pc' := 47) rfl ?_
  refine own_iadd X hx hby at_47 (pc' := 48) rfl ?_
  refine own_istore X hx hby at_48  (Ls' := #[.val (.int p1), .val (.int p2), .val (.int p3), .val (.int ((p1 &&& (3 : Int32)) + (1 : Int32))), .val (.int ((((p1.toUInt32 >>> ((2 : Int32) &&& 31).toUInt32).toInt32) &&& (3 : Int32)) + (1 : Int32))), .val (.int ((((p1.toUInt32 >>> ((4 : Int32) &&& 31).toUInt32).toInt32) &&& (3 : Int32)) + (1 : Int32))), .val (.int ((((p1.toUInt32 >>> ((6 : Int32) &&& 31).toUInt32).toInt32) &&& (3 : Int32)) + (1 : Int32))), .val (.int ((p2 &&& (3 : Int32)) + (1 : Int32))), .val (.int ((((p2.toUInt32 >>> ((2 : Int32) &&& 31).toUInt32).toInt32) &&& (3 : Int32)) + (1 : Int32))), .unset, .unset, .unset, .unset, .unset]) rfl (pc' := 50) rfl ?_
  refine own_iloadN X hx hby at_50 rfl (pc' := 51) rfl ?_
  refine own_iconst X hx hby at_51 (v := (4 : Int32)) rfl (pc' := 52) rfl ?_
  refine own_iushr X hx hby at_52 (pc' := 53) rfl ?_
  refine own_iconst X hx hby at_53 (v := (3 : Int32)) rfl (pc' := 54) rfl ?_
  refine own_iand X hx hby at_54 (pc' := 55) rfl ?_
  refine own_iconst X hx hby at_55 (v := (1 : Int32)) rfl (pc' := 56) rfl ?_
  refine own_iadd X hx hby at_56 (pc' := 57) rfl ?_
  refine own_istore X hx hby at_57  (Ls' := #[.val (.int p1), .val (.int p2), .val (.int p3), .val (.int ((p1 &&& (3 : Int32)) + (1 : Int32))), .val (.int ((((p1.toUInt32 >>> ((2 : Int32) &&& 31).toUInt32).toInt32) &&& (3 : Int32)) + (1 : Int32))), .val (.int ((((p1.toUInt32 >>> ((4 : Int32) &&& 31).toUInt32).toInt32) &&& (3 : Int32)) + (1 : Int32))), .val (.int ((((p1.toUInt32 >>> ((6 : Int32) &&& 31).toUInt32).toInt32) &&& (3 : Int32)) + (1 : Int32))), .val (.int ((p2 &&& (3 : Int32)) + (1 : Int32))), .val (.int ((((p2.toUInt32 >>> ((2 : Int32) &&& 31).toUInt32).toInt32) &&& (3 : Int32)) + (1 : Int32))), .val (.int ((((p2.toUInt32 >>> ((4 : Int32) &&& 31).toUInt32).toInt32) &&& (3 : Int32)) + (1 : Int32))), .unset, .unset, .unset, .unset]) rfl (pc' := 59) rfl ?_
  refine own_iloadN X hx hby at_59 rfl (pc' := 60) rfl ?_
  refine own_bipush X hx hby at_60 (v := (6 : Int32)) rfl (pc' := 62) rfl ?_
  refine own_iushr X hx hby at_62 (pc' := 63) rfl ?_
  refine own_iconst X hx hby at_63 (v := (3 : Int32)) rfl (pc' := 64) rfl ?_
  refine own_iand X hx hby at_64 (pc' := 65) rfl ?_
  refine own_iconst X hx hby at_65 (v := (1 : Int32)) rfl (pc' := 66) rfl ?_
  refine own_iadd X hx hby at_66 (pc' := 67) rfl ?_
  refine own_istore X hx hby at_67  (Ls' := #[.val (.int p1), .val (.int p2), .val (.int p3), .val (.int ((p1 &&& (3 : Int32)) + (1 : Int32))), .val (.int ((((p1.toUInt32 >>> ((2 : Int32) &&& 31).toUInt32).toInt32) &&& (3 : Int32)) + (1 : Int32))), .val (.int ((((p1.toUInt32 >>> ((4 : Int32) &&& 31).toUInt32).toInt32) &&& (3 : Int32)) + (1 : Int32))), .val (.int ((((p1.toUInt32 >>> ((6 : Int32) &&& 31).toUInt32).toInt32) &&& (3 : Int32)) + (1 : Int32))), .val (.int ((p2 &&& (3 : Int32)) + (1 : Int32))), .val (.int ((((p2.toUInt32 >>> ((2 : Int32) &&& 31).toUInt32).toInt32) &&& (3 : Int32)) + (1 : Int32))), .val (.int ((((p2.toUInt32 >>> ((4 : Int32) &&& 31).toUInt32).toInt32) &&& (3 : Int32)) + (1 : Int32))), .val (.int ((((p2.toUInt32 >>> ((6 : Int32) &&& 31).toUInt32).toInt32) &&& (3 : Int32)) + (1 : Int32))), .unset, .unset, .unset]) rfl (pc' := 69) rfl ?_
  refine own_iconst X hx hby at_69 (v := (4 : Int32)) rfl (pc' := 70) rfl ?_
  refine own_iloadN X hx hby at_70 rfl (pc' := 71) rfl ?_
  refine own_iconst X hx hby at_71 (v := (3 : Int32)) rfl (pc' := 72) rfl ?_
  refine own_iand X hx hby at_72 (pc' := 73) rfl ?_
  refine own_iadd X hx hby at_73 (pc' := 74) rfl ?_
  refine own_istore X hx hby at_74  (Ls' := #[.val (.int p1), .val (.int p2), .val (.int p3), .val (.int ((p1 &&& (3 : Int32)) + (1 : Int32))), .val (.int ((((p1.toUInt32 >>> ((2 : Int32) &&& 31).toUInt32).toInt32) &&& (3 : Int32)) + (1 : Int32))), .val (.int ((((p1.toUInt32 >>> ((4 : Int32) &&& 31).toUInt32).toInt32) &&& (3 : Int32)) + (1 : Int32))), .val (.int ((((p1.toUInt32 >>> ((6 : Int32) &&& 31).toUInt32).toInt32) &&& (3 : Int32)) + (1 : Int32))), .val (.int ((p2 &&& (3 : Int32)) + (1 : Int32))), .val (.int ((((p2.toUInt32 >>> ((2 : Int32) &&& 31).toUInt32).toInt32) &&& (3 : Int32)) + (1 : Int32))), .val (.int ((((p2.toUInt32 >>> ((4 : Int32) &&& 31).toUInt32).toInt32) &&& (3 : Int32)) + (1 : Int32))), .val (.int ((((p2.toUInt32 >>> ((6 : Int32) &&& 31).toUInt32).toInt32) &&& (3 : Int32)) + (1 : Int32))), .val (.int ((4 : Int32) + (p3 &&& (3 : Int32)))), .unset, .unset]) rfl (pc' := 76) rfl ?_
  obtain ⟨t0, e_t0, lt0, ut0⟩ : ∃ q : Int32, q = ((p1 &&& (3 : Int32)) + (1 : Int32)) ∧ 1 ≤ q.toInt ∧ q.toInt ≤ 4 := ⟨_, rfl, (own_t4 _).1, (own_t4 _).2⟩
  rw [← e_t0]
  obtain ⟨t1, e_t1, lt1, ut1⟩ : ∃ q : Int32, q = ((((p1.toUInt32 >>> ((2 : Int32) &&& 31).toUInt32).toInt32) &&& (3 : Int32)) + (1 : Int32)) ∧ 1 ≤ q.toInt ∧ q.toInt ≤ 4 := ⟨_, rfl, (own_t4 _).1, (own_t4 _).2⟩
  rw [← e_t1]
  obtain ⟨t2, e_t2, lt2, ut2⟩ : ∃ q : Int32, q = ((((p1.toUInt32 >>> ((4 : Int32) &&& 31).toUInt32).toInt32) &&& (3 : Int32)) + (1 : Int32)) ∧ 1 ≤ q.toInt ∧ q.toInt ≤ 4 := ⟨_, rfl, (own_t4 _).1, (own_t4 _).2⟩
  rw [← e_t2]
  obtain ⟨t3, e_t3, lt3, ut3⟩ : ∃ q : Int32, q = ((((p1.toUInt32 >>> ((6 : Int32) &&& 31).toUInt32).toInt32) &&& (3 : Int32)) + (1 : Int32)) ∧ 1 ≤ q.toInt ∧ q.toInt ≤ 4 := ⟨_, rfl, (own_t4 _).1, (own_t4 _).2⟩
  rw [← e_t3]
  obtain ⟨y0, e_y0, ly0, uy0⟩ : ∃ q : Int32, q = ((p2 &&& (3 : Int32)) + (1 : Int32)) ∧ 1 ≤ q.toInt ∧ q.toInt ≤ 4 := ⟨_, rfl, (own_t4 _).1, (own_t4 _).2⟩
  rw [← e_y0]
  obtain ⟨y1, e_y1, ly1, uy1⟩ : ∃ q : Int32, q = ((((p2.toUInt32 >>> ((2 : Int32) &&& 31).toUInt32).toInt32) &&& (3 : Int32)) + (1 : Int32)) ∧ 1 ≤ q.toInt ∧ q.toInt ≤ 4 := ⟨_, rfl, (own_t4 _).1, (own_t4 _).2⟩
  rw [← e_y1]
  obtain ⟨y2, e_y2, ly2, uy2⟩ : ∃ q : Int32, q = ((((p2.toUInt32 >>> ((4 : Int32) &&& 31).toUInt32).toInt32) &&& (3 : Int32)) + (1 : Int32)) ∧ 1 ≤ q.toInt ∧ q.toInt ≤ 4 := ⟨_, rfl, (own_t4 _).1, (own_t4 _).2⟩
  rw [← e_y2]
  obtain ⟨y3, e_y3, ly3, uy3⟩ : ∃ q : Int32, q = ((((p2.toUInt32 >>> ((6 : Int32) &&& 31).toUInt32).toInt32) &&& (3 : Int32)) + (1 : Int32)) ∧ 1 ≤ q.toInt ∧ q.toInt ≤ 4 := ⟨_, rfl, (own_t4 _).1, (own_t4 _).2⟩
  rw [← e_y3]
  obtain ⟨n, e_n, hn1, hn2⟩ : ∃ q : Int32, q = ((4 : Int32) + (p3 &&& (3 : Int32))) ∧ 4 ≤ q.toInt ∧ q.toInt ≤ 7 := ⟨_, rfl, (own_n4 _).1, (own_n4 _).2⟩
  rw [← e_n]
  have hg : own_chk n t0 t1 t2 t3 = true := own_sorted (own_memn hn1 hn2) (own_mem4 lt0 ut0) (own_mem4 lt1 ut1) (own_mem4 lt2 ut2) (own_mem4 lt3 ut3)
  obtain ⟨T1, h1, X1, e1, E1, A1, D1, -, st1⟩ := newO X hx hZ hown (own_w hw 0 rfl) (own_w hw 1 rfl) (own_w hw 2 rfl) eT (g := (mkF m 76 #[.val (.int p1), .val (.int p2), .val (.int p3), .val (.int t0), .val (.int t1), .val (.int t2), .val (.int t3), .val (.int y0), .val (.int y1), .val (.int y2), .val (.int y3), .val (.int n), .unset, .unset] [])) rfl (hb hby at_76) (by decide) (by decide)
  obtain ⟨b1, g1⟩ : ∃ z, z = h0.size := ⟨_, rfl⟩
  have ne_aD_b1 : aD ≠ b1 := Nat.ne_of_lt (g1 ▸ VD.lt)
  have S2_DEFAULTCAPACITY_EMPTY_ELEMENTDATA := S.ext E1
  have V3_aD := VD.ext E1
  have Z1 : n0 ≤ h1.size := Nat.le_trans Z0 E1.1
  have n0_b1 : n0 ≤ b1 := g1 ▸ Z0
  rw [← g1] at A1 D1 st1
  refine own_step st1 ?_
  have F1_modCount : Fld Z h1 b1 "java/util/AbstractList" "modCount" "I" (.int (0 : Int32)) := D1 (Or.inl (own_w hw 22 rfl)) (ty := .int) (by decide)
  have F1_elementData : Fld Z h1 b1 "java/util/ArrayList" "elementData" "[Ljava/lang/Object;" .null := D1 (Or.inl (own_w hw 25 rfl)) (ty := (.array (.object "java/lang/Object"))) (by decide)
  have F1_size : Fld Z h1 b1 "java/util/ArrayList" "size" "I" (.int (0 : Int32)) := D1 (Or.inl (own_w hw 58 rfl)) (ty := .int) (by decide)
  show GoP p e below Φ (T1.setTop (mkF m 79 #[.val (.int p1), .val (.int p2), .val (.int p3), .val (.int t0), .val (.int t1), .val (.int t2), .val (.int t3), .val (.int y0), .val (.int y1), .val (.int y2), .val (.int y3), .val (.int n), .unset, .unset] [(.ref b1)]))
  refine own_dup X1 hx hby at_79 rfl (pc' := 80) rfl ?_
  refine own_callI X1 hx hby hZ (by exact hml) hown rfl (own_w hw 3 rfl) (own_w hw 4 rfl) (own_w hw 2 rfl) (own_w hw 5 rfl) (by decide) e1 1 (by decide) (by decide) (by decide) (by decide) (argsL := []) (rest := [(.ref b1)]) (lenOf pd___V rfl) rfl (Nat.le_of_eq rfl) (rmAI l Z a0 hw b1 aD n0 h1 n0_b1 A1 F1_modCount F1_elementData F1_size S2_DEFAULTCAPACITY_EMPTY_ELEMENTDATA) at_80 (pc' := 83) rfl ?_
  intro v4 T4 L4 X4 hQ4
  obtain ⟨rfl, Nq4, K4, E4, G14, G24, G34, S4⟩ := hQ4
  have V5_aD := V3_aD.keep K4 (ninS ne_aD_b1 nin0)
  have N4 := Fr.app N0 Nq4
  have Z4 : n0 ≤ T4.heap.size := Nat.le_trans Z1 K4.1
  show GoP p e below Φ (T4.setTop (mkF m 83 #[.val (.int p1), .val (.int p2), .val (.int p3), .val (.int t0), .val (.int t1), .val (.int t2), .val (.int t3), .val (.int y0), .val (.int y1), .val (.int y2), .val (.int y3), .val (.int n), .unset, .unset] [(.ref b1)]))
  refine own_astore X4 hx hby at_83 rfl (Ls' := #[.val (.int p1), .val (.int p2), .val (.int p3), .val (.int t0), .val (.int t1), .val (.int t2), .val (.int t3), .val (.int y0), .val (.int y1), .val (.int y2), .val (.int y3), .val (.int n), .val (.ref b1), .unset]) rfl (pc' := 85) rfl ?_
  refine own_aload X4 hx hby at_85 rfl rfl (pc' := 87) rfl ?_
  obtain ⟨T6, h6, X6, e6, E6, A6, D6, -, st6⟩ := newO X4 hx hZ hown (own_w hw 26 rfl) (own_w hw 27 rfl) (own_w hw 28 rfl) rfl (g := (mkF m 87 #[.val (.int p1), .val (.int p2), .val (.int p3), .val (.int t0), .val (.int t1), .val (.int t2), .val (.int t3), .val (.int y0), .val (.int y1), .val (.int y2), .val (.int y3), .val (.int n), .val (.ref b1), .unset] [(.ref b1)])) rfl (hb hby at_87) (by decide) (by decide)
  obtain ⟨b6, g6⟩ : ∃ z, z = T4.heap.size := ⟨_, rfl⟩
  have ne_aD_b6 : aD ≠ b6 := Nat.ne_of_lt (g6 ▸ V5_aD.lt)
  have ne_b1_b6 : b1 ≠ b6 := Nat.ne_of_lt (g6 ▸ E4.lt)
  have S7_DEFAULTCAPACITY_EMPTY_ELEMENTDATA := S4.ext E6
  have V8_aD := V5_aD.ext E6
  have E9_b1 := E4.ext E6
  have F10_modCount := G14.ext E6
  have F11_elementData := G24.ext E6
  have F12_size := G34.ext E6
  have Z6 : n0 ≤ h6.size := Nat.le_trans Z4 E6.1
  have n0_b6 : n0 ≤ b6 := g6 ▸ Z4
  rw [← g6] at A6 D6 st6
  refine own_step st6 ?_
  have F6_tail : Fld Z h6 b6 "com/example/wayfold/wayfold/TrafficNetwork$Link" "tail" "I" (.int (0 : Int32)) := D6 (Or.inr (own_w hw 39 rfl)) (ty := .int) (by decide)
  have F6_head : Fld Z h6 b6 "com/example/wayfold/wayfold/TrafficNetwork$Link" "head" "I" (.int (0 : Int32)) := D6 (Or.inr (own_w hw 41 rfl)) (ty := .int) (by decide)
  have F6_capacity : Fld Z h6 b6 "com/example/wayfold/wayfold/TrafficNetwork$Link" "capacity" "D" (.double 0) := D6 (Or.inr (own_w hw 43 rfl)) (ty := .double) (by decide)
  have F6_freeFlowTime : Fld Z h6 b6 "com/example/wayfold/wayfold/TrafficNetwork$Link" "freeFlowTime" "D" (.double 0) := D6 (Or.inr (own_w hw 45 rfl)) (ty := .double) (by decide)
  have F6_b : Fld Z h6 b6 "com/example/wayfold/wayfold/TrafficNetwork$Link" "b" "D" (.double 0) := D6 (Or.inr (own_w hw 47 rfl)) (ty := .double) (by decide)
  have F6_power : Fld Z h6 b6 "com/example/wayfold/wayfold/TrafficNetwork$Link" "power" "D" (.double 0) := D6 (Or.inr (own_w hw 49 rfl)) (ty := .double) (by decide)
  show GoP p e below Φ (T6.setTop (mkF m 90 #[.val (.int p1), .val (.int p2), .val (.int p3), .val (.int t0), .val (.int t1), .val (.int t2), .val (.int t3), .val (.int y0), .val (.int y1), .val (.int y2), .val (.int y3), .val (.int n), .val (.ref b1), .unset] [(.ref b6), (.ref b1)]))
  refine own_dup X6 hx hby at_90 rfl (pc' := 91) rfl ?_
  refine own_iloadN X6 hx hby at_91 rfl (pc' := 92) rfl ?_
  refine own_iload X6 hx hby at_92 rfl (pc' := 94) rfl ?_
  refine own_dconst1 X6 hx hby at_94 (pc' := 95) rfl ?_
  refine own_dconst0 X6 hx hby at_95 (pc' := 96) rfl ?_
  refine own_dconst0 X6 hx hby at_96 (pc' := 97) rfl ?_
  refine own_dconst0 X6 hx hby at_97 (pc' := 98) rfl ?_
  refine own_callI X6 hx hby hZ (by exact hml) hown rfl (own_w hw 29 rfl) (own_w hw 30 rfl) (own_w hw 28 rfl) (own_w hw 31 rfl) (by decide) e6 2 (by decide) (by decide) (by decide) (by decide) (argsL := [(.int t0), (.int y0), (.double FP.dconst1), (.double FP.dconst0), (.double FP.dconst0), (.double FP.dconst0)]) (rest := [(.ref b6), (.ref b1)]) (lenOf pd__IIDDDD_V rfl) rfl (Nat.le_of_eq rfl) (rmLI l Z a0 hw b6 t0 y0 n0 h6 n0_b6 A6 F6_tail F6_head F6_capacity F6_freeFlowTime F6_b F6_power) at_98 (pc' := 101) rfl ?_
  intro v13 T13 L13 X13 hQ13
  obtain ⟨rfl, Nq13, K13, E13, G13_0, G13_1, G13_2, G13_3, G13_4, G13_5⟩ := hQ13
  have S14_DEFAULTCAPACITY_EMPTY_ELEMENTDATA := own_stakeep S7_DEFAULTCAPACITY_EMPTY_ELEMENTDATA K13 (allS (own_plainE A6) all0)
  have V15_aD := V8_aD.keep K13 (ninS ne_aD_b6 nin0)
  have E16_b1 := E9_b1.keep K13
  have F17_modCount := F10_modCount.keep K13 (ninS ne_b1_b6 nin0)
  have F18_elementData := F11_elementData.keep K13 (ninS ne_b1_b6 nin0)
  have F19_size := F12_size.keep K13 (ninS ne_b1_b6 nin0)
  have N13 := Fr.app N4 Nq13
  have Z13 : n0 ≤ T13.heap.size := Nat.le_trans Z6 K13.1
  show GoP p e below Φ (T13.setTop (mkF m 101 #[.val (.int p1), .val (.int p2), .val (.int p3), .val (.int t0), .val (.int t1), .val (.int t2), .val (.int t3), .val (.int y0), .val (.int y1), .val (.int y2), .val (.int y3), .val (.int n), .val (.ref b1), .unset] [(.ref b6), (.ref b1)]))
  refine own_callV X13 hx hby hZ (by exact hml) hown (own_w hw 50 rfl) (own_w hw 51 rfl) (own_w hw 53 rfl) (own_w hw 52 rfl) (own_w hw 2 rfl) (own_w hw 54 rfl) (by decide) rfl 0 (by decide) (by decide) (by decide) (by decide) (argsL := [(.ref b6)]) (rest := []) (lenOf pd__Ljava_lang_Object__Z rfl) rfl (Nat.le_of_eq rfl) E16_b1 (rmA1 l Z a0 hw b1 aD b6 n0 T13.heap n0_b1 Z13 (Ne.symm ne_aD_b1) E16_b1 F17_modCount F18_elementData F19_size S14_DEFAULTCAPACITY_EMPTY_ELEMENTDATA V15_aD ne_b1_b6 E13) at_101 (pc' := 104) rfl ?_
  intro v20 T20 L20 X20 hQ20
  obtain ⟨es, rfl, Nq20, K20, se20, E20, G120, G220, G320, V20, Y20⟩ := hQ20
  have ne_b1_es : b1 ≠ es := Nat.ne_of_lt (Nat.lt_of_lt_of_le E16_b1.lt se20)
  have ne_b6_es : b6 ≠ es := Nat.ne_of_lt (Nat.lt_of_lt_of_le E13.lt se20)
  have n0_es : n0 ≤ es := Nat.le_trans Z13 se20
  have E21_b6 := E13.keep K20
  have F22_tail := G13_0.keep K20 (ninS (Ne.symm ne_b1_b6) nin0)
  have F23_head := G13_1.keep K20 (ninS (Ne.symm ne_b1_b6) nin0)
  have F24_capacity := G13_2.keep K20 (ninS (Ne.symm ne_b1_b6) nin0)
  have F25_freeFlowTime := G13_3.keep K20 (ninS (Ne.symm ne_b1_b6) nin0)
  have F26_b := G13_4.keep K20 (ninS (Ne.symm ne_b1_b6) nin0)
  have F27_power := G13_5.keep K20 (ninS (Ne.symm ne_b1_b6) nin0)
  have N20 := Fr.app N13 Nq20
  have Z20 : n0 ≤ T20.heap.size := Nat.le_trans Z13 K20.1
  show GoP p e below Φ (T20.setTop (mkF m 104 #[.val (.int p1), .val (.int p2), .val (.int p3), .val (.int t0), .val (.int t1), .val (.int t2), .val (.int t3), .val (.int y0), .val (.int y1), .val (.int y2), .val (.int y3), .val (.int n), .val (.ref b1), .unset] [(.int (1 : Int32))]))
  refine own_pop X20 hx hby at_104 rfl (pc' := 105) rfl ?_
  refine own_aload X20 hx hby at_105 rfl rfl (pc' := 107) rfl ?_
  obtain ⟨T28, h28, X28, e28, E28, A28, D28, -, st28⟩ := newO X20 hx hZ hown (own_w hw 26 rfl) (own_w hw 27 rfl) (own_w hw 28 rfl) rfl (g := (mkF m 107 #[.val (.int p1), .val (.int p2), .val (.int p3), .val (.int t0), .val (.int t1), .val (.int t2), .val (.int t3), .val (.int y0), .val (.int y1), .val (.int y2), .val (.int y3), .val (.int n), .val (.ref b1), .unset] [(.ref b1)])) rfl (hb hby at_107) (by decide) (by decide)
  obtain ⟨b28, g28⟩ : ∃ z, z = T20.heap.size := ⟨_, rfl⟩
  have ne_b1_b28 : b1 ≠ b28 := Nat.ne_of_lt (g28 ▸ E20.lt)
  have ne_b6_b28 : b6 ≠ b28 := Nat.ne_of_lt (g28 ▸ E21_b6.lt)
  have ne_es_b28 : es ≠ b28 := Nat.ne_of_lt (g28 ▸ V20.lt)
  have E29_b1 := E20.ext E28
  have F30_modCount := G120.ext E28
  have F31_elementData := G220.ext E28
  have F32_size := G320.ext E28
  have E33_b6 := E21_b6.ext E28
  have F34_tail := F22_tail.ext E28
  have F35_head := F23_head.ext E28
  have F36_capacity := F24_capacity.ext E28
  have F37_freeFlowTime := F25_freeFlowTime.ext E28
  have F38_b := F26_b.ext E28
  have F39_power := F27_power.ext E28
  have Y40_es := Y20.ext E28
  have V41_es := V20.ext E28
  have Z28 : n0 ≤ h28.size := Nat.le_trans Z20 E28.1
  have n0_b28 : n0 ≤ b28 := g28 ▸ Z20
  rw [← g28] at A28 D28 st28
  refine own_step st28 ?_
  have F28_tail : Fld Z h28 b28 "com/example/wayfold/wayfold/TrafficNetwork$Link" "tail" "I" (.int (0 : Int32)) := D28 (Or.inr (own_w hw 39 rfl)) (ty := .int) (by decide)
  have F28_head : Fld Z h28 b28 "com/example/wayfold/wayfold/TrafficNetwork$Link" "head" "I" (.int (0 : Int32)) := D28 (Or.inr (own_w hw 41 rfl)) (ty := .int) (by decide)
  have F28_capacity : Fld Z h28 b28 "com/example/wayfold/wayfold/TrafficNetwork$Link" "capacity" "D" (.double 0) := D28 (Or.inr (own_w hw 43 rfl)) (ty := .double) (by decide)
  have F28_freeFlowTime : Fld Z h28 b28 "com/example/wayfold/wayfold/TrafficNetwork$Link" "freeFlowTime" "D" (.double 0) := D28 (Or.inr (own_w hw 45 rfl)) (ty := .double) (by decide)
  have F28_b : Fld Z h28 b28 "com/example/wayfold/wayfold/TrafficNetwork$Link" "b" "D" (.double 0) := D28 (Or.inr (own_w hw 47 rfl)) (ty := .double) (by decide)
  have F28_power : Fld Z h28 b28 "com/example/wayfold/wayfold/TrafficNetwork$Link" "power" "D" (.double 0) := D28 (Or.inr (own_w hw 49 rfl)) (ty := .double) (by decide)
  show GoP p e below Φ (T28.setTop (mkF m 110 #[.val (.int p1), .val (.int p2), .val (.int p3), .val (.int t0), .val (.int t1), .val (.int t2), .val (.int t3), .val (.int y0), .val (.int y1), .val (.int y2), .val (.int y3), .val (.int n), .val (.ref b1), .unset] [(.ref b28), (.ref b1)]))
  refine own_dup X28 hx hby at_110 rfl (pc' := 111) rfl ?_
  refine own_iload X28 hx hby at_111 rfl (pc' := 113) rfl ?_
  refine own_iload X28 hx hby at_113 rfl (pc' := 115) rfl ?_
  refine own_dconst1 X28 hx hby at_115 (pc' := 116) rfl ?_
  refine own_dconst0 X28 hx hby at_116 (pc' := 117) rfl ?_
  refine own_dconst0 X28 hx hby at_117 (pc' := 118) rfl ?_
  refine own_dconst0 X28 hx hby at_118 (pc' := 119) rfl ?_
  refine own_callI X28 hx hby hZ (by exact hml) hown rfl (own_w hw 29 rfl) (own_w hw 30 rfl) (own_w hw 28 rfl) (own_w hw 31 rfl) (by decide) e28 2 (by decide) (by decide) (by decide) (by decide) (argsL := [(.int t1), (.int y1), (.double FP.dconst1), (.double FP.dconst0), (.double FP.dconst0), (.double FP.dconst0)]) (rest := [(.ref b28), (.ref b1)]) (lenOf pd__IIDDDD_V rfl) rfl (Nat.le_of_eq rfl) (rmLI l Z a0 hw b28 t1 y1 n0 h28 n0_b28 A28 F28_tail F28_head F28_capacity F28_freeFlowTime F28_b F28_power) at_119 (pc' := 122) rfl ?_
  intro v42 T42 L42 X42 hQ42
  obtain ⟨rfl, Nq42, K42, E42, G42_0, G42_1, G42_2, G42_3, G42_4, G42_5⟩ := hQ42
  have E43_b1 := E29_b1.keep K42
  have F44_modCount := F30_modCount.keep K42 (ninS ne_b1_b28 nin0)
  have F45_elementData := F31_elementData.keep K42 (ninS ne_b1_b28 nin0)
  have F46_size := F32_size.keep K42 (ninS ne_b1_b28 nin0)
  have E47_b6 := E33_b6.keep K42
  have F48_tail := F34_tail.keep K42 (ninS ne_b6_b28 nin0)
  have F49_head := F35_head.keep K42 (ninS ne_b6_b28 nin0)
  have F50_capacity := F36_capacity.keep K42 (ninS ne_b6_b28 nin0)
  have F51_freeFlowTime := F37_freeFlowTime.keep K42 (ninS ne_b6_b28 nin0)
  have F52_b := F38_b.keep K42 (ninS ne_b6_b28 nin0)
  have F53_power := F39_power.keep K42 (ninS ne_b6_b28 nin0)
  have Y54_es := Y40_es.keep K42
  have V55_es := V41_es.keep K42 (ninS ne_es_b28 nin0)
  have N42 := Fr.app N20 Nq42
  have Z42 : n0 ≤ T42.heap.size := Nat.le_trans Z28 K42.1
  show GoP p e below Φ (T42.setTop (mkF m 122 #[.val (.int p1), .val (.int p2), .val (.int p3), .val (.int t0), .val (.int t1), .val (.int t2), .val (.int t3), .val (.int y0), .val (.int y1), .val (.int y2), .val (.int y3), .val (.int n), .val (.ref b1), .unset] [(.ref b28), (.ref b1)]))
  refine own_callV X42 hx hby hZ (by exact hml) hown (own_w hw 50 rfl) (own_w hw 51 rfl) (own_w hw 53 rfl) (own_w hw 52 rfl) (own_w hw 2 rfl) (own_w hw 54 rfl) (by decide) rfl 0 (by decide) (by decide) (by decide) (by decide) (argsL := [(.ref b28)]) (rest := []) (lenOf pd__Ljava_lang_Object__Z rfl) rfl (Nat.le_of_eq rfl) E43_b1 (rmA1_1 l Z a0 hw b1 es b28 b6 n0 T42.heap n0_b1 n0_es ne_b1_es E43_b1 F44_modCount F45_elementData F46_size V55_es Y54_es E42) at_122 (pc' := 125) rfl ?_
  intro v56 T56 L56 X56 hQ56
  obtain ⟨rfl, Nq56, K56, G156, G256, G356, V56⟩ := hQ56
  have E57_b1 := E43_b1.keep K56
  have E58_b6 := E47_b6.keep K56
  have F59_tail := F48_tail.keep K56 (ninS (Ne.symm ne_b1_b6) (ninS ne_b6_es nin0))
  have F60_head := F49_head.keep K56 (ninS (Ne.symm ne_b1_b6) (ninS ne_b6_es nin0))
  have F61_capacity := F50_capacity.keep K56 (ninS (Ne.symm ne_b1_b6) (ninS ne_b6_es nin0))
  have F62_freeFlowTime := F51_freeFlowTime.keep K56 (ninS (Ne.symm ne_b1_b6) (ninS ne_b6_es nin0))
  have F63_b := F52_b.keep K56 (ninS (Ne.symm ne_b1_b6) (ninS ne_b6_es nin0))
  have F64_power := F53_power.keep K56 (ninS (Ne.symm ne_b1_b6) (ninS ne_b6_es nin0))
  have Y65_es := Y54_es.keep K56
  have E66_b28 := E42.keep K56
  have F67_tail := G42_0.keep K56 (ninS (Ne.symm ne_b1_b28) (ninS (Ne.symm ne_es_b28) nin0))
  have F68_head := G42_1.keep K56 (ninS (Ne.symm ne_b1_b28) (ninS (Ne.symm ne_es_b28) nin0))
  have F69_capacity := G42_2.keep K56 (ninS (Ne.symm ne_b1_b28) (ninS (Ne.symm ne_es_b28) nin0))
  have F70_freeFlowTime := G42_3.keep K56 (ninS (Ne.symm ne_b1_b28) (ninS (Ne.symm ne_es_b28) nin0))
  have F71_b := G42_4.keep K56 (ninS (Ne.symm ne_b1_b28) (ninS (Ne.symm ne_es_b28) nin0))
  have F72_power := G42_5.keep K56 (ninS (Ne.symm ne_b1_b28) (ninS (Ne.symm ne_es_b28) nin0))
  have N56 := Fr.app N42 Nq56
  have Z56 : n0 ≤ T56.heap.size := Nat.le_trans Z42 K56.1
  show GoP p e below Φ (T56.setTop (mkF m 125 #[.val (.int p1), .val (.int p2), .val (.int p3), .val (.int t0), .val (.int t1), .val (.int t2), .val (.int t3), .val (.int y0), .val (.int y1), .val (.int y2), .val (.int y3), .val (.int n), .val (.ref b1), .unset] [(.int (1 : Int32))]))
  refine own_pop X56 hx hby at_125 rfl (pc' := 126) rfl ?_
  refine own_aload X56 hx hby at_126 rfl rfl (pc' := 128) rfl ?_
  obtain ⟨T73, h73, X73, e73, E73, A73, D73, -, st73⟩ := newO X56 hx hZ hown (own_w hw 26 rfl) (own_w hw 27 rfl) (own_w hw 28 rfl) rfl (g := (mkF m 128 #[.val (.int p1), .val (.int p2), .val (.int p3), .val (.int t0), .val (.int t1), .val (.int t2), .val (.int t3), .val (.int y0), .val (.int y1), .val (.int y2), .val (.int y3), .val (.int n), .val (.ref b1), .unset] [(.ref b1)])) rfl (hb hby at_128) (by decide) (by decide)
  obtain ⟨b73, g73⟩ : ∃ z, z = T56.heap.size := ⟨_, rfl⟩
  have ne_b1_b73 : b1 ≠ b73 := Nat.ne_of_lt (g73 ▸ E57_b1.lt)
  have ne_b6_b73 : b6 ≠ b73 := Nat.ne_of_lt (g73 ▸ E58_b6.lt)
  have ne_es_b73 : es ≠ b73 := Nat.ne_of_lt (g73 ▸ V56.lt)
  have ne_b28_b73 : b28 ≠ b73 := Nat.ne_of_lt (g73 ▸ E66_b28.lt)
  have E74_b1 := E57_b1.ext E73
  have F75_modCount := G156.ext E73
  have F76_elementData := G256.ext E73
  have F77_size := G356.ext E73
  have E78_b6 := E58_b6.ext E73
  have F79_tail := F59_tail.ext E73
  have F80_head := F60_head.ext E73
  have F81_capacity := F61_capacity.ext E73
  have F82_freeFlowTime := F62_freeFlowTime.ext E73
  have F83_b := F63_b.ext E73
  have F84_power := F64_power.ext E73
  have Y85_es := Y65_es.ext E73
  have V86_es := V56.ext E73
  have E87_b28 := E66_b28.ext E73
  have F88_tail := F67_tail.ext E73
  have F89_head := F68_head.ext E73
  have F90_capacity := F69_capacity.ext E73
  have F91_freeFlowTime := F70_freeFlowTime.ext E73
  have F92_b := F71_b.ext E73
  have F93_power := F72_power.ext E73
  have Z73 : n0 ≤ h73.size := Nat.le_trans Z56 E73.1
  have n0_b73 : n0 ≤ b73 := g73 ▸ Z56
  rw [← g73] at A73 D73 st73
  refine own_step st73 ?_
  have F73_tail : Fld Z h73 b73 "com/example/wayfold/wayfold/TrafficNetwork$Link" "tail" "I" (.int (0 : Int32)) := D73 (Or.inr (own_w hw 39 rfl)) (ty := .int) (by decide)
  have F73_head : Fld Z h73 b73 "com/example/wayfold/wayfold/TrafficNetwork$Link" "head" "I" (.int (0 : Int32)) := D73 (Or.inr (own_w hw 41 rfl)) (ty := .int) (by decide)
  have F73_capacity : Fld Z h73 b73 "com/example/wayfold/wayfold/TrafficNetwork$Link" "capacity" "D" (.double 0) := D73 (Or.inr (own_w hw 43 rfl)) (ty := .double) (by decide)
  have F73_freeFlowTime : Fld Z h73 b73 "com/example/wayfold/wayfold/TrafficNetwork$Link" "freeFlowTime" "D" (.double 0) := D73 (Or.inr (own_w hw 45 rfl)) (ty := .double) (by decide)
  have F73_b : Fld Z h73 b73 "com/example/wayfold/wayfold/TrafficNetwork$Link" "b" "D" (.double 0) := D73 (Or.inr (own_w hw 47 rfl)) (ty := .double) (by decide)
  have F73_power : Fld Z h73 b73 "com/example/wayfold/wayfold/TrafficNetwork$Link" "power" "D" (.double 0) := D73 (Or.inr (own_w hw 49 rfl)) (ty := .double) (by decide)
  show GoP p e below Φ (T73.setTop (mkF m 131 #[.val (.int p1), .val (.int p2), .val (.int p3), .val (.int t0), .val (.int t1), .val (.int t2), .val (.int t3), .val (.int y0), .val (.int y1), .val (.int y2), .val (.int y3), .val (.int n), .val (.ref b1), .unset] [(.ref b73), (.ref b1)]))
  refine own_dup X73 hx hby at_131 rfl (pc' := 132) rfl ?_
  refine own_iload X73 hx hby at_132 rfl (pc' := 134) rfl ?_
  refine own_iload X73 hx hby at_134 rfl (pc' := 136) rfl ?_
  refine own_dconst1 X73 hx hby at_136 (pc' := 137) rfl ?_
  refine own_dconst0 X73 hx hby at_137 (pc' := 138) rfl ?_
  refine own_dconst0 X73 hx hby at_138 (pc' := 139) rfl ?_
  refine own_dconst0 X73 hx hby at_139 (pc' := 140) rfl ?_
  refine own_callI X73 hx hby hZ (by exact hml) hown rfl (own_w hw 29 rfl) (own_w hw 30 rfl) (own_w hw 28 rfl) (own_w hw 31 rfl) (by decide) e73 2 (by decide) (by decide) (by decide) (by decide) (argsL := [(.int t2), (.int y2), (.double FP.dconst1), (.double FP.dconst0), (.double FP.dconst0), (.double FP.dconst0)]) (rest := [(.ref b73), (.ref b1)]) (lenOf pd__IIDDDD_V rfl) rfl (Nat.le_of_eq rfl) (rmLI l Z a0 hw b73 t2 y2 n0 h73 n0_b73 A73 F73_tail F73_head F73_capacity F73_freeFlowTime F73_b F73_power) at_140 (pc' := 143) rfl ?_
  intro v94 T94 L94 X94 hQ94
  obtain ⟨rfl, Nq94, K94, E94, G94_0, G94_1, G94_2, G94_3, G94_4, G94_5⟩ := hQ94
  have E95_b1 := E74_b1.keep K94
  have F96_modCount := F75_modCount.keep K94 (ninS ne_b1_b73 nin0)
  have F97_elementData := F76_elementData.keep K94 (ninS ne_b1_b73 nin0)
  have F98_size := F77_size.keep K94 (ninS ne_b1_b73 nin0)
  have E99_b6 := E78_b6.keep K94
  have F100_tail := F79_tail.keep K94 (ninS ne_b6_b73 nin0)
  have F101_head := F80_head.keep K94 (ninS ne_b6_b73 nin0)
  have F102_capacity := F81_capacity.keep K94 (ninS ne_b6_b73 nin0)
  have F103_freeFlowTime := F82_freeFlowTime.keep K94 (ninS ne_b6_b73 nin0)
  have F104_b := F83_b.keep K94 (ninS ne_b6_b73 nin0)
  have F105_power := F84_power.keep K94 (ninS ne_b6_b73 nin0)
  have Y106_es := Y85_es.keep K94
  have V107_es := V86_es.keep K94 (ninS ne_es_b73 nin0)
  have E108_b28 := E87_b28.keep K94
  have F109_tail := F88_tail.keep K94 (ninS ne_b28_b73 nin0)
  have F110_head := F89_head.keep K94 (ninS ne_b28_b73 nin0)
  have F111_capacity := F90_capacity.keep K94 (ninS ne_b28_b73 nin0)
  have F112_freeFlowTime := F91_freeFlowTime.keep K94 (ninS ne_b28_b73 nin0)
  have F113_b := F92_b.keep K94 (ninS ne_b28_b73 nin0)
  have F114_power := F93_power.keep K94 (ninS ne_b28_b73 nin0)
  have N94 := Fr.app N56 Nq94
  have Z94 : n0 ≤ T94.heap.size := Nat.le_trans Z73 K94.1
  show GoP p e below Φ (T94.setTop (mkF m 143 #[.val (.int p1), .val (.int p2), .val (.int p3), .val (.int t0), .val (.int t1), .val (.int t2), .val (.int t3), .val (.int y0), .val (.int y1), .val (.int y2), .val (.int y3), .val (.int n), .val (.ref b1), .unset] [(.ref b73), (.ref b1)]))
  refine own_callV X94 hx hby hZ (by exact hml) hown (own_w hw 50 rfl) (own_w hw 51 rfl) (own_w hw 53 rfl) (own_w hw 52 rfl) (own_w hw 2 rfl) (own_w hw 54 rfl) (by decide) rfl 0 (by decide) (by decide) (by decide) (by decide) (argsL := [(.ref b73)]) (rest := []) (lenOf pd__Ljava_lang_Object__Z rfl) rfl (Nat.le_of_eq rfl) E95_b1 (rmA1_2 l Z a0 hw b1 es b73 b6 b28 n0 T94.heap n0_b1 n0_es ne_b1_es E95_b1 F96_modCount F97_elementData F98_size V107_es Y106_es E94) at_143 (pc' := 146) rfl ?_
  intro v115 T115 L115 X115 hQ115
  obtain ⟨rfl, Nq115, K115, G1115, G2115, G3115, V115⟩ := hQ115
  have E116_b1 := E95_b1.keep K115
  have E117_b6 := E99_b6.keep K115
  have F118_tail := F100_tail.keep K115 (ninS (Ne.symm ne_b1_b6) (ninS ne_b6_es nin0))
  have F119_head := F101_head.keep K115 (ninS (Ne.symm ne_b1_b6) (ninS ne_b6_es nin0))
  have F120_capacity := F102_capacity.keep K115 (ninS (Ne.symm ne_b1_b6) (ninS ne_b6_es nin0))
  have F121_freeFlowTime := F103_freeFlowTime.keep K115 (ninS (Ne.symm ne_b1_b6) (ninS ne_b6_es nin0))
  have F122_b := F104_b.keep K115 (ninS (Ne.symm ne_b1_b6) (ninS ne_b6_es nin0))
  have F123_power := F105_power.keep K115 (ninS (Ne.symm ne_b1_b6) (ninS ne_b6_es nin0))
  have Y124_es := Y106_es.keep K115
  have E125_b28 := E108_b28.keep K115
  have F126_tail := F109_tail.keep K115 (ninS (Ne.symm ne_b1_b28) (ninS (Ne.symm ne_es_b28) nin0))
  have F127_head := F110_head.keep K115 (ninS (Ne.symm ne_b1_b28) (ninS (Ne.symm ne_es_b28) nin0))
  have F128_capacity := F111_capacity.keep K115 (ninS (Ne.symm ne_b1_b28) (ninS (Ne.symm ne_es_b28) nin0))
  have F129_freeFlowTime := F112_freeFlowTime.keep K115 (ninS (Ne.symm ne_b1_b28) (ninS (Ne.symm ne_es_b28) nin0))
  have F130_b := F113_b.keep K115 (ninS (Ne.symm ne_b1_b28) (ninS (Ne.symm ne_es_b28) nin0))
  have F131_power := F114_power.keep K115 (ninS (Ne.symm ne_b1_b28) (ninS (Ne.symm ne_es_b28) nin0))
  have E132_b73 := E94.keep K115
  have F133_tail := G94_0.keep K115 (ninS (Ne.symm ne_b1_b73) (ninS (Ne.symm ne_es_b73) nin0))
  have F134_head := G94_1.keep K115 (ninS (Ne.symm ne_b1_b73) (ninS (Ne.symm ne_es_b73) nin0))
  have F135_capacity := G94_2.keep K115 (ninS (Ne.symm ne_b1_b73) (ninS (Ne.symm ne_es_b73) nin0))
  have F136_freeFlowTime := G94_3.keep K115 (ninS (Ne.symm ne_b1_b73) (ninS (Ne.symm ne_es_b73) nin0))
  have F137_b := G94_4.keep K115 (ninS (Ne.symm ne_b1_b73) (ninS (Ne.symm ne_es_b73) nin0))
  have F138_power := G94_5.keep K115 (ninS (Ne.symm ne_b1_b73) (ninS (Ne.symm ne_es_b73) nin0))
  have N115 := Fr.app N94 Nq115
  have Z115 : n0 ≤ T115.heap.size := Nat.le_trans Z94 K115.1
  show GoP p e below Φ (T115.setTop (mkF m 146 #[.val (.int p1), .val (.int p2), .val (.int p3), .val (.int t0), .val (.int t1), .val (.int t2), .val (.int t3), .val (.int y0), .val (.int y1), .val (.int y2), .val (.int y3), .val (.int n), .val (.ref b1), .unset] [(.int (1 : Int32))]))
  refine own_pop X115 hx hby at_146 rfl (pc' := 147) rfl ?_
  refine own_aload X115 hx hby at_147 rfl rfl (pc' := 149) rfl ?_
  obtain ⟨T139, h139, X139, e139, E139, A139, D139, -, st139⟩ := newO X115 hx hZ hown (own_w hw 26 rfl) (own_w hw 27 rfl) (own_w hw 28 rfl) rfl (g := (mkF m 149 #[.val (.int p1), .val (.int p2), .val (.int p3), .val (.int t0), .val (.int t1), .val (.int t2), .val (.int t3), .val (.int y0), .val (.int y1), .val (.int y2), .val (.int y3), .val (.int n), .val (.ref b1), .unset] [(.ref b1)])) rfl (hb hby at_149) (by decide) (by decide)
  obtain ⟨b139, g139⟩ : ∃ z, z = T115.heap.size := ⟨_, rfl⟩
  have ne_b1_b139 : b1 ≠ b139 := Nat.ne_of_lt (g139 ▸ E116_b1.lt)
  have ne_b6_b139 : b6 ≠ b139 := Nat.ne_of_lt (g139 ▸ E117_b6.lt)
  have ne_es_b139 : es ≠ b139 := Nat.ne_of_lt (g139 ▸ V115.lt)
  have ne_b28_b139 : b28 ≠ b139 := Nat.ne_of_lt (g139 ▸ E125_b28.lt)
  have ne_b73_b139 : b73 ≠ b139 := Nat.ne_of_lt (g139 ▸ E132_b73.lt)
  have E140_b1 := E116_b1.ext E139
  have F141_modCount := G1115.ext E139
  have F142_elementData := G2115.ext E139
  have F143_size := G3115.ext E139
  have E144_b6 := E117_b6.ext E139
  have F145_tail := F118_tail.ext E139
  have F146_head := F119_head.ext E139
  have F147_capacity := F120_capacity.ext E139
  have F148_freeFlowTime := F121_freeFlowTime.ext E139
  have F149_b := F122_b.ext E139
  have F150_power := F123_power.ext E139
  have Y151_es := Y124_es.ext E139
  have V152_es := V115.ext E139
  have E153_b28 := E125_b28.ext E139
  have F154_tail := F126_tail.ext E139
  have F155_head := F127_head.ext E139
  have F156_capacity := F128_capacity.ext E139
  have F157_freeFlowTime := F129_freeFlowTime.ext E139
  have F158_b := F130_b.ext E139
  have F159_power := F131_power.ext E139
  have E160_b73 := E132_b73.ext E139
  have F161_tail := F133_tail.ext E139
  have F162_head := F134_head.ext E139
  have F163_capacity := F135_capacity.ext E139
  have F164_freeFlowTime := F136_freeFlowTime.ext E139
  have F165_b := F137_b.ext E139
  have F166_power := F138_power.ext E139
  have Z139 : n0 ≤ h139.size := Nat.le_trans Z115 E139.1
  have n0_b139 : n0 ≤ b139 := g139 ▸ Z115
  rw [← g139] at A139 D139 st139
  refine own_step st139 ?_
  have F139_tail : Fld Z h139 b139 "com/example/wayfold/wayfold/TrafficNetwork$Link" "tail" "I" (.int (0 : Int32)) := D139 (Or.inr (own_w hw 39 rfl)) (ty := .int) (by decide)
  have F139_head : Fld Z h139 b139 "com/example/wayfold/wayfold/TrafficNetwork$Link" "head" "I" (.int (0 : Int32)) := D139 (Or.inr (own_w hw 41 rfl)) (ty := .int) (by decide)
  have F139_capacity : Fld Z h139 b139 "com/example/wayfold/wayfold/TrafficNetwork$Link" "capacity" "D" (.double 0) := D139 (Or.inr (own_w hw 43 rfl)) (ty := .double) (by decide)
  have F139_freeFlowTime : Fld Z h139 b139 "com/example/wayfold/wayfold/TrafficNetwork$Link" "freeFlowTime" "D" (.double 0) := D139 (Or.inr (own_w hw 45 rfl)) (ty := .double) (by decide)
  have F139_b : Fld Z h139 b139 "com/example/wayfold/wayfold/TrafficNetwork$Link" "b" "D" (.double 0) := D139 (Or.inr (own_w hw 47 rfl)) (ty := .double) (by decide)
  have F139_power : Fld Z h139 b139 "com/example/wayfold/wayfold/TrafficNetwork$Link" "power" "D" (.double 0) := D139 (Or.inr (own_w hw 49 rfl)) (ty := .double) (by decide)
  show GoP p e below Φ (T139.setTop (mkF m 152 #[.val (.int p1), .val (.int p2), .val (.int p3), .val (.int t0), .val (.int t1), .val (.int t2), .val (.int t3), .val (.int y0), .val (.int y1), .val (.int y2), .val (.int y3), .val (.int n), .val (.ref b1), .unset] [(.ref b139), (.ref b1)]))
  refine own_dup X139 hx hby at_152 rfl (pc' := 153) rfl ?_
  refine own_iload X139 hx hby at_153 rfl (pc' := 155) rfl ?_
  refine own_iload X139 hx hby at_155 rfl (pc' := 157) rfl ?_
  refine own_dconst1 X139 hx hby at_157 (pc' := 158) rfl ?_
  refine own_dconst0 X139 hx hby at_158 (pc' := 159) rfl ?_
  refine own_dconst0 X139 hx hby at_159 (pc' := 160) rfl ?_
  refine own_dconst0 X139 hx hby at_160 (pc' := 161) rfl ?_
  refine own_callI X139 hx hby hZ (by exact hml) hown rfl (own_w hw 29 rfl) (own_w hw 30 rfl) (own_w hw 28 rfl) (own_w hw 31 rfl) (by decide) e139 2 (by decide) (by decide) (by decide) (by decide) (argsL := [(.int t3), (.int y3), (.double FP.dconst1), (.double FP.dconst0), (.double FP.dconst0), (.double FP.dconst0)]) (rest := [(.ref b139), (.ref b1)]) (lenOf pd__IIDDDD_V rfl) rfl (Nat.le_of_eq rfl) (rmLI l Z a0 hw b139 t3 y3 n0 h139 n0_b139 A139 F139_tail F139_head F139_capacity F139_freeFlowTime F139_b F139_power) at_161 (pc' := 164) rfl ?_
  intro v167 T167 L167 X167 hQ167
  obtain ⟨rfl, Nq167, K167, E167, G167_0, G167_1, G167_2, G167_3, G167_4, G167_5⟩ := hQ167
  have E168_b1 := E140_b1.keep K167
  have F169_modCount := F141_modCount.keep K167 (ninS ne_b1_b139 nin0)
  have F170_elementData := F142_elementData.keep K167 (ninS ne_b1_b139 nin0)
  have F171_size := F143_size.keep K167 (ninS ne_b1_b139 nin0)
  have E172_b6 := E144_b6.keep K167
  have F173_tail := F145_tail.keep K167 (ninS ne_b6_b139 nin0)
  have F174_head := F146_head.keep K167 (ninS ne_b6_b139 nin0)
  have F175_capacity := F147_capacity.keep K167 (ninS ne_b6_b139 nin0)
  have F176_freeFlowTime := F148_freeFlowTime.keep K167 (ninS ne_b6_b139 nin0)
  have F177_b := F149_b.keep K167 (ninS ne_b6_b139 nin0)
  have F178_power := F150_power.keep K167 (ninS ne_b6_b139 nin0)
  have Y179_es := Y151_es.keep K167
  have V180_es := V152_es.keep K167 (ninS ne_es_b139 nin0)
  have E181_b28 := E153_b28.keep K167
  have F182_tail := F154_tail.keep K167 (ninS ne_b28_b139 nin0)
  have F183_head := F155_head.keep K167 (ninS ne_b28_b139 nin0)
  have F184_capacity := F156_capacity.keep K167 (ninS ne_b28_b139 nin0)
  have F185_freeFlowTime := F157_freeFlowTime.keep K167 (ninS ne_b28_b139 nin0)
  have F186_b := F158_b.keep K167 (ninS ne_b28_b139 nin0)
  have F187_power := F159_power.keep K167 (ninS ne_b28_b139 nin0)
  have E188_b73 := E160_b73.keep K167
  have F189_tail := F161_tail.keep K167 (ninS ne_b73_b139 nin0)
  have F190_head := F162_head.keep K167 (ninS ne_b73_b139 nin0)
  have F191_capacity := F163_capacity.keep K167 (ninS ne_b73_b139 nin0)
  have F192_freeFlowTime := F164_freeFlowTime.keep K167 (ninS ne_b73_b139 nin0)
  have F193_b := F165_b.keep K167 (ninS ne_b73_b139 nin0)
  have F194_power := F166_power.keep K167 (ninS ne_b73_b139 nin0)
  have N167 := Fr.app N115 Nq167
  have Z167 : n0 ≤ T167.heap.size := Nat.le_trans Z139 K167.1
  show GoP p e below Φ (T167.setTop (mkF m 164 #[.val (.int p1), .val (.int p2), .val (.int p3), .val (.int t0), .val (.int t1), .val (.int t2), .val (.int t3), .val (.int y0), .val (.int y1), .val (.int y2), .val (.int y3), .val (.int n), .val (.ref b1), .unset] [(.ref b139), (.ref b1)]))
  refine own_callV X167 hx hby hZ (by exact hml) hown (own_w hw 50 rfl) (own_w hw 51 rfl) (own_w hw 53 rfl) (own_w hw 52 rfl) (own_w hw 2 rfl) (own_w hw 54 rfl) (by decide) rfl 0 (by decide) (by decide) (by decide) (by decide) (argsL := [(.ref b139)]) (rest := []) (lenOf pd__Ljava_lang_Object__Z rfl) rfl (Nat.le_of_eq rfl) E168_b1 (rmA1_3 l Z a0 hw b1 es b139 b6 b28 b73 n0 T167.heap n0_b1 n0_es ne_b1_es E168_b1 F169_modCount F170_elementData F171_size V180_es Y179_es E167) at_164 (pc' := 167) rfl ?_
  intro v195 T195 L195 X195 hQ195
  obtain ⟨rfl, Nq195, K195, G1195, G2195, G3195, V195⟩ := hQ195
  have E196_b1 := E168_b1.keep K195
  have E197_b6 := E172_b6.keep K195
  have F198_tail := F173_tail.keep K195 (ninS (Ne.symm ne_b1_b6) (ninS ne_b6_es nin0))
  have F199_head := F174_head.keep K195 (ninS (Ne.symm ne_b1_b6) (ninS ne_b6_es nin0))
  have F200_capacity := F175_capacity.keep K195 (ninS (Ne.symm ne_b1_b6) (ninS ne_b6_es nin0))
  have F201_freeFlowTime := F176_freeFlowTime.keep K195 (ninS (Ne.symm ne_b1_b6) (ninS ne_b6_es nin0))
  have F202_b := F177_b.keep K195 (ninS (Ne.symm ne_b1_b6) (ninS ne_b6_es nin0))
  have F203_power := F178_power.keep K195 (ninS (Ne.symm ne_b1_b6) (ninS ne_b6_es nin0))
  have Y204_es := Y179_es.keep K195
  have E205_b28 := E181_b28.keep K195
  have F206_tail := F182_tail.keep K195 (ninS (Ne.symm ne_b1_b28) (ninS (Ne.symm ne_es_b28) nin0))
  have F207_head := F183_head.keep K195 (ninS (Ne.symm ne_b1_b28) (ninS (Ne.symm ne_es_b28) nin0))
  have F208_capacity := F184_capacity.keep K195 (ninS (Ne.symm ne_b1_b28) (ninS (Ne.symm ne_es_b28) nin0))
  have F209_freeFlowTime := F185_freeFlowTime.keep K195 (ninS (Ne.symm ne_b1_b28) (ninS (Ne.symm ne_es_b28) nin0))
  have F210_b := F186_b.keep K195 (ninS (Ne.symm ne_b1_b28) (ninS (Ne.symm ne_es_b28) nin0))
  have F211_power := F187_power.keep K195 (ninS (Ne.symm ne_b1_b28) (ninS (Ne.symm ne_es_b28) nin0))
  have E212_b73 := E188_b73.keep K195
  have F213_tail := F189_tail.keep K195 (ninS (Ne.symm ne_b1_b73) (ninS (Ne.symm ne_es_b73) nin0))
  have F214_head := F190_head.keep K195 (ninS (Ne.symm ne_b1_b73) (ninS (Ne.symm ne_es_b73) nin0))
  have F215_capacity := F191_capacity.keep K195 (ninS (Ne.symm ne_b1_b73) (ninS (Ne.symm ne_es_b73) nin0))
  have F216_freeFlowTime := F192_freeFlowTime.keep K195 (ninS (Ne.symm ne_b1_b73) (ninS (Ne.symm ne_es_b73) nin0))
  have F217_b := F193_b.keep K195 (ninS (Ne.symm ne_b1_b73) (ninS (Ne.symm ne_es_b73) nin0))
  have F218_power := F194_power.keep K195 (ninS (Ne.symm ne_b1_b73) (ninS (Ne.symm ne_es_b73) nin0))
  have E219_b139 := E167.keep K195
  have F220_tail := G167_0.keep K195 (ninS (Ne.symm ne_b1_b139) (ninS (Ne.symm ne_es_b139) nin0))
  have F221_head := G167_1.keep K195 (ninS (Ne.symm ne_b1_b139) (ninS (Ne.symm ne_es_b139) nin0))
  have F222_capacity := G167_2.keep K195 (ninS (Ne.symm ne_b1_b139) (ninS (Ne.symm ne_es_b139) nin0))
  have F223_freeFlowTime := G167_3.keep K195 (ninS (Ne.symm ne_b1_b139) (ninS (Ne.symm ne_es_b139) nin0))
  have F224_b := G167_4.keep K195 (ninS (Ne.symm ne_b1_b139) (ninS (Ne.symm ne_es_b139) nin0))
  have F225_power := G167_5.keep K195 (ninS (Ne.symm ne_b1_b139) (ninS (Ne.symm ne_es_b139) nin0))
  have N195 := Fr.app N167 Nq195
  have Z195 : n0 ≤ T195.heap.size := Nat.le_trans Z167 K195.1
  show GoP p e below Φ (T195.setTop (mkF m 167 #[.val (.int p1), .val (.int p2), .val (.int p3), .val (.int t0), .val (.int t1), .val (.int t2), .val (.int t3), .val (.int y0), .val (.int y1), .val (.int y2), .val (.int y3), .val (.int n), .val (.ref b1), .unset] [(.int (1 : Int32))]))
  refine own_pop X195 hx hby at_167 rfl (pc' := 168) rfl ?_
  obtain ⟨T226, h226, X226, e226, E226, A226, D226, -, st226⟩ := newO X195 hx hZ hown (own_w hw 81 rfl) (own_w hw 82 rfl) (own_w hw 83 rfl) rfl (g := (mkF m 168 #[.val (.int p1), .val (.int p2), .val (.int p3), .val (.int t0), .val (.int t1), .val (.int t2), .val (.int t3), .val (.int y0), .val (.int y1), .val (.int y2), .val (.int y3), .val (.int n), .val (.ref b1), .unset] [])) rfl (hb hby at_168) (by decide) (by decide)
  obtain ⟨b226, g226⟩ : ∃ z, z = T195.heap.size := ⟨_, rfl⟩
  have ne_b1_b226 : b1 ≠ b226 := Nat.ne_of_lt (g226 ▸ E196_b1.lt)
  have ne_b6_b226 : b6 ≠ b226 := Nat.ne_of_lt (g226 ▸ E197_b6.lt)
  have ne_es_b226 : es ≠ b226 := Nat.ne_of_lt (g226 ▸ V195.lt)
  have ne_b28_b226 : b28 ≠ b226 := Nat.ne_of_lt (g226 ▸ E205_b28.lt)
  have ne_b73_b226 : b73 ≠ b226 := Nat.ne_of_lt (g226 ▸ E212_b73.lt)
  have ne_b139_b226 : b139 ≠ b226 := Nat.ne_of_lt (g226 ▸ E219_b139.lt)
  have E227_b1 := E196_b1.ext E226
  have F228_modCount := G1195.ext E226
  have F229_elementData := G2195.ext E226
  have F230_size := G3195.ext E226
  have E231_b6 := E197_b6.ext E226
  have F232_tail := F198_tail.ext E226
  have F233_head := F199_head.ext E226
  have F234_capacity := F200_capacity.ext E226
  have F235_freeFlowTime := F201_freeFlowTime.ext E226
  have F236_b := F202_b.ext E226
  have F237_power := F203_power.ext E226
  have Y238_es := Y204_es.ext E226
  have V239_es := V195.ext E226
  have E240_b28 := E205_b28.ext E226
  have F241_tail := F206_tail.ext E226
  have F242_head := F207_head.ext E226
  have F243_capacity := F208_capacity.ext E226
  have F244_freeFlowTime := F209_freeFlowTime.ext E226
  have F245_b := F210_b.ext E226
  have F246_power := F211_power.ext E226
  have E247_b73 := E212_b73.ext E226
  have F248_tail := F213_tail.ext E226
  have F249_head := F214_head.ext E226
  have F250_capacity := F215_capacity.ext E226
  have F251_freeFlowTime := F216_freeFlowTime.ext E226
  have F252_b := F217_b.ext E226
  have F253_power := F218_power.ext E226
  have E254_b139 := E219_b139.ext E226
  have F255_tail := F220_tail.ext E226
  have F256_head := F221_head.ext E226
  have F257_capacity := F222_capacity.ext E226
  have F258_freeFlowTime := F223_freeFlowTime.ext E226
  have F259_b := F224_b.ext E226
  have F260_power := F225_power.ext E226
  have Z226 : n0 ≤ h226.size := Nat.le_trans Z195 E226.1
  have n0_b226 : n0 ≤ b226 := g226 ▸ Z195
  rw [← g226] at A226 D226 st226
  refine own_step st226 ?_
  have F226_graph : Fld Z h226 b226 "com/example/wayfold/wayfold/TrafficNetwork" "graph" "Lcom/example/wayfold/wayfold/Graph;" .null := D226 (Or.inr (own_w hw 182 rfl)) (ty := (.object "com/example/wayfold/wayfold/Graph")) (by decide)
  have F226_zoneCount : Fld Z h226 b226 "com/example/wayfold/wayfold/TrafficNetwork" "zoneCount" "I" (.int (0 : Int32)) := D226 (Or.inr (own_w hw 184 rfl)) (ty := .int) (by decide)
  have F226_firstThruNode : Fld Z h226 b226 "com/example/wayfold/wayfold/TrafficNetwork" "firstThruNode" "I" (.int (0 : Int32)) := D226 (Or.inr (own_w hw 186 rfl)) (ty := .int) (by decide)
  have F226_linkTail : Fld Z h226 b226 "com/example/wayfold/wayfold/TrafficNetwork" "linkTail" "[I" .null := D226 (Or.inr (own_w hw 188 rfl)) (ty := (.array .int)) (by decide)
  have F226_linkArc : Fld Z h226 b226 "com/example/wayfold/wayfold/TrafficNetwork" "linkArc" "[I" .null := D226 (Or.inr (own_w hw 190 rfl)) (ty := (.array .int)) (by decide)
  have F226_capacity : Fld Z h226 b226 "com/example/wayfold/wayfold/TrafficNetwork" "capacity" "[D" .null := D226 (Or.inr (own_w hw 198 rfl)) (ty := (.array .double)) (by decide)
  have F226_freeFlowTime : Fld Z h226 b226 "com/example/wayfold/wayfold/TrafficNetwork" "freeFlowTime" "[D" .null := D226 (Or.inr (own_w hw 200 rfl)) (ty := (.array .double)) (by decide)
  have F226_b : Fld Z h226 b226 "com/example/wayfold/wayfold/TrafficNetwork" "b" "[D" .null := D226 (Or.inr (own_w hw 202 rfl)) (ty := (.array .double)) (by decide)
  have F226_power : Fld Z h226 b226 "com/example/wayfold/wayfold/TrafficNetwork" "power" "[D" .null := D226 (Or.inr (own_w hw 204 rfl)) (ty := (.array .double)) (by decide)
  show GoP p e below Φ (T226.setTop (mkF m 171 #[.val (.int p1), .val (.int p2), .val (.int p3), .val (.int t0), .val (.int t1), .val (.int t2), .val (.int t3), .val (.int y0), .val (.int y1), .val (.int y2), .val (.int y3), .val (.int n), .val (.ref b1), .unset] [(.ref b226)]))
  refine own_dup X226 hx hby at_171 rfl (pc' := 172) rfl ?_
  refine own_iload X226 hx hby at_172 rfl (pc' := 174) rfl ?_
  refine own_iconst X226 hx hby at_174 (v := (0 : Int32)) rfl (pc' := 175) rfl ?_
  refine own_iconst X226 hx hby at_175 (v := (0 : Int32)) rfl (pc' := 176) rfl ?_
  refine own_aload X226 hx hby at_176 rfl rfl (pc' := 178) rfl ?_
  refine own_callI X226 hx hby hZ (by exact hml) hown rfl (own_w hw 84 rfl) (own_w hw 85 rfl) (own_w hw 83 rfl) (own_w hw 86 rfl) (by decide) e226 1 (by decide) (by decide) (by decide) (by decide) (argsL := [(.int n), (.int (0 : Int32)), (.int (0 : Int32)), (.ref b1)]) (rest := [(.ref b226)]) (lenOf pd__IIILjava_util_List__V rfl) rfl (Nat.le_of_eq rfl) (rmT l Z a0 hw b226 b1 es b6 b28 b73 b139 n t0 t1 t2 t3 y0 y1 y2 y3 n0 h226 n0_b226 Z226 hn1 hn2 lt0 ut0 lt1 ut1 lt2 ut2 lt3 ut3 ly0 uy0 ly1 uy1 ly2 uy2 ly3 uy3 hg (Ne.symm ne_b1_b226) (Ne.symm ne_es_b226) (Ne.symm ne_b6_b226) (Ne.symm ne_b28_b226) (Ne.symm ne_b73_b226) (Ne.symm ne_b139_b226) A226 F226_graph F226_zoneCount F226_firstThruNode F226_linkTail F226_linkArc F226_capacity F226_freeFlowTime F226_b F226_power E227_b1 F230_size F229_elementData V239_es E231_b6 F232_tail F233_head F234_capacity F235_freeFlowTime F236_b F237_power E240_b28 F241_tail F242_head F243_capacity F244_freeFlowTime F245_b F246_power E247_b73 F248_tail F249_head F250_capacity F251_freeFlowTime F252_b F253_power E254_b139 F255_tail F256_head F257_capacity F258_freeFlowTime F259_b F260_power) at_178 (pc' := 181) rfl ?_
  intro v261 T261 L261 X261 hQ261
  obtain ⟨rfl, Nq261, K261, gr, ah, la, H261_0, H261_1, H261_2, H261_3, H261_4, H261_5, H261_6⟩ := hQ261
  have N261 := Fr.app N195 Nq261
  have Z261 : n0 ≤ T261.heap.size := Nat.le_trans Z226 K261.1
  show GoP p e below Φ (T261.setTop (mkF m 181 #[.val (.int p1), .val (.int p2), .val (.int p3), .val (.int t0), .val (.int t1), .val (.int t2), .val (.int t3), .val (.int y0), .val (.int y1), .val (.int y2), .val (.int y3), .val (.int n), .val (.ref b1), .unset] [(.ref b226)]))
  refine own_astore X261 hx hby at_181 rfl (Ls' := #[.val (.int p1), .val (.int p2), .val (.int p3), .val (.int t0), .val (.int t1), .val (.int t2), .val (.int t3), .val (.int y0), .val (.int y1), .val (.int y2), .val (.int y3), .val (.int n), .val (.ref b1), .val (.ref b226)]) rfl (pc' := 183) rfl ?_
  refine own_aload X261 hx hby at_183 rfl rfl (pc' := 185) rfl ?_
  refine own_iconst X261 hx hby at_185 (v := (0 : Int32)) rfl (pc' := 186) rfl ?_
  refine own_callV X261 hx hby hZ (by exact hml) hown (own_w hw 205 rfl) (own_w hw 206 rfl) (own_w hw 208 rfl) (own_w hw 207 rfl) (own_w hw 83 rfl) (own_w hw 209 rfl) (by decide) rfl 0 (by decide) (by decide) (by decide) (by decide) (argsL := [(.int (0 : Int32))]) (rest := []) (lenOf pd__I_I rfl) rfl (Nat.le_of_eq rfl) H261_0 (rmH0 l Z a0 hw b226 gr ah la n t0 t1 t2 t3 y0 y1 y2 y3 T261.heap hg H261_0 H261_1 H261_2 H261_3 H261_4 H261_5 H261_6) at_186 (pc' := 189) rfl ?_
  intro v262 T262 L262 X262 hQ262
  obtain ⟨rfl, rfl, e262⟩ := hQ262
  rw [List.append_nil] at X262
  replace e262 : T262.heap = T261.heap := e262
  show GoP p e below Φ (T262.setTop (mkF m 189 #[.val (.int p1), .val (.int p2), .val (.int p3), .val (.int t0), .val (.int t1), .val (.int t2), .val (.int t3), .val (.int y0), .val (.int y1), .val (.int y2), .val (.int y3), .val (.int n), .val (.ref b1), .val (.ref b226)] [(.int y0)]))
  refine own_iload X262 hx hby at_189 rfl (pc' := 191) rfl ?_
  refine own_icmpN X262 hx hby at_191 (teq rfl).2 (pc' := 194) rfl ?_
  refine own_aload X262 hx hby at_194 rfl rfl (pc' := 196) rfl ?_
  refine own_iconst X262 hx hby at_196 (v := (1 : Int32)) rfl (pc' := 197) rfl ?_
  refine own_callV X262 hx hby hZ (by exact hml) hown (own_w hw 205 rfl) (own_w hw 206 rfl) (own_w hw 208 rfl) (own_w hw 207 rfl) (own_w hw 83 rfl) (own_w hw 209 rfl) (by decide) e262 0 (by decide) (by decide) (by decide) (by decide) (argsL := [(.int (1 : Int32))]) (rest := []) (lenOf pd__I_I rfl) rfl (Nat.le_of_eq rfl) H261_0 (rmH1 l Z a0 hw b226 gr ah la n t0 t1 t2 t3 y0 y1 y2 y3 T261.heap hg H261_0 H261_1 H261_2 H261_3 H261_4 H261_5 H261_6) at_197 (pc' := 200) rfl ?_
  intro v263 T263 L263 X263 hQ263
  obtain ⟨rfl, rfl, e263⟩ := hQ263
  rw [List.append_nil] at X263
  replace e263 : T263.heap = T261.heap := e263
  show GoP p e below Φ (T263.setTop (mkF m 200 #[.val (.int p1), .val (.int p2), .val (.int p3), .val (.int t0), .val (.int t1), .val (.int t2), .val (.int t3), .val (.int y0), .val (.int y1), .val (.int y2), .val (.int y3), .val (.int n), .val (.ref b1), .val (.ref b226)] [(.int y1)]))
  refine own_iload X263 hx hby at_200 rfl (pc' := 202) rfl ?_
  refine own_icmpN X263 hx hby at_202 (teq rfl).2 (pc' := 205) rfl ?_
  refine own_aload X263 hx hby at_205 rfl rfl (pc' := 207) rfl ?_
  refine own_iconst X263 hx hby at_207 (v := (2 : Int32)) rfl (pc' := 208) rfl ?_
  refine own_callV X263 hx hby hZ (by exact hml) hown (own_w hw 205 rfl) (own_w hw 206 rfl) (own_w hw 208 rfl) (own_w hw 207 rfl) (own_w hw 83 rfl) (own_w hw 209 rfl) (by decide) e263 0 (by decide) (by decide) (by decide) (by decide) (argsL := [(.int (2 : Int32))]) (rest := []) (lenOf pd__I_I rfl) rfl (Nat.le_of_eq rfl) H261_0 (rmH2 l Z a0 hw b226 gr ah la n t0 t1 t2 t3 y0 y1 y2 y3 T261.heap hg H261_0 H261_1 H261_2 H261_3 H261_4 H261_5 H261_6) at_208 (pc' := 211) rfl ?_
  intro v264 T264 L264 X264 hQ264
  obtain ⟨rfl, rfl, e264⟩ := hQ264
  rw [List.append_nil] at X264
  replace e264 : T264.heap = T261.heap := e264
  show GoP p e below Φ (T264.setTop (mkF m 211 #[.val (.int p1), .val (.int p2), .val (.int p3), .val (.int t0), .val (.int t1), .val (.int t2), .val (.int t3), .val (.int y0), .val (.int y1), .val (.int y2), .val (.int y3), .val (.int n), .val (.ref b1), .val (.ref b226)] [(.int y2)]))
  refine own_iload X264 hx hby at_211 rfl (pc' := 213) rfl ?_
  refine own_icmpN X264 hx hby at_213 (teq rfl).2 (pc' := 216) rfl ?_
  refine own_aload X264 hx hby at_216 rfl rfl (pc' := 218) rfl ?_
  refine own_iconst X264 hx hby at_218 (v := (3 : Int32)) rfl (pc' := 219) rfl ?_
  refine own_callV X264 hx hby hZ (by exact hml) hown (own_w hw 205 rfl) (own_w hw 206 rfl) (own_w hw 208 rfl) (own_w hw 207 rfl) (own_w hw 83 rfl) (own_w hw 209 rfl) (by decide) e264 0 (by decide) (by decide) (by decide) (by decide) (argsL := [(.int (3 : Int32))]) (rest := []) (lenOf pd__I_I rfl) rfl (Nat.le_of_eq rfl) H261_0 (rmH3 l Z a0 hw b226 gr ah la n t0 t1 t2 t3 y0 y1 y2 y3 T261.heap hg H261_0 H261_1 H261_2 H261_3 H261_4 H261_5 H261_6) at_219 (pc' := 222) rfl ?_
  intro v265 T265 L265 X265 hQ265
  obtain ⟨rfl, rfl, e265⟩ := hQ265
  rw [List.append_nil] at X265
  replace e265 : T265.heap = T261.heap := e265
  show GoP p e below Φ (T265.setTop (mkF m 222 #[.val (.int p1), .val (.int p2), .val (.int p3), .val (.int t0), .val (.int t1), .val (.int t2), .val (.int t3), .val (.int y0), .val (.int y1), .val (.int y2), .val (.int y3), .val (.int n), .val (.ref b1), .val (.ref b226)] [(.int y3)]))
  refine own_iload X265 hx hby at_222 rfl (pc' := 224) rfl ?_
  refine own_icmpN X265 hx hby at_224 (teq rfl).2 (pc' := 227) rfl ?_
  refine own_iconst X265 hx hby at_227 (v := (1 : Int32)) rfl (pc' := 228) rfl ?_
  refine own_goto X265 hx hby at_228 (by decide) (pc' := 232) (by decide) ?_
  exact own_retN X265 hx hby fin hret (by simp) rfl at_232 (by decide) (by decide) ⟨rfl, N261⟩
set_option maxRecDepth 65536 in
set_option maxHeartbeats 40000000 in
theorem comes_1 {Post : Tables → Env → Array Value → State → Outcome → State → Prop} (hpost : ∀ tb e args s v u, (limb_1_1.after args s (.returned v) u = true ∧ limb_1_2.after args s (.returned v) u = true ∧ True) → FrameEnd s (.returned v) u (Jvm.fieldLocs frame_1_writes args s ++ Jvm.arrayLocs frame_1_arrays args s ++ Jvm.staticLocs frame_1_statics s) 56 320 → Post tb e args s (.returned v) u) :
    ArmFor flags0 classFile x code maxLocals ret World_1 tables_1 room_1 Calls_1 rest_1 Pre_1 Post := by
  intro l hfl _ _ p e ha hc hk s m args below hf hA hF happ hP
  obtain ⟨hcalls, hrest, hpre⟩ := hP
  obtain ⟨-, -, -, hnamed, -, -, -, hat⟩ := (Spec.applies_iff hf).mp happ
  obtain ⟨hg, hn⟩ := and_e (Cond.before_iff.mp (show (Jvm.Cond.and given_1 narrow_1).before args s = true from hpre))
  obtain ⟨g0, hg⟩ := and_e hg
  obtain ⟨w0, w1, w2, rfl⟩ : ∃ w0 w1 w2 : Value, args = #[w0, w1, w2] := by
    have hs : args.size = 3 := by simpa [Cond.value, given_1] using g0
    obtain ⟨L⟩ := args
    match L, hs with
    | [w0, w1, w2], _ => exact ⟨w0, w1, w2, rfl⟩
  obtain ⟨q0, hg⟩ := and_e hg
  obtain ⟨q1, hg⟩ := and_e hg
  have q2 := hg
  have hw := fun d (hd : d ∈ tables_1) => atoms_spec (ws := Jvm.Cond.code x code maxLocals ret :: tables_1) hat d (List.mem_cons_of_mem _ hd)
  have hfit : Fit s := fun {y c} hc i hi => by
    obtain ⟨ha, rfl⟩ := Array.getElem?_eq_some_iff.mp hc
    have q := List.all_eq_true.mp ((Array.all_eq_true_iff_forall_mem.mp hF) _ (Array.getElem_mem ha)) i (List.mem_range.mpr hi)
    simpa [Array.getElem?_eq_getElem hi] using q
  have hsets := (atoms_of jdkStatics_1 (own := restOwn_1) (by rw [← rest_1_c_eq]; exact hrest)).1
  obtain ⟨i0, f0⟩ := is_v q0
  obtain rfl : w0 = (.int i0) := Option.some.inj f0
  obtain ⟨i1, f1⟩ := is_v q1
  obtain rfl : w1 = (.int i1) := Option.some.inj f1
  obtain ⟨i2, f2⟩ := is_v q2
  obtain rfl : w2 = (.int i2) := Option.some.inj f2
  have nn0 := hn
  obtain ⟨aD, evD⟩ := exa_v (Cond.before_iff.mp (own_w hsets 7 rfl))
  have SD := Sta.start evD (Or.inr ⟨(own_w hw 2 rfl), own_w hsets 2 rfl⟩)
  obtain ⟨cD, AD⟩ := Arr.start evD (Cond.before_iff.mp (own_w hsets 6 rfl))
  have VD := own_empty evD AD (Cond.before_iff.mp (own_w hsets 8 rfl))
  obtain ⟨n, o, h1, h2, h3, _, L, rfl, ⟨rfl, N⟩, hq⟩ := rm0 l s _ hw i0 i1 i2 aD s.heap.size s.heap (Nat.le_refl _) SD VD p e ha hc hk s m _ below hf ((Spec.applies_iff_loose hf).mp happ).1 ⟨rfl, State.Warmed39.refl s, rfl⟩ trivial
  refine ⟨n, _, h1, h2, h3, hpost _ _ _ _ _ _ ⟨Cond.after_iff.mpr rfl, Cond.after_iff.mpr (eq_i res_at (Term.int_eval (1)) rfl), trivial⟩ ⟨hq.1, hq.2.1, (hq.2.2.sift fun y hy => Or.inr (N y hy)).mono (by decide) (by decide)⟩⟩
theorem main_1_1 : Claimed_1_1 := comes_1 fun _ _ _ _ _ _ h hF => ⟨h.1, hF⟩
theorem main_1_2 : Claimed_1_2 := comes_1 fun _ _ _ _ _ _ h hF => ⟨h.2.1, hF⟩
end Jvm.Pilot.@@N@@
namespace Jvm.Pilot.@@N@@
open Jvm Jvm.ClassFile Sem Op Lib Jvm.Free Jvm.Stand Jvm.Pilot.@@N@@.Jvm.D
/-! MADE BY PROGRAM (witnessworld.py) out of the Statement's table words and the real class files: 27 classes; the members and pool entries that the words name. The judged class is class 1, her method 1. -/
namespace start1
open Jvm.ClassFile
def u (s : String) : CpInfo := .utf8 (stringToUtf16 s)
/-- a pool by its gaps: so many unusable entries, then the entry; so many at the end -/
def gap : Nat → List CpInfo → List CpInfo
  | 0, r => r
  | n + 1, r => .unusable :: gap n r
def poolList (es : List (Nat × CpInfo)) (last : Nat) : List CpInfo := es.foldr (fun e r => gap e.1 (e.2 :: r)) (gap last [])
def pool (es : List (Nat × CpInfo)) (last : Nat) : Array CpInfo := ⟨poolList es last⟩
def fileOf (pool : Array CpInfo) (this : Nat) (attrs : Array Attribute := #[]) (ms : Array MethodInfo := #[]) (fl : Nat := 33) (sup : Nat := 0) (ifs : Array Nat := #[]) (fds : Array FieldInfo := #[]) : ClassFile where
  minorVersion := 0
  majorVersion := 65
  constantPool := pool
  accessFlags := fl
  thisClass := this
  superClass := sup
  interfaces := ifs
  fields := fds
  methods := ms
  attributes := attrs
def plain (name : String) (sup : Option ClassId) : Class where
  name := name
  kind := .ordinary
  loader := none
  accessFlags := 33
  super := sup
  interfaces := #[]
  cf := none
  fields := #[]
  methods := #[]
  instanceTypes := #[]
  staticTypes := #[]
  resolved := #[]
  callSites := []
  init := .initialized
  statics := none
  mirror := none

def pool0 : Array CpInfo := pool [(5, u "<init>"), (0, u "()V"), (1, .class_ 10), (1, u "java/lang/Object")] 113

def k0c0 : Code := { maxStack := 0, maxLocals := 1, code := object_method_1_code, exceptionTable := #[], attributes := #[] }
def k0m0 : Method := { name := "<init>", desc := "()V", sig := { parameters := [], returnType := none }, accessFlags := 1, code := some k0c0 }
/-- java/lang/Object -/
def k0 : Class := { plain "java/lang/Object" none with
  accessFlags := 33
  interfaces := #[]
  cf := some (fileOf pool0 8 #[] #[{ accessFlags := 1, nameIndex := 5, descriptorIndex := 6, attributes := #[] }] 33 0 #[] #[])
  fields := #[]
  methods := #[k0m0]
  instanceTypes := #[]
  staticTypes := #[]
  resolved := Array.replicate 124 none
  statics := none }

def pool1 : Array CpInfo := pool [(2, .class_ 4), (0, .nameAndType 5 6), (0, u "java/lang/Object"), (0, u "<init>"), (0, u "()V"), (0, .class_ 8), (0, u "java/util/ArrayList"), (0, .methodref 7 3), (0, .class_ 11), (0, u "com/example/wayfold/wayfold/TrafficNetwork$Link"), (0, .methodref 10 13), (0, .nameAndType 5 14), (0, u "(IIDDDD)V"), (0, .methodref 7 16), (0, .nameAndType 17 18), (0, u "add"), (0, u "(Ljava/lang/Object;)Z"), (0, .class_ 20), (0, u "com/example/wayfold/wayfold/TrafficNetwork"), (0, .methodref 19 22), (0, .nameAndType 5 23), (0, u "(IIILjava/util/List;)V"), (0, .methodref 19 25), (0, .nameAndType 26 27), (0, u "head"), (0, u "(I)I"), (0, .class_ 29), (0, u "com/example/wayfold/wayfold/TrafficNetworkHeadPinLaw"), (2, u "law"), (0, u "(III)Z")] 5

def k1m0 : Method := { name := "<init>", desc := "()V", sig := { parameters := [], returnType := none }, accessFlags := 1, code := none }
def k1c1 : Code := { maxStack := 13, maxLocals := 14, code := code, exceptionTable := #[], attributes := #[] }
def k1m1 : Method := { name := "law", desc := "(III)Z", sig := { parameters := [.int, .int, .int], returnType := some .boolean }, accessFlags := 9, code := some k1c1 }
/-- com/example/wayfold/wayfold/TrafficNetworkHeadPinLaw -/
def k1 : Class := { plain "com/example/wayfold/wayfold/TrafficNetworkHeadPinLaw" (some 0) with
  accessFlags := 49
  interfaces := #[]
  cf := some (fileOf pool1 28 #[] #[{ accessFlags := 1, nameIndex := 5, descriptorIndex := 6, attributes := #[] }, { accessFlags := 9, nameIndex := 32, descriptorIndex := 33, attributes := #[] }] 49 2 #[] #[])
  fields := #[]
  methods := #[k1m0, k1m1]
  instanceTypes := #[]
  staticTypes := #[]
  resolved := Array.replicate 39 none
  statics := none }

def pool2 : Array CpInfo := pool [(8, .class_ 10), (1, u "java/lang/Iterable"), (24, .class_ 36), (0, u "java/lang/Object")] 25

/-- java/lang/Iterable -/
def k2 : Class := { plain "java/lang/Iterable" (some 0) with
  accessFlags := 1537
  interfaces := #[]
  cf := some (fileOf pool2 8 #[] #[] 1537 35 #[] #[])
  fields := #[]
  methods := #[]
  instanceTypes := #[]
  staticTypes := #[]
  resolved := Array.replicate 62 none
  statics := none }

def pool3 : Array CpInfo := pool [(10, .class_ 12), (1, u "java/util/Collection"), (47, .class_ 61), (0, u "java/lang/Object"), (0, .class_ 63), (0, u "java/lang/Iterable")] 51

/-- java/util/Collection -/
def k3 : Class := { plain "java/util/Collection" (some 0) with
  accessFlags := 1537
  interfaces := #[2]
  cf := some (fileOf pool3 10 #[] #[] 1537 60 #[62] #[])
  fields := #[]
  methods := #[]
  instanceTypes := #[]
  staticTypes := #[]
  resolved := Array.replicate 115 none
  statics := none }

def pool4 : Array CpInfo := pool [(1, .methodref 2 3), (0, .class_ 4), (0, .nameAndType 5 6), (0, u "java/lang/Object"), (0, u "<init>"), (0, u "()V"), (1, .class_ 10), (1, u "java/util/AbstractCollection"), (66, .class_ 78), (0, u "java/util/Collection")] 81

def k4c0 : Code := { maxStack := 1, maxLocals := 1, code := jdk_22_method_1_code, exceptionTable := #[], attributes := #[] }
def k4m0 : Method := { name := "<init>", desc := "()V", sig := { parameters := [], returnType := none }, accessFlags := 4, code := some k4c0 }
/-- java/util/AbstractCollection -/
def k4 : Class := { plain "java/util/AbstractCollection" (some 0) with
  accessFlags := 1057
  interfaces := #[3]
  cf := some (fileOf pool4 8 #[] #[{ accessFlags := 4, nameIndex := 5, descriptorIndex := 6, attributes := #[] }] 1057 2 #[77] #[])
  fields := #[]
  methods := #[k4m0]
  instanceTypes := #[]
  staticTypes := #[]
  resolved := Array.replicate 160 none
  statics := none }

def pool5 : Array CpInfo := pool [(8, .class_ 10), (1, u "java/util/SequencedCollection"), (15, .class_ 27), (0, u "java/lang/Object"), (0, .class_ 29), (0, u "java/util/Collection")] 27

/-- java/util/SequencedCollection -/
def k5 : Class := { plain "java/util/SequencedCollection" (some 0) with
  accessFlags := 1537
  interfaces := #[3]
  cf := some (fileOf pool5 8 #[] #[] 1537 26 #[28] #[])
  fields := #[]
  methods := #[]
  instanceTypes := #[]
  staticTypes := #[]
  resolved := Array.replicate 57 none
  statics := none }

def pool6 : Array CpInfo := pool [(8, .class_ 10), (1, u "java/util/List"), (64, u "get"), (0, u "(I)Ljava/lang/Object;"), (2, u "size"), (0, u "()I"), (22, .class_ 104), (0, u "java/lang/Object"), (15, .class_ 121), (0, u "java/util/SequencedCollection")] 129

def k6m0 : Method := { name := "size", desc := "()I", sig := { parameters := [], returnType := some .int }, accessFlags := 1025, code := none }
def k6m1 : Method := { name := "get", desc := "(I)Ljava/lang/Object;", sig := { parameters := [.int], returnType := some (.object "java/lang/Object") }, accessFlags := 1025, code := none }
/-- java/util/List -/
def k6 : Class := { plain "java/util/List" (some 0) with
  accessFlags := 1537
  interfaces := #[5]
  cf := some (fileOf pool6 8 #[] #[{ accessFlags := 1025, nameIndex := 79, descriptorIndex := 80, attributes := #[] }, { accessFlags := 1025, nameIndex := 75, descriptorIndex := 76, attributes := #[] }] 1537 103 #[120] #[])
  fields := #[]
  methods := #[k6m0, k6m1]
  instanceTypes := #[]
  staticTypes := #[]
  resolved := Array.replicate 251 none
  statics := none }

def pool7 : Array CpInfo := pool [(1, .methodref 2 3), (0, .class_ 4), (0, .nameAndType 5 6), (0, u "java/util/AbstractCollection"), (0, u "<init>"), (0, u "()V"), (0, .fieldref 8 9), (0, .class_ 10), (0, .nameAndType 11 12), (0, u "java/util/AbstractList"), (0, u "modCount"), (0, u "I"), (64, .class_ 78), (0, u "java/util/AbstractList$Itr"), (3, .class_ 83), (0, u "java/util/AbstractList$ListItr"), (9, .class_ 94), (0, u "java/util/AbstractList$RandomAccessSubList"), (3, .class_ 99), (0, u "java/util/AbstractList$SubList"), (33, .class_ 134), (0, u "java/util/List"), (73, .class_ 209), (0, u "java/util/AbstractList$SubList$1"), (0, .class_ 211), (0, u "java/util/AbstractList$RandomAccessSpliterator")] 6

def k7c0 : Code := { maxStack := 2, maxLocals := 1, code := jdk_39_method_1_code, exceptionTable := #[], attributes := #[] }
def k7m0 : Method := { name := "<init>", desc := "()V", sig := { parameters := [], returnType := none }, accessFlags := 4, code := some k7c0 }
/-- java/util/AbstractList -/
def k7 : Class := { plain "java/util/AbstractList" (some 4) with
  accessFlags := 1057
  interfaces := #[6]
  cf := some (fileOf pool7 8 #[.nestMembers #[93, 98, 208, 210, 82, 77]] #[{ accessFlags := 4, nameIndex := 5, descriptorIndex := 6, attributes := #[] }] 1057 2 #[133] #[{ accessFlags := 132, nameIndex := 11, descriptorIndex := 12, attributes := #[] }])
  fields := #[{ name := "modCount", type := .int, accessFlags := 132, slot := 0, constantValue := 0 }]
  methods := #[k7m0]
  instanceTypes := #[.int]
  staticTypes := #[]
  resolved := Array.replicate 218 none
  statics := none }

def pool8 : Array CpInfo := pool [(1, .class_ 2), (0, u "java/util/RandomAccess"), (0, .class_ 4), (0, u "java/lang/Object")] 2

/-- java/util/RandomAccess -/
def k8 : Class := { plain "java/util/RandomAccess" (some 0) with
  accessFlags := 1537
  interfaces := #[]
  cf := some (fileOf pool8 1 #[] #[] 1537 3 #[] #[])
  fields := #[]
  methods := #[]
  instanceTypes := #[]
  staticTypes := #[]
  resolved := Array.replicate 7 none
  statics := none }

def pool9 : Array CpInfo := pool [(1, .class_ 2), (0, u "java/lang/Cloneable"), (0, .class_ 4), (0, u "java/lang/Object")] 2

/-- java/lang/Cloneable -/
def k9 : Class := { plain "java/lang/Cloneable" (some 0) with
  accessFlags := 1537
  interfaces := #[]
  cf := some (fileOf pool9 1 #[] #[] 1537 3 #[] #[])
  fields := #[]
  methods := #[]
  instanceTypes := #[]
  staticTypes := #[]
  resolved := Array.replicate 7 none
  statics := none }

def pool10 : Array CpInfo := pool [(1, .class_ 2), (0, u "java/io/Serializable"), (0, .class_ 4), (0, u "java/lang/Object")] 2

/-- java/io/Serializable -/
def k10 : Class := { plain "java/io/Serializable" (some 0) with
  accessFlags := 1537
  interfaces := #[]
  cf := some (fileOf pool10 1 #[] #[] 1537 3 #[] #[])
  fields := #[]
  methods := #[]
  instanceTypes := #[]
  staticTypes := #[]
  resolved := Array.replicate 7 none
  statics := none }

def pool11 : Array CpInfo := pool [(1, .methodref 2 3), (0, .class_ 4), (0, .nameAndType 5 6), (0, u "java/util/AbstractList"), (0, u "<init>"), (0, u "()V"), (0, .class_ 8), (0, u "java/lang/Object"), (0, .fieldref 10 11), (0, .class_ 12), (0, .nameAndType 13 14), (0, u "java/util/ArrayList"), (0, u "elementData"), (0, u "[Ljava/lang/Object;"), (2, u "EMPTY_ELEMENTDATA"), (21, .fieldref 10 40), (0, .nameAndType 41 14), (0, u "DEFAULTCAPACITY_EMPTY_ELEMENTDATA"), (5, u "()[Ljava/lang/Object;"), (0, .fieldref 10 49), (0, .nameAndType 50 51), (0, u "size"), (0, u "I"), (11, .fieldref 10 64), (0, .nameAndType 65 51), (0, u "modCount"), (3, .methodref 10 70), (0, .nameAndType 71 72), (0, u "grow"), (0, u "(I)[Ljava/lang/Object;"), (6, .methodref 80 81), (0, .class_ 82), (0, .nameAndType 83 84), (0, u "java/lang/Math"), (0, u "max"), (0, u "(II)I"), (11, u "(Ljava/lang/Object;)Z"), (21, .methodref 119 120), (0, .class_ 121), (0, .nameAndType 122 84), (0, u "java/util/Objects"), (0, u "checkIndex"), (0, .methodref 10 124), (0, .nameAndType 13 125), (0, u "(I)Ljava/lang/Object;"), (3, .methodref 10 130), (0, .nameAndType 71 47), (0, .methodref 10 132), (0, .nameAndType 133 134), (0, u "add"), (0, u "(Ljava/lang/Object;[Ljava/lang/Object;I)V"), (13, .class_ 149), (0, u "java/util/List"), (36, u "()I"), (75, .class_ 263), (0, u "java/util/ArrayList$ListItr"), (3, .class_ 268), (0, u "java/util/ArrayList$Itr"), (7, .class_ 277), (0, u "java/util/ArrayList$SubList"), (12, .class_ 291), (0, u "java/util/ArrayList$ArrayListSpliterator"), (37, .class_ 330), (0, u "java/util/RandomAccess"), (0, .class_ 332), (0, u "java/lang/Cloneable"), (0, .class_ 334), (0, u "java/io/Serializable"), (0, u "serialVersionUID"), (0, u "J"), (3, u "DEFAULT_CAPACITY"), (40, u "get"), (118, .class_ 501), (0, u "java/util/ArrayList$SubList$2"), (0, .class_ 503), (0, u "java/util/ArrayList$SubList$1")] 5

def k11c0 : Code := { maxStack := 2, maxLocals := 1, code := jdk_38_method_2_code, exceptionTable := #[], attributes := #[] }
def k11m0 : Method := { name := "<init>", desc := "()V", sig := { parameters := [], returnType := none }, accessFlags := 1, code := some k11c0 }
def k11c1 : Code := { maxStack := 4, maxLocals := 4, code := jdk_38_method_6_code, exceptionTable := #[], attributes := #[] }
def k11m1 : Method := { name := "grow", desc := "(I)[Ljava/lang/Object;", sig := { parameters := [.int], returnType := some (.array (.object "java/lang/Object")) }, accessFlags := 2, code := some k11c1 }
def k11c2 : Code := { maxStack := 3, maxLocals := 1, code := jdk_38_method_7_code, exceptionTable := #[], attributes := #[] }
def k11m2 : Method := { name := "grow", desc := "()[Ljava/lang/Object;", sig := { parameters := [], returnType := some (.array (.object "java/lang/Object")) }, accessFlags := 2, code := some k11c2 }
def k11c3 : Code := { maxStack := 1, maxLocals := 1, code := jdk_38_method_8_code, exceptionTable := #[], attributes := #[] }
def k11m3 : Method := { name := "size", desc := "()I", sig := { parameters := [], returnType := some .int }, accessFlags := 1, code := some k11c3 }
def k11c4 : Code := { maxStack := 2, maxLocals := 2, code := jdk_38_method_18_code, exceptionTable := #[], attributes := #[] }
def k11m4 : Method := { name := "elementData", desc := "(I)Ljava/lang/Object;", sig := { parameters := [.int], returnType := some (.object "java/lang/Object") }, accessFlags := 0, code := some k11c4 }
def k11c5 : Code := { maxStack := 2, maxLocals := 2, code := jdk_38_method_20_code, exceptionTable := #[], attributes := #[] }
def k11m5 : Method := { name := "get", desc := "(I)Ljava/lang/Object;", sig := { parameters := [.int], returnType := some (.object "java/lang/Object") }, accessFlags := 1, code := some k11c5 }
def k11c6 : Code := { maxStack := 3, maxLocals := 4, code := jdk_38_method_24_code, exceptionTable := #[], attributes := #[] }
def k11m6 : Method := { name := "add", desc := "(Ljava/lang/Object;[Ljava/lang/Object;I)V", sig := { parameters := [(.object "java/lang/Object"), (.array (.object "java/lang/Object")), .int], returnType := none }, accessFlags := 2, code := some k11c6 }
def k11c7 : Code := { maxStack := 4, maxLocals := 2, code := jdk_38_method_25_code, exceptionTable := #[], attributes := #[] }
def k11m7 : Method := { name := "add", desc := "(Ljava/lang/Object;)Z", sig := { parameters := [(.object "java/lang/Object")], returnType := some .boolean }, accessFlags := 1, code := some k11c7 }
/-- java/util/ArrayList -/
def k11 : Class := { plain "java/util/ArrayList" (some 7) with
  accessFlags := 33
  interfaces := #[6, 8, 9, 10]
  cf := some (fileOf pool11 10 #[.nestMembers #[290, 276, 500, 502, 262, 267]] #[{ accessFlags := 1, nameIndex := 5, descriptorIndex := 6, attributes := #[] }, { accessFlags := 2, nameIndex := 71, descriptorIndex := 72, attributes := #[] }, { accessFlags := 2, nameIndex := 71, descriptorIndex := 47, attributes := #[] }, { accessFlags := 1, nameIndex := 50, descriptorIndex := 186, attributes := #[] }, { accessFlags := 0, nameIndex := 13, descriptorIndex := 125, attributes := #[] }, { accessFlags := 1, nameIndex := 381, descriptorIndex := 125, attributes := #[] }, { accessFlags := 2, nameIndex := 133, descriptorIndex := 134, attributes := #[] }, { accessFlags := 1, nameIndex := 133, descriptorIndex := 96, attributes := #[] }] 33 2 #[148, 329, 331, 333] #[{ accessFlags := 26, nameIndex := 335, descriptorIndex := 336, attributes := #[] }, { accessFlags := 26, nameIndex := 340, descriptorIndex := 51, attributes := #[] }, { accessFlags := 26, nameIndex := 17, descriptorIndex := 14, attributes := #[] }, { accessFlags := 26, nameIndex := 41, descriptorIndex := 14, attributes := #[] }, { accessFlags := 128, nameIndex := 13, descriptorIndex := 14, attributes := #[] }, { accessFlags := 2, nameIndex := 50, descriptorIndex := 51, attributes := #[] }])
  fields := #[{ name := "serialVersionUID", type := .long, accessFlags := 26, slot := 0, constantValue := 0 }, { name := "DEFAULT_CAPACITY", type := .int, accessFlags := 26, slot := 1, constantValue := 0 }, { name := "EMPTY_ELEMENTDATA", type := (.array (.object "java/lang/Object")), accessFlags := 26, slot := 2, constantValue := 0 }, { name := "DEFAULTCAPACITY_EMPTY_ELEMENTDATA", type := (.array (.object "java/lang/Object")), accessFlags := 26, slot := 3, constantValue := 0 }, { name := "elementData", type := (.array (.object "java/lang/Object")), accessFlags := 128, slot := 1, constantValue := 0 }, { name := "size", type := .int, accessFlags := 2, slot := 2, constantValue := 0 }]
  methods := #[k11m0, k11m1, k11m2, k11m3, k11m4, k11m5, k11m6, k11m7]
  instanceTypes := #[.int, (.array (.object "java/lang/Object")), .int]
  staticTypes := #[.long, .int, (.array (.object "java/lang/Object")), (.array (.object "java/lang/Object"))]
  resolved := Array.replicate 509 none
  statics := some 0 }

def pool12 : Array CpInfo := pool [(1, .methodref 2 3), (0, .class_ 4), (0, .nameAndType 5 6), (0, u "java/lang/Object"), (0, u "<init>"), (0, u "()V"), (0, .class_ 8), (0, u "java/lang/Record")] 13

def k12c0 : Code := { maxStack := 1, maxLocals := 1, code := jdk_30_method_1_code, exceptionTable := #[], attributes := #[] }
def k12m0 : Method := { name := "<init>", desc := "()V", sig := { parameters := [], returnType := none }, accessFlags := 4, code := some k12c0 }
/-- java/lang/Record -/
def k12 : Class := { plain "java/lang/Record" (some 0) with
  accessFlags := 1057
  interfaces := #[]
  cf := some (fileOf pool12 7 #[] #[{ accessFlags := 4, nameIndex := 5, descriptorIndex := 6, attributes := #[] }] 1057 2 #[] #[])
  fields := #[]
  methods := #[k12m0]
  instanceTypes := #[]
  staticTypes := #[]
  resolved := Array.replicate 22 none
  statics := none }

def pool13 : Array CpInfo := pool [(1, .methodref 2 3), (0, .class_ 4), (0, .nameAndType 5 6), (0, u "java/lang/Record"), (0, u "<init>"), (0, u "()V"), (0, .fieldref 8 9), (0, .class_ 10), (0, .nameAndType 11 12), (0, u "com/example/wayfold/wayfold/TrafficNetwork$Link"), (0, u "tail"), (0, u "I"), (0, .fieldref 8 14), (0, .nameAndType 15 12), (0, u "head"), (0, .fieldref 8 17), (0, .nameAndType 18 19), (0, u "capacity"), (0, u "D"), (0, .fieldref 8 21), (0, .nameAndType 22 19), (0, u "freeFlowTime"), (0, .fieldref 8 24), (0, .nameAndType 25 19), (0, u "b"), (0, .fieldref 8 27), (0, .nameAndType 28 19), (0, u "power"), (12, u "(IIDDDD)V"), (4, u "()I"), (1, u "()D"), (3, .class_ 53), (0, u "com/example/wayfold/wayfold/TrafficNetwork")] 24

def k13c0 : Code := { maxStack := 3, maxLocals := 11, code := prog_58_method_1_code, exceptionTable := #[], attributes := #[] }
def k13m0 : Method := { name := "<init>", desc := "(IIDDDD)V", sig := { parameters := [.int, .int, .double, .double, .double, .double], returnType := none }, accessFlags := 0, code := some k13c0 }
def k13c1 : Code := { maxStack := 1, maxLocals := 1, code := prog_58_method_5_code, exceptionTable := #[], attributes := #[] }
def k13m1 : Method := { name := "tail", desc := "()I", sig := { parameters := [], returnType := some .int }, accessFlags := 1, code := some k13c1 }
def k13c2 : Code := { maxStack := 1, maxLocals := 1, code := prog_58_method_6_code, exceptionTable := #[], attributes := #[] }
def k13m2 : Method := { name := "head", desc := "()I", sig := { parameters := [], returnType := some .int }, accessFlags := 1, code := some k13c2 }
def k13c3 : Code := { maxStack := 2, maxLocals := 1, code := prog_58_method_7_code, exceptionTable := #[], attributes := #[] }
def k13m3 : Method := { name := "capacity", desc := "()D", sig := { parameters := [], returnType := some .double }, accessFlags := 1, code := some k13c3 }
def k13c4 : Code := { maxStack := 2, maxLocals := 1, code := prog_58_method_8_code, exceptionTable := #[], attributes := #[] }
def k13m4 : Method := { name := "freeFlowTime", desc := "()D", sig := { parameters := [], returnType := some .double }, accessFlags := 1, code := some k13c4 }
def k13c5 : Code := { maxStack := 2, maxLocals := 1, code := prog_58_method_9_code, exceptionTable := #[], attributes := #[] }
def k13m5 : Method := { name := "b", desc := "()D", sig := { parameters := [], returnType := some .double }, accessFlags := 1, code := some k13c5 }
def k13c6 : Code := { maxStack := 2, maxLocals := 1, code := prog_58_method_10_code, exceptionTable := #[], attributes := #[] }
def k13m6 : Method := { name := "power", desc := "()D", sig := { parameters := [], returnType := some .double }, accessFlags := 1, code := some k13c6 }
/-- com/example/wayfold/wayfold/TrafficNetwork$Link -/
def k13 : Class := { plain "com/example/wayfold/wayfold/TrafficNetwork$Link" (some 12) with
  accessFlags := 48
  interfaces := #[]
  cf := some (fileOf pool13 8 #[.nestHost 52] #[{ accessFlags := 0, nameIndex := 5, descriptorIndex := 41, attributes := #[] }, { accessFlags := 1, nameIndex := 11, descriptorIndex := 46, attributes := #[] }, { accessFlags := 1, nameIndex := 15, descriptorIndex := 46, attributes := #[] }, { accessFlags := 1, nameIndex := 18, descriptorIndex := 48, attributes := #[] }, { accessFlags := 1, nameIndex := 22, descriptorIndex := 48, attributes := #[] }, { accessFlags := 1, nameIndex := 25, descriptorIndex := 48, attributes := #[] }, { accessFlags := 1, nameIndex := 28, descriptorIndex := 48, attributes := #[] }] 48 2 #[] #[{ accessFlags := 18, nameIndex := 11, descriptorIndex := 12, attributes := #[] }, { accessFlags := 18, nameIndex := 15, descriptorIndex := 12, attributes := #[] }, { accessFlags := 18, nameIndex := 18, descriptorIndex := 19, attributes := #[] }, { accessFlags := 18, nameIndex := 22, descriptorIndex := 19, attributes := #[] }, { accessFlags := 18, nameIndex := 25, descriptorIndex := 19, attributes := #[] }, { accessFlags := 18, nameIndex := 28, descriptorIndex := 19, attributes := #[] }])
  fields := #[{ name := "tail", type := .int, accessFlags := 18, slot := 0, constantValue := 0 }, { name := "head", type := .int, accessFlags := 18, slot := 1, constantValue := 0 }, { name := "capacity", type := .double, accessFlags := 18, slot := 2, constantValue := 0 }, { name := "freeFlowTime", type := .double, accessFlags := 18, slot := 3, constantValue := 0 }, { name := "b", type := .double, accessFlags := 18, slot := 4, constantValue := 0 }, { name := "power", type := .double, accessFlags := 18, slot := 5, constantValue := 0 }]
  methods := #[k13m0, k13m1, k13m2, k13m3, k13m4, k13m5, k13m6]
  instanceTypes := #[.int, .int, .double, .double, .double, .double]
  staticTypes := #[]
  resolved := Array.replicate 78 none
  statics := none }

def pool14 : Array CpInfo := pool [(1, .class_ 2), (0, u "java/lang/Math"), (1, .class_ 6), (1, u "java/lang/Object"), (0, u "<init>"), (0, u "()V"), (89, .class_ 100), (1, u "java/lang/Math$RandomNumberGeneratorHolder"), (71, u "negativeZeroFloatBits"), (0, u "J"), (2, u "negativeZeroDoubleBits"), (21, u "max"), (46, u "$assertionsDisabled"), (0, u "Z"), (88, u "(II)I"), (2, u "twoToTheDoubleScaleDown"), (0, u "D"), (4, u "twoToTheDoubleScaleUp"), (9, u "E"), (3, u "PI"), (2, u "TAU"), (2, u "DEGREES_TO_RADIANS"), (0, u "RADIANS_TO_DEGREES")] 94

def k14m0 : Method := { name := "<init>", desc := "()V", sig := { parameters := [], returnType := none }, accessFlags := 2, code := none }
def k14c1 : Code := { maxStack := 2, maxLocals := 2, code := jdk_29_method_65_code, exceptionTable := #[], attributes := #[] }
def k14m1 : Method := { name := "max", desc := "(II)I", sig := { parameters := [.int, .int], returnType := some .int }, accessFlags := 9, code := some k14c1 }
/-- java/lang/Math -/
def k14 : Class := { plain "java/lang/Math" (some 0) with
  accessFlags := 49
  interfaces := #[]
  cf := some (fileOf pool14 1 #[.nestMembers #[98]] #[{ accessFlags := 2, nameIndex := 7, descriptorIndex := 8, attributes := #[] }, { accessFlags := 9, nameIndex := 198, descriptorIndex := 335, attributes := #[] }] 49 4 #[] #[{ accessFlags := 25, nameIndex := 354, descriptorIndex := 339, attributes := #[] }, { accessFlags := 25, nameIndex := 358, descriptorIndex := 339, attributes := #[] }, { accessFlags := 25, nameIndex := 361, descriptorIndex := 339, attributes := #[] }, { accessFlags := 26, nameIndex := 364, descriptorIndex := 339, attributes := #[] }, { accessFlags := 26, nameIndex := 365, descriptorIndex := 339, attributes := #[] }, { accessFlags := 26, nameIndex := 172, descriptorIndex := 173, attributes := #[] }, { accessFlags := 26, nameIndex := 176, descriptorIndex := 173, attributes := #[] }, { accessFlags := 8, nameIndex := 344, descriptorIndex := 339, attributes := #[] }, { accessFlags := 8, nameIndex := 338, descriptorIndex := 339, attributes := #[] }, { accessFlags := 4120, nameIndex := 245, descriptorIndex := 246, attributes := #[] }])
  fields := #[{ name := "E", type := .double, accessFlags := 25, slot := 0, constantValue := 0 }, { name := "PI", type := .double, accessFlags := 25, slot := 1, constantValue := 0 }, { name := "TAU", type := .double, accessFlags := 25, slot := 2, constantValue := 0 }, { name := "DEGREES_TO_RADIANS", type := .double, accessFlags := 26, slot := 3, constantValue := 0 }, { name := "RADIANS_TO_DEGREES", type := .double, accessFlags := 26, slot := 4, constantValue := 0 }, { name := "negativeZeroFloatBits", type := .long, accessFlags := 26, slot := 5, constantValue := 0 }, { name := "negativeZeroDoubleBits", type := .long, accessFlags := 26, slot := 6, constantValue := 0 }, { name := "twoToTheDoubleScaleUp", type := .double, accessFlags := 8, slot := 7, constantValue := 0 }, { name := "twoToTheDoubleScaleDown", type := .double, accessFlags := 8, slot := 8, constantValue := 0 }, { name := "$assertionsDisabled", type := .boolean, accessFlags := 4120, slot := 9, constantValue := 0 }]
  methods := #[k14m0, k14m1]
  instanceTypes := #[]
  staticTypes := #[.double, .double, .double, .double, .double, .long, .long, .double, .double, .boolean]
  resolved := Array.replicate 460 none
  statics := none }

def pool15 : Array CpInfo := pool [(1, .methodref 2 3), (0, .class_ 4), (0, .nameAndType 5 6), (0, u "java/lang/Object"), (0, u "<init>"), (0, u "()V"), (9, .interfaceMethodref 17 18), (0, .class_ 19), (0, .nameAndType 20 21), (0, u "java/util/List"), (0, u "size"), (0, u "()I"), (0, .interfaceMethodref 17 23), (0, .nameAndType 24 25), (0, u "get"), (0, u "(I)Ljava/lang/Object;"), (0, .class_ 27), (0, u "com/example/wayfold/wayfold/TrafficNetwork$Link"), (0, .methodref 26 29), (0, .nameAndType 30 31), (0, u "capacity"), (0, u "()D"), (0, .methodref 26 33), (0, .nameAndType 34 31), (0, u "freeFlowTime"), (0, .methodref 26 36), (0, .nameAndType 37 31), (0, u "b"), (0, .methodref 26 39), (0, .nameAndType 40 31), (0, u "power"), (9, .methodref 26 51), (0, .nameAndType 52 21), (0, u "tail"), (0, .methodref 26 54), (0, .nameAndType 55 21), (0, u "head"), (0, .methodref 57 58), (0, .class_ 59), (0, .nameAndType 60 61), (0, u "com/example/wayfold/wayfold/Graph"), (0, u "of"), (0, u "(II[I[I[J)Lcom/example/wayfold/wayfold/Graph;"), (0, .fieldref 63 64), (0, .class_ 65), (0, .nameAndType 66 67), (0, u "com/example/wayfold/wayfold/TrafficNetwork"), (0, u "graph"), (0, u "Lcom/example/wayfold/wayfold/Graph;"), (0, .fieldref 63 69), (0, .nameAndType 70 71), (0, u "zoneCount"), (0, u "I"), (0, .fieldref 63 73), (0, .nameAndType 74 71), (0, u "firstThruNode"), (0, .fieldref 63 76), (0, .nameAndType 77 78), (0, u "linkTail"), (0, u "[I"), (0, .fieldref 63 80), (0, .nameAndType 81 78), (0, u "linkArc"), (0, .methodref 57 83), (0, .nameAndType 84 85), (0, u "firstArc"), (0, u "(I)I"), (0, .fieldref 63 87), (0, .nameAndType 30 88), (0, u "[D"), (0, .fieldref 63 90), (0, .nameAndType 34 88), (0, .fieldref 63 92), (0, .nameAndType 37 88), (0, .fieldref 63 94), (0, .nameAndType 40 88), (0, .methodref 57 96), (0, .nameAndType 55 85), (23, u "MAX_SQUARED_POWER"), (0, u "D"), (1, u "(IIILjava/util/List;)V")] 38

def k15c0 : Code := { maxStack := 6, maxLocals := 12, code := prog_57_method_1_code, exceptionTable := #[], attributes := #[] }
def k15m0 : Method := { name := "<init>", desc := "(IIILjava/util/List;)V", sig := { parameters := [.int, .int, .int, (.object "java/util/List")], returnType := none }, accessFlags := 0, code := some k15c0 }
def k15c1 : Code := { maxStack := 3, maxLocals := 2, code := prog_57_method_7_code, exceptionTable := #[], attributes := #[] }
def k15m1 : Method := { name := "head", desc := "(I)I", sig := { parameters := [.int], returnType := some .int }, accessFlags := 0, code := some k15c1 }
/-- com/example/wayfold/wayfold/TrafficNetwork -/
def k15 : Class := { plain "com/example/wayfold/wayfold/TrafficNetwork" (some 0) with
  accessFlags := 48
  interfaces := #[]
  cf := some (fileOf pool15 63 #[.nestMembers #[26]] #[{ accessFlags := 0, nameIndex := 5, descriptorIndex := 123, attributes := #[] }, { accessFlags := 0, nameIndex := 55, descriptorIndex := 85, attributes := #[] }] 48 2 #[] #[{ accessFlags := 26, nameIndex := 120, descriptorIndex := 121, attributes := #[] }, { accessFlags := 18, nameIndex := 66, descriptorIndex := 67, attributes := #[] }, { accessFlags := 18, nameIndex := 70, descriptorIndex := 71, attributes := #[] }, { accessFlags := 18, nameIndex := 74, descriptorIndex := 71, attributes := #[] }, { accessFlags := 18, nameIndex := 77, descriptorIndex := 78, attributes := #[] }, { accessFlags := 18, nameIndex := 81, descriptorIndex := 78, attributes := #[] }, { accessFlags := 18, nameIndex := 30, descriptorIndex := 88, attributes := #[] }, { accessFlags := 18, nameIndex := 34, descriptorIndex := 88, attributes := #[] }, { accessFlags := 18, nameIndex := 37, descriptorIndex := 88, attributes := #[] }, { accessFlags := 18, nameIndex := 40, descriptorIndex := 88, attributes := #[] }])
  fields := #[{ name := "MAX_SQUARED_POWER", type := .double, accessFlags := 26, slot := 0, constantValue := 0 }, { name := "graph", type := (.object "com/example/wayfold/wayfold/Graph"), accessFlags := 18, slot := 0, constantValue := 0 }, { name := "zoneCount", type := .int, accessFlags := 18, slot := 1, constantValue := 0 }, { name := "firstThruNode", type := .int, accessFlags := 18, slot := 2, constantValue := 0 }, { name := "linkTail", type := (.array .int), accessFlags := 18, slot := 3, constantValue := 0 }, { name := "linkArc", type := (.array .int), accessFlags := 18, slot := 4, constantValue := 0 }, { name := "capacity", type := (.array .double), accessFlags := 18, slot := 5, constantValue := 0 }, { name := "freeFlowTime", type := (.array .double), accessFlags := 18, slot := 6, constantValue := 0 }, { name := "b", type := (.array .double), accessFlags := 18, slot := 7, constantValue := 0 }, { name := "power", type := (.array .double), accessFlags := 18, slot := 8, constantValue := 0 }]
  methods := #[k15m0, k15m1]
  instanceTypes := #[(.object "com/example/wayfold/wayfold/Graph"), .int, .int, (.array .int), (.array .int), (.array .double), (.array .double), (.array .double), (.array .double)]
  staticTypes := #[.double]
  resolved := Array.replicate 162 none
  statics := none }

def pool16 : Array CpInfo := pool [(2, .class_ 4), (1, u "java/lang/Object"), (0, u "<init>"), (0, u "()V"), (35, .class_ 44), (1, u "java/util/Objects"), (60, .methodref 106 107), (0, .class_ 108), (0, .nameAndType 109 110), (0, u "jdk/internal/util/Preconditions"), (0, u "checkIndex"), (0, u "(IILjava/util/function/BiFunction;)I"), (60, u "(II)I")] 12

def k16m0 : Method := { name := "<init>", desc := "()V", sig := { parameters := [], returnType := none }, accessFlags := 2, code := none }
def k16c1 : Code := { maxStack := 3, maxLocals := 2, code := jdk_31_method_17_code, exceptionTable := #[], attributes := #[] }
def k16m1 : Method := { name := "checkIndex", desc := "(II)I", sig := { parameters := [.int, .int], returnType := some .int }, accessFlags := 9, code := some k16c1 }
/-- java/util/Objects -/
def k16 : Class := { plain "java/util/Objects" (some 0) with
  accessFlags := 49
  interfaces := #[]
  cf := some (fileOf pool16 42 #[] #[{ accessFlags := 2, nameIndex := 5, descriptorIndex := 6, attributes := #[] }, { accessFlags := 9, nameIndex := 109, descriptorIndex := 171, attributes := #[] }] 49 2 #[] #[])
  fields := #[]
  methods := #[k16m0, k16m1]
  instanceTypes := #[]
  staticTypes := #[]
  resolved := Array.replicate 184 none
  statics := none }

def pool17 : Array CpInfo := pool [(2, .class_ 4), (1, u "java/lang/Object"), (0, u "<init>"), (0, u "()V"), (17, .class_ 26), (1, u "jdk/internal/util/Preconditions"), (6, u "checkIndex"), (21, .class_ 56), (0, u "jdk/internal/util/Preconditions$4"), (57, .class_ 115), (0, u "jdk/internal/util/Preconditions$1"), (7, u "SIOOBE_FORMATTER"), (0, u "Ljava/util/function/BiFunction;"), (0, .class_ 126), (0, u "jdk/internal/util/Preconditions$2"), (3, u "AIOOBE_FORMATTER"), (0, .class_ 132), (0, u "jdk/internal/util/Preconditions$3"), (3, u "IOOBE_FORMATTER"), (41, u "(IILjava/util/function/BiFunction;)I")] 15

def k17m0 : Method := { name := "<init>", desc := "()V", sig := { parameters := [], returnType := none }, accessFlags := 1, code := none }
def k17c1 : Code := { maxStack := 3, maxLocals := 3, code := jdk_41_method_11_code, exceptionTable := #[], attributes := #[] }
def k17m1 : Method := { name := "checkIndex", desc := "(IILjava/util/function/BiFunction;)I", sig := { parameters := [.int, .int, (.object "java/util/function/BiFunction")], returnType := some .int }, accessFlags := 9, code := some k17c1 }
/-- jdk/internal/util/Preconditions -/
def k17 : Class := { plain "jdk/internal/util/Preconditions" (some 0) with
  accessFlags := 33
  interfaces := #[]
  cf := some (fileOf pool17 24 #[.nestMembers #[55, 131, 125, 114]] #[{ accessFlags := 1, nameIndex := 5, descriptorIndex := 6, attributes := #[] }, { accessFlags := 9, nameIndex := 33, descriptorIndex := 178, attributes := #[] }] 33 2 #[] #[{ accessFlags := 25, nameIndex := 123, descriptorIndex := 124, attributes := #[] }, { accessFlags := 25, nameIndex := 130, descriptorIndex := 124, attributes := #[] }, { accessFlags := 25, nameIndex := 136, descriptorIndex := 124, attributes := #[] }])
  fields := #[{ name := "SIOOBE_FORMATTER", type := (.object "java/util/function/BiFunction"), accessFlags := 25, slot := 0, constantValue := 0 }, { name := "AIOOBE_FORMATTER", type := (.object "java/util/function/BiFunction"), accessFlags := 25, slot := 1, constantValue := 0 }, { name := "IOOBE_FORMATTER", type := (.object "java/util/function/BiFunction"), accessFlags := 25, slot := 2, constantValue := 0 }]
  methods := #[k17m0, k17m1]
  instanceTypes := #[]
  staticTypes := #[(.object "java/util/function/BiFunction"), (.object "java/util/function/BiFunction"), (.object "java/util/function/BiFunction")]
  resolved := Array.replicate 194 none
  statics := none }

def pool18 : Array CpInfo := pool [(5, .methodref 6 7), (0, .class_ 8), (0, .nameAndType 9 10), (0, u "java/lang/Object"), (0, u "<init>"), (0, u "()V"), (0, .fieldref 12 13), (0, .class_ 14), (0, .nameAndType 15 16), (0, u "com/example/wayfold/wayfold/Graph"), (0, u "nodeCount"), (0, u "I"), (0, .fieldref 12 18), (0, .nameAndType 19 20), (0, u "firstArc"), (0, u "[I"), (0, .fieldref 12 22), (0, .nameAndType 23 20), (0, u "arcHead"), (0, .fieldref 12 25), (0, .nameAndType 26 27), (0, u "arcWeight"), (0, u "[J"), (9, .methodref 12 38), (0, .nameAndType 39 40), (0, u "checkNode"), (0, u "(II)V"), (3, .methodref 12 45), (0, .nameAndType 46 47), (0, u "addWeight"), (0, u "(JJ)J"), (2, .methodref 51 52), (0, .class_ 53), (0, .nameAndType 54 55), (0, u "java/lang/System"), (0, u "arraycopy"), (0, u "(Ljava/lang/Object;ILjava/lang/Object;II)V"), (0, .methodref 12 57), (0, .nameAndType 9 58), (0, u "(I[I[I[J)V"), (0, .long 9223372036854775807), (1, .long 18446744073709551615), (18, u "of"), (0, u "(II[I[I[J)Lcom/example/wayfold/wayfold/Graph;"), (7, .class_ 90), (0, u "com/example/wayfold/wayfold/Graph$Reversal"), (4, u "WEIGHT_LIMIT"), (0, u "Ljava/lang/String;"), (1, u "MAX_NODES"), (12, u "(I)I"), (3, u "head")] 25

def k18c0 : Code := { maxStack := 2, maxLocals := 5, code := prog_19_method_1_code, exceptionTable := #[], attributes := #[] }
def k18m0 : Method := { name := "<init>", desc := "(I[I[I[J)V", sig := { parameters := [.int, (.array .int), (.array .int), (.array .long)], returnType := none }, accessFlags := 2, code := some k18c0 }
def k18c1 : Code := { maxStack := 6, maxLocals := 13, code := prog_19_method_2_code, exceptionTable := #[], attributes := #[] }
def k18m1 : Method := { name := "of", desc := "(II[I[I[J)Lcom/example/wayfold/wayfold/Graph;", sig := { parameters := [.int, .int, (.array .int), (.array .int), (.array .long)], returnType := some (.object "com/example/wayfold/wayfold/Graph") }, accessFlags := 9, code := some k18c1 }
def k18c2 : Code := { maxStack := 6, maxLocals := 4, code := prog_19_method_3_code, exceptionTable := #[], attributes := #[] }
def k18m2 : Method := { name := "addWeight", desc := "(JJ)J", sig := { parameters := [.long, .long], returnType := some .long }, accessFlags := 8, code := some k18c2 }
def k18c3 : Code := { maxStack := 4, maxLocals := 2, code := prog_19_method_6_code, exceptionTable := #[], attributes := #[] }
def k18m3 : Method := { name := "checkNode", desc := "(II)V", sig := { parameters := [.int, .int], returnType := none }, accessFlags := 10, code := some k18c3 }
def k18c4 : Code := { maxStack := 2, maxLocals := 2, code := prog_19_method_10_code, exceptionTable := #[], attributes := #[] }
def k18m4 : Method := { name := "firstArc", desc := "(I)I", sig := { parameters := [.int], returnType := some .int }, accessFlags := 0, code := some k18c4 }
def k18c5 : Code := { maxStack := 2, maxLocals := 2, code := prog_19_method_13_code, exceptionTable := #[], attributes := #[] }
def k18m5 : Method := { name := "head", desc := "(I)I", sig := { parameters := [.int], returnType := some .int }, accessFlags := 0, code := some k18c5 }
/-- com/example/wayfold/wayfold/Graph -/
def k18 : Class := { plain "com/example/wayfold/wayfold/Graph" (some 0) with
  accessFlags := 49
  interfaces := #[]
  cf := some (fileOf pool18 12 #[.nestMembers #[89]] #[{ accessFlags := 2, nameIndex := 9, descriptorIndex := 58, attributes := #[] }, { accessFlags := 9, nameIndex := 80, descriptorIndex := 81, attributes := #[] }, { accessFlags := 8, nameIndex := 46, descriptorIndex := 47, attributes := #[] }, { accessFlags := 10, nameIndex := 39, descriptorIndex := 40, attributes := #[] }, { accessFlags := 0, nameIndex := 19, descriptorIndex := 111, attributes := #[] }, { accessFlags := 0, nameIndex := 115, descriptorIndex := 111, attributes := #[] }] 49 6 #[] #[{ accessFlags := 24, nameIndex := 95, descriptorIndex := 96, attributes := #[] }, { accessFlags := 24, nameIndex := 98, descriptorIndex := 16, attributes := #[] }, { accessFlags := 18, nameIndex := 15, descriptorIndex := 16, attributes := #[] }, { accessFlags := 18, nameIndex := 19, descriptorIndex := 20, attributes := #[] }, { accessFlags := 18, nameIndex := 23, descriptorIndex := 20, attributes := #[] }, { accessFlags := 18, nameIndex := 26, descriptorIndex := 27, attributes := #[] }])
  fields := #[{ name := "WEIGHT_LIMIT", type := (.object "java/lang/String"), accessFlags := 24, slot := 0, constantValue := 0 }, { name := "MAX_NODES", type := .int, accessFlags := 24, slot := 1, constantValue := 0 }, { name := "nodeCount", type := .int, accessFlags := 18, slot := 0, constantValue := 0 }, { name := "firstArc", type := (.array .int), accessFlags := 18, slot := 1, constantValue := 0 }, { name := "arcHead", type := (.array .int), accessFlags := 18, slot := 2, constantValue := 0 }, { name := "arcWeight", type := (.array .long), accessFlags := 18, slot := 3, constantValue := 0 }]
  methods := #[k18m0, k18m1, k18m2, k18m3, k18m4, k18m5]
  instanceTypes := #[.int, (.array .int), (.array .int), (.array .long)]
  staticTypes := #[(.object "java/lang/String"), .int]
  resolved := Array.replicate 141 none
  statics := none }

def pool19 : Array CpInfo := pool [(2, .class_ 4), (1, u "java/lang/Object"), (0, u "<init>"), (0, u "()V"), (1, .class_ 10), (1, u "java/lang/System"), (0, u "allowSecurityManager"), (0, u "I"), (16, u "cons"), (0, u "Ljava/io/Console;"), (77, .class_ 110), (1, u "java/lang/System$CallersHolder"), (43, u "initialErrStream"), (0, u "Ljava/io/PrintStream;"), (19, u "security"), (0, u "Ljava/lang/SecurityManager;"), (31, .class_ 209), (0, u "java/lang/System$1"), (7, u "props"), (0, u "Ljava/util/Properties;"), (2, u "lineSeparator"), (0, u "Ljava/lang/String;"), (96, .class_ 321), (1, u "java/lang/System$LoggerFinder"), (5, .class_ 328), (0, u "java/lang/System$Logger"), (67, u "err"), (2, u "out"), (91, u "notSupportedJnuEncoding"), (15, u "in"), (17, u "initialIn"), (0, u "Ljava/io/InputStream;"), (35, u "bootLayer"), (0, u "Ljava/lang/ModuleLayer;"), (99, .class_ 664), (0, u "java/lang/System$2"), (9, u "NEVER"), (2, u "MAYBE"), (49, u "arraycopy"), (0, u "(Ljava/lang/Object;ILjava/lang/Object;II)V"), (72, .class_ 802), (0, u "java/lang/System$Logger$Level")] 31

def k19m0 : Method := { name := "<init>", desc := "()V", sig := { parameters := [], returnType := none }, accessFlags := 2, code := none }
def k19m1 : Method := { name := "arraycopy", desc := "(Ljava/lang/Object;ILjava/lang/Object;II)V", sig := { parameters := [(.object "java/lang/Object"), .int, (.object "java/lang/Object"), .int, .int], returnType := none }, accessFlags := 265, code := none }
/-- java/lang/System -/
def k19 : Class := { plain "java/lang/System" (some 0) with
  accessFlags := 49
  interfaces := #[]
  cf := some (fileOf pool19 8 #[.nestMembers #[319, 327, 801, 108, 663, 208]] #[{ accessFlags := 2, nameIndex := 5, descriptorIndex := 6, attributes := #[] }, { accessFlags := 265, nameIndex := 727, descriptorIndex := 728, attributes := #[] }] 49 2 #[] #[{ accessFlags := 25, nameIndex := 507, descriptorIndex := 526, attributes := #[] }, { accessFlags := 25, nameIndex := 399, descriptorIndex := 155, attributes := #[] }, { accessFlags := 25, nameIndex := 396, descriptorIndex := 155, attributes := #[] }, { accessFlags := 10, nameIndex := 525, descriptorIndex := 526, attributes := #[] }, { accessFlags := 26, nameIndex := 674, descriptorIndex := 12, attributes := #[] }, { accessFlags := 26, nameIndex := 677, descriptorIndex := 12, attributes := #[] }, { accessFlags := 10, nameIndex := 11, descriptorIndex := 12, attributes := #[] }, { accessFlags := 74, nameIndex := 175, descriptorIndex := 176, attributes := #[] }, { accessFlags := 10, nameIndex := 491, descriptorIndex := 222, attributes := #[] }, { accessFlags := 74, nameIndex := 29, descriptorIndex := 30, attributes := #[] }, { accessFlags := 74, nameIndex := 154, descriptorIndex := 155, attributes := #[] }, { accessFlags := 10, nameIndex := 217, descriptorIndex := 218, attributes := #[] }, { accessFlags := 10, nameIndex := 221, descriptorIndex := 222, attributes := #[] }, { accessFlags := 8, nameIndex := 562, descriptorIndex := 563, attributes := #[] }])
  fields := #[{ name := "in", type := (.object "java/io/InputStream"), accessFlags := 25, slot := 0, constantValue := 0 }, { name := "out", type := (.object "java/io/PrintStream"), accessFlags := 25, slot := 1, constantValue := 0 }, { name := "err", type := (.object "java/io/PrintStream"), accessFlags := 25, slot := 2, constantValue := 0 }, { name := "initialIn", type := (.object "java/io/InputStream"), accessFlags := 10, slot := 3, constantValue := 0 }, { name := "NEVER", type := .int, accessFlags := 26, slot := 4, constantValue := 0 }, { name := "MAYBE", type := .int, accessFlags := 26, slot := 5, constantValue := 0 }, { name := "allowSecurityManager", type := .int, accessFlags := 10, slot := 6, constantValue := 0 }, { name := "security", type := (.object "java/lang/SecurityManager"), accessFlags := 74, slot := 7, constantValue := 0 }, { name := "notSupportedJnuEncoding", type := (.object "java/lang/String"), accessFlags := 10, slot := 8, constantValue := 0 }, { name := "cons", type := (.object "java/io/Console"), accessFlags := 74, slot := 9, constantValue := 0 }, { name := "initialErrStream", type := (.object "java/io/PrintStream"), accessFlags := 74, slot := 10, constantValue := 0 }, { name := "props", type := (.object "java/util/Properties"), accessFlags := 10, slot := 11, constantValue := 0 }, { name := "lineSeparator", type := (.object "java/lang/String"), accessFlags := 10, slot := 12, constantValue := 0 }, { name := "bootLayer", type := (.object "java/lang/ModuleLayer"), accessFlags := 8, slot := 13, constantValue := 0 }]
  methods := #[k19m0, k19m1]
  instanceTypes := #[]
  staticTypes := #[(.object "java/io/InputStream"), (.object "java/io/PrintStream"), (.object "java/io/PrintStream"), (.object "java/io/InputStream"), .int, .int, .int, (.object "java/lang/SecurityManager"), (.object "java/lang/String"), (.object "java/io/Console"), (.object "java/io/PrintStream"), (.object "java/util/Properties"), (.object "java/lang/String"), (.object "java/lang/ModuleLayer")]
  resolved := Array.replicate 834 none
  statics := none }

/-- the primitive byte -/
def k20 : Class := { plain "byte" none with kind := .primitive 'B', accessFlags := 0x411 }
/-- [B -/
def k21 : Class := { plain "[B" (some 0) with kind := .array 20 .byte, interfaces := #[9, 10], accessFlags := 1041 }

/-- the primitive int -/
def k22 : Class := { plain "int" none with kind := .primitive 'I', accessFlags := 0x411 }
/-- [I -/
def k23 : Class := { plain "[I" (some 0) with kind := .array 22 .int, interfaces := #[9, 10], accessFlags := 1041 }

/-- the primitive long -/
def k24 : Class := { plain "long" none with kind := .primitive 'J', accessFlags := 0x411 }
/-- [J -/
def k25 : Class := { plain "[J" (some 0) with kind := .array 24 .long, interfaces := #[9, 10], accessFlags := 1041 }

/-- [Ljava/lang/Object; -/
def k26 : Class := { plain "[Ljava/lang/Object;" (some 0) with kind := .array 0 (.object "java/lang/Object"), interfaces := #[9, 10], accessFlags := 1041 }

/-- the primitive double -/
def k27 : Class := { plain "double" none with kind := .primitive 'D', accessFlags := 0x411 }
/-- [D -/
def k28 : Class := { plain "[D" (some 0) with kind := .array 27 .double, interfaces := #[9, 10], accessFlags := 1041 }

def heap : Heap := #[{ cls := 11, slots := #[.long 0, .int 0, .ref 1, .ref 2], vm := .statics 11 },
  { cls := 26, slots := #[], vm := .none },
  { cls := 26, slots := #[], vm := .none }]
def classes : Array Class := #[k0, k1, k2, k3, k4, k5, k6, k7, k8, k9, k10, k11, k12, k13, k14, k15, k16, k17, k18, k19, k20, k21, k22, k23, k24, k25, k26, k27, k28]
def interned : List (Array UInt16 × Addr) := []
def slotsUsed : Nat := 4
def theMethod : MethodId := ⟨1, 1⟩
def args0 : Array Value := #[.int 3, .int 3, .int 3]
def aboutOver (below : List Frame) : State where
  vm := { classes := classes, interned := interned.toArray }
  heap := heap
  slotsUsed := slotsUsed
  threads := #[{ frames := .invoking theMethod args0 :: below }]
def below0 : List Frame := [.native { method := ⟨0, 0⟩, args := #[] }]
def about1 : State := aboutOver below0
def p0 : Program := .bare "" "" ""
def e0 : Env := launch0.env 0 0 0
theorem w_frames : about1.frames = Frame.invoking theMethod args0 :: below0 := rfl
set_option maxRecDepth 65536 in
theorem w_args : argsFit about1.vm theMethod args0 = true := by decide +kernel
set_option maxRecDepth 65536 in
theorem w_heap : heapFits about1 = true := by decide +kernel
set_option maxRecDepth 65536 in
theorem w_runnable : about1.curStatus? = some .runnable := by decide +kernel
set_option maxRecDepth 65536 in
theorem w_alone : about1.alone = true := by decide +kernel
set_option maxRecDepth 65536 in
theorem w_named : about1.methodNamed? x = some theMethod := by decide +kernel
set_option maxRecDepth 65536 in
theorem w_hears : about1.hears theMethod below0 = true := by decide +kernel
set_option maxRecDepth 65536 in
theorem w_ripe : about1.ripe theMethod args0 below0 = true := by decide +kernel
theorem w_running : about1.status = .running := rfl
set_option maxRecDepth 65536 in
theorem w_room : about1.hasRoom e0.platform room_1 = true :=
  launch0.hasRoom_least _ room_1 (by decide +kernel) (by decide +kernel) (by decide +kernel) (by decide +kernel) (by decide +kernel) (by decide +kernel)
theorem allAtoms_all (ts : List Jvm.Cond) (a : Array Jvm.Value) (st : Jvm.State) : (allAtoms ts).before a st = ts.all (fun c => c.before a st) := by
  induction ts with
  | nil => rfl
  | cons c t ih =>
    show (Jvm.Cond.and c (allAtoms t)).before a st = _
    rw [Jvm.Cond.before_and, ih, List.all_cons]
def words1 : List Jvm.Cond := Jvm.Cond.code x code maxLocals ret :: tables_1
/-- a 'code' word, met by the world's own term for the bytes: nothing is compared byte by byte -/
theorem code_word {y : MethodName} {bytes : ByteArray} {mx : Nat} {rt : Option FieldType} {a : Array Value} {s : State} {m : MethodId} {meth : Method} {c : Code} (h1 : s.methodNamed? y = some m) (h2 : s.vm.method? m = some meth) (h3 : meth.code = some c) (h4 : c.code = bytes)
    (h5 : (c.maxLocals == mx && c.exceptionTable.isEmpty && decide (c.maxStack ≤ mostOperands) && decide (meth.sig.returnType = rt) && !meth.locks && decide (parseMethodDescriptor y.desc = some meth.sig)) = true) : (Jvm.Cond.code y bytes mx rt).before a s = true := by
  simp only [Bool.and_eq_true, beq_iff_eq, Bool.not_eq_true', decide_eq_true_eq] at h5
  obtain ⟨⟨⟨⟨⟨g1, g2⟩, g3⟩, g4⟩, g5⟩, g6⟩ := h5
  simp [Cond.before, Cond.holds, Cond.value, h1, h2, h3, h4, g1, g2, g3, g4, g5, g6]
def isCode : Jvm.Cond → Bool
  | .code _ _ _ _ => true
  | _ => false
theorem all_split {L : List Jvm.Cond} {P : Jvm.Cond → Bool} (h1 : L.all (fun c => isCode c || P c) = true) (h2 : ∀ c ∈ L.filter isCode, P c = true) : L.all P = true := by
  refine List.all_eq_true.mpr fun c hc => ?_
  have h := List.all_eq_true.mp h1 c hc
  rcases Bool.eq_false_or_eq_true (isCode c) with hi | hi
  · exact h2 c (List.mem_filter.mpr ⟨hc, hi⟩)
  · simpa [hi] using h
set_option maxRecDepth 65536 in
theorem w_c0 : (Jvm.Cond.code x code maxLocals ret).before args0 about1 = true := code_word (m := ⟨1, 1⟩) (meth := k1m1) (c := k1c1) (by decide +kernel) rfl rfl rfl (by decide +kernel)
set_option maxRecDepth 65536 in
theorem w_c1 : (Jvm.Cond.code ({ cls := "java/util/ArrayList", name := "<init>", desc := "()V" } : Jvm.MethodName) jdk_38_method_2_code (1 : Nat) (Option.none : Option Jvm.ClassFile.FieldType)).before args0 about1 = true := code_word (m := ⟨11, 0⟩) (meth := k11m0) (c := k11c0) (by decide +kernel) rfl rfl rfl (by decide +kernel)
set_option maxRecDepth 65536 in
theorem w_c2 : (Jvm.Cond.code ({ cls := "java/util/AbstractList", name := "<init>", desc := "()V" } : Jvm.MethodName) jdk_39_method_1_code (1 : Nat) (Option.none : Option Jvm.ClassFile.FieldType)).before args0 about1 = true := code_word (m := ⟨7, 0⟩) (meth := k7m0) (c := k7c0) (by decide +kernel) rfl rfl rfl (by decide +kernel)
set_option maxRecDepth 65536 in
theorem w_c3 : (Jvm.Cond.code ({ cls := "java/util/AbstractCollection", name := "<init>", desc := "()V" } : Jvm.MethodName) jdk_22_method_1_code (1 : Nat) (Option.none : Option Jvm.ClassFile.FieldType)).before args0 about1 = true := code_word (m := ⟨4, 0⟩) (meth := k4m0) (c := k4c0) (by decide +kernel) rfl rfl rfl (by decide +kernel)
set_option maxRecDepth 65536 in
theorem w_c4 : (Jvm.Cond.code ({ cls := "java/lang/Object", name := "<init>", desc := "()V" } : Jvm.MethodName) object_method_1_code (1 : Nat) (Option.none : Option Jvm.ClassFile.FieldType)).before args0 about1 = true := code_word (m := ⟨0, 0⟩) (meth := k0m0) (c := k0c0) (by decide +kernel) rfl rfl rfl (by decide +kernel)
set_option maxRecDepth 65536 in
theorem w_c5 : (Jvm.Cond.code ({ cls := "com/example/wayfold/wayfold/TrafficNetwork$Link", name := "<init>", desc := "(IIDDDD)V" } : Jvm.MethodName) prog_58_method_1_code (11 : Nat) (Option.none : Option Jvm.ClassFile.FieldType)).before args0 about1 = true := code_word (m := ⟨13, 0⟩) (meth := k13m0) (c := k13c0) (by decide +kernel) rfl rfl rfl (by decide +kernel)
set_option maxRecDepth 65536 in
theorem w_c6 : (Jvm.Cond.code ({ cls := "java/lang/Record", name := "<init>", desc := "()V" } : Jvm.MethodName) jdk_30_method_1_code (1 : Nat) (Option.none : Option Jvm.ClassFile.FieldType)).before args0 about1 = true := code_word (m := ⟨12, 0⟩) (meth := k12m0) (c := k12c0) (by decide +kernel) rfl rfl rfl (by decide +kernel)
set_option maxRecDepth 65536 in
theorem w_c7 : (Jvm.Cond.code ({ cls := "java/util/ArrayList", name := "add", desc := "(Ljava/lang/Object;)Z" } : Jvm.MethodName) jdk_38_method_25_code (2 : Nat) (Option.some Jvm.ClassFile.FieldType.boolean)).before args0 about1 = true := code_word (m := ⟨11, 7⟩) (meth := k11m7) (c := k11c7) (by decide +kernel) rfl rfl rfl (by decide +kernel)
set_option maxRecDepth 65536 in
theorem w_c8 : (Jvm.Cond.code ({ cls := "java/util/ArrayList", name := "add", desc := "(Ljava/lang/Object;[Ljava/lang/Object;I)V" } : Jvm.MethodName) jdk_38_method_24_code (4 : Nat) (Option.none : Option Jvm.ClassFile.FieldType)).before args0 about1 = true := code_word (m := ⟨11, 6⟩) (meth := k11m6) (c := k11c6) (by decide +kernel) rfl rfl rfl (by decide +kernel)
set_option maxRecDepth 65536 in
theorem w_c9 : (Jvm.Cond.code ({ cls := "java/util/ArrayList", name := "grow", desc := "()[Ljava/lang/Object;" } : Jvm.MethodName) jdk_38_method_7_code (1 : Nat) (Option.some (Jvm.ClassFile.FieldType.array (Jvm.ClassFile.FieldType.object "java/lang/Object")))).before args0 about1 = true := code_word (m := ⟨11, 2⟩) (meth := k11m2) (c := k11c2) (by decide +kernel) rfl rfl rfl (by decide +kernel)
set_option maxRecDepth 65536 in
theorem w_c10 : (Jvm.Cond.code ({ cls := "java/util/ArrayList", name := "grow", desc := "(I)[Ljava/lang/Object;" } : Jvm.MethodName) jdk_38_method_6_code (4 : Nat) (Option.some (Jvm.ClassFile.FieldType.array (Jvm.ClassFile.FieldType.object "java/lang/Object")))).before args0 about1 = true := code_word (m := ⟨11, 1⟩) (meth := k11m1) (c := k11c1) (by decide +kernel) rfl rfl rfl (by decide +kernel)
set_option maxRecDepth 65536 in
theorem w_c11 : (Jvm.Cond.code ({ cls := "java/lang/Math", name := "max", desc := "(II)I" } : Jvm.MethodName) jdk_29_method_65_code (2 : Nat) (Option.some Jvm.ClassFile.FieldType.int)).before args0 about1 = true := code_word (m := ⟨14, 1⟩) (meth := k14m1) (c := k14c1) (by decide +kernel) rfl rfl rfl (by decide +kernel)
set_option maxRecDepth 65536 in
theorem w_c12 : (Jvm.Cond.code ({ cls := "com/example/wayfold/wayfold/TrafficNetwork", name := "<init>", desc := "(IIILjava/util/List;)V" } : Jvm.MethodName) prog_57_method_1_code (12 : Nat) (Option.none : Option Jvm.ClassFile.FieldType)).before args0 about1 = true := code_word (m := ⟨15, 0⟩) (meth := k15m0) (c := k15c0) (by decide +kernel) rfl rfl rfl (by decide +kernel)
set_option maxRecDepth 65536 in
theorem w_c13 : (Jvm.Cond.code ({ cls := "java/util/ArrayList", name := "size", desc := "()I" } : Jvm.MethodName) jdk_38_method_8_code (1 : Nat) (Option.some Jvm.ClassFile.FieldType.int)).before args0 about1 = true := code_word (m := ⟨11, 3⟩) (meth := k11m3) (c := k11c3) (by decide +kernel) rfl rfl rfl (by decide +kernel)
set_option maxRecDepth 65536 in
theorem w_c14 : (Jvm.Cond.code ({ cls := "java/util/ArrayList", name := "get", desc := "(I)Ljava/lang/Object;" } : Jvm.MethodName) jdk_38_method_20_code (2 : Nat) (Option.some (Jvm.ClassFile.FieldType.object "java/lang/Object"))).before args0 about1 = true := code_word (m := ⟨11, 5⟩) (meth := k11m5) (c := k11c5) (by decide +kernel) rfl rfl rfl (by decide +kernel)
set_option maxRecDepth 65536 in
theorem w_c15 : (Jvm.Cond.code ({ cls := "java/util/Objects", name := "checkIndex", desc := "(II)I" } : Jvm.MethodName) jdk_31_method_17_code (2 : Nat) (Option.some Jvm.ClassFile.FieldType.int)).before args0 about1 = true := code_word (m := ⟨16, 1⟩) (meth := k16m1) (c := k16c1) (by decide +kernel) rfl rfl rfl (by decide +kernel)
set_option maxRecDepth 65536 in
theorem w_c16 : (Jvm.Cond.code ({ cls := "jdk/internal/util/Preconditions", name := "checkIndex", desc := "(IILjava/util/function/BiFunction;)I" } : Jvm.MethodName) jdk_41_method_11_code (3 : Nat) (Option.some Jvm.ClassFile.FieldType.int)).before args0 about1 = true := code_word (m := ⟨17, 1⟩) (meth := k17m1) (c := k17c1) (by decide +kernel) rfl rfl rfl (by decide +kernel)
set_option maxRecDepth 65536 in
theorem w_c17 : (Jvm.Cond.code ({ cls := "java/util/ArrayList", name := "elementData", desc := "(I)Ljava/lang/Object;" } : Jvm.MethodName) jdk_38_method_18_code (2 : Nat) (Option.some (Jvm.ClassFile.FieldType.object "java/lang/Object"))).before args0 about1 = true := code_word (m := ⟨11, 4⟩) (meth := k11m4) (c := k11c4) (by decide +kernel) rfl rfl rfl (by decide +kernel)
set_option maxRecDepth 65536 in
theorem w_c18 : (Jvm.Cond.code ({ cls := "com/example/wayfold/wayfold/TrafficNetwork$Link", name := "capacity", desc := "()D" } : Jvm.MethodName) prog_58_method_7_code (1 : Nat) (Option.some Jvm.ClassFile.FieldType.double)).before args0 about1 = true := code_word (m := ⟨13, 3⟩) (meth := k13m3) (c := k13c3) (by decide +kernel) rfl rfl rfl (by decide +kernel)
set_option maxRecDepth 65536 in
theorem w_c19 : (Jvm.Cond.code ({ cls := "com/example/wayfold/wayfold/TrafficNetwork$Link", name := "freeFlowTime", desc := "()D" } : Jvm.MethodName) prog_58_method_8_code (1 : Nat) (Option.some Jvm.ClassFile.FieldType.double)).before args0 about1 = true := code_word (m := ⟨13, 4⟩) (meth := k13m4) (c := k13c4) (by decide +kernel) rfl rfl rfl (by decide +kernel)
set_option maxRecDepth 65536 in
theorem w_c20 : (Jvm.Cond.code ({ cls := "com/example/wayfold/wayfold/TrafficNetwork$Link", name := "b", desc := "()D" } : Jvm.MethodName) prog_58_method_9_code (1 : Nat) (Option.some Jvm.ClassFile.FieldType.double)).before args0 about1 = true := code_word (m := ⟨13, 5⟩) (meth := k13m5) (c := k13c5) (by decide +kernel) rfl rfl rfl (by decide +kernel)
set_option maxRecDepth 65536 in
theorem w_c21 : (Jvm.Cond.code ({ cls := "com/example/wayfold/wayfold/TrafficNetwork$Link", name := "power", desc := "()D" } : Jvm.MethodName) prog_58_method_10_code (1 : Nat) (Option.some Jvm.ClassFile.FieldType.double)).before args0 about1 = true := code_word (m := ⟨13, 6⟩) (meth := k13m6) (c := k13c6) (by decide +kernel) rfl rfl rfl (by decide +kernel)
set_option maxRecDepth 65536 in
theorem w_c22 : (Jvm.Cond.code ({ cls := "com/example/wayfold/wayfold/TrafficNetwork$Link", name := "tail", desc := "()I" } : Jvm.MethodName) prog_58_method_5_code (1 : Nat) (Option.some Jvm.ClassFile.FieldType.int)).before args0 about1 = true := code_word (m := ⟨13, 1⟩) (meth := k13m1) (c := k13c1) (by decide +kernel) rfl rfl rfl (by decide +kernel)
set_option maxRecDepth 65536 in
theorem w_c23 : (Jvm.Cond.code ({ cls := "com/example/wayfold/wayfold/TrafficNetwork$Link", name := "head", desc := "()I" } : Jvm.MethodName) prog_58_method_6_code (1 : Nat) (Option.some Jvm.ClassFile.FieldType.int)).before args0 about1 = true := code_word (m := ⟨13, 2⟩) (meth := k13m2) (c := k13c2) (by decide +kernel) rfl rfl rfl (by decide +kernel)
set_option maxRecDepth 65536 in
theorem w_c24 : (Jvm.Cond.code ({ cls := "com/example/wayfold/wayfold/Graph", name := "of", desc := "(II[I[I[J)Lcom/example/wayfold/wayfold/Graph;" } : Jvm.MethodName) prog_19_method_2_code (13 : Nat) (Option.some (Jvm.ClassFile.FieldType.object "com/example/wayfold/wayfold/Graph"))).before args0 about1 = true := code_word (m := ⟨18, 1⟩) (meth := k18m1) (c := k18c1) (by decide +kernel) rfl rfl rfl (by decide +kernel)
set_option maxRecDepth 65536 in
theorem w_c25 : (Jvm.Cond.code ({ cls := "com/example/wayfold/wayfold/Graph", name := "checkNode", desc := "(II)V" } : Jvm.MethodName) prog_19_method_6_code (2 : Nat) (Option.none : Option Jvm.ClassFile.FieldType)).before args0 about1 = true := code_word (m := ⟨18, 3⟩) (meth := k18m3) (c := k18c3) (by decide +kernel) rfl rfl rfl (by decide +kernel)
set_option maxRecDepth 65536 in
theorem w_c26 : (Jvm.Cond.code ({ cls := "com/example/wayfold/wayfold/Graph", name := "addWeight", desc := "(JJ)J" } : Jvm.MethodName) prog_19_method_3_code (4 : Nat) (Option.some Jvm.ClassFile.FieldType.long)).before args0 about1 = true := code_word (m := ⟨18, 2⟩) (meth := k18m2) (c := k18c2) (by decide +kernel) rfl rfl rfl (by decide +kernel)
set_option maxRecDepth 65536 in
theorem w_c27 : (Jvm.Cond.code ({ cls := "com/example/wayfold/wayfold/Graph", name := "<init>", desc := "(I[I[I[J)V" } : Jvm.MethodName) prog_19_method_1_code (5 : Nat) (Option.none : Option Jvm.ClassFile.FieldType)).before args0 about1 = true := code_word (m := ⟨18, 0⟩) (meth := k18m0) (c := k18c0) (by decide +kernel) rfl rfl rfl (by decide +kernel)
set_option maxRecDepth 65536 in
theorem w_c28 : (Jvm.Cond.code ({ cls := "com/example/wayfold/wayfold/Graph", name := "firstArc", desc := "(I)I" } : Jvm.MethodName) prog_19_method_10_code (2 : Nat) (Option.some Jvm.ClassFile.FieldType.int)).before args0 about1 = true := code_word (m := ⟨18, 4⟩) (meth := k18m4) (c := k18c4) (by decide +kernel) rfl rfl rfl (by decide +kernel)
set_option maxRecDepth 65536 in
theorem w_c29 : (Jvm.Cond.code ({ cls := "com/example/wayfold/wayfold/TrafficNetwork", name := "head", desc := "(I)I" } : Jvm.MethodName) prog_57_method_7_code (2 : Nat) (Option.some Jvm.ClassFile.FieldType.int)).before args0 about1 = true := code_word (m := ⟨15, 1⟩) (meth := k15m1) (c := k15c1) (by decide +kernel) rfl rfl rfl (by decide +kernel)
set_option maxRecDepth 65536 in
theorem w_c30 : (Jvm.Cond.code ({ cls := "com/example/wayfold/wayfold/Graph", name := "head", desc := "(I)I" } : Jvm.MethodName) prog_19_method_13_code (2 : Nat) (Option.some Jvm.ClassFile.FieldType.int)).before args0 about1 = true := code_word (m := ⟨18, 5⟩) (meth := k18m5) (c := k18c5) (by decide +kernel) rfl rfl rfl (by decide +kernel)
def codes1 : List Jvm.Cond := [Jvm.Cond.code x code maxLocals ret, Jvm.Cond.code ({ cls := "java/util/ArrayList", name := "<init>", desc := "()V" } : Jvm.MethodName) jdk_38_method_2_code (1 : Nat) (Option.none : Option Jvm.ClassFile.FieldType), Jvm.Cond.code ({ cls := "java/util/AbstractList", name := "<init>", desc := "()V" } : Jvm.MethodName) jdk_39_method_1_code (1 : Nat) (Option.none : Option Jvm.ClassFile.FieldType), Jvm.Cond.code ({ cls := "java/util/AbstractCollection", name := "<init>", desc := "()V" } : Jvm.MethodName) jdk_22_method_1_code (1 : Nat) (Option.none : Option Jvm.ClassFile.FieldType), Jvm.Cond.code ({ cls := "java/lang/Object", name := "<init>", desc := "()V" } : Jvm.MethodName) object_method_1_code (1 : Nat) (Option.none : Option Jvm.ClassFile.FieldType), Jvm.Cond.code ({ cls := "com/example/wayfold/wayfold/TrafficNetwork$Link", name := "<init>", desc := "(IIDDDD)V" } : Jvm.MethodName) prog_58_method_1_code (11 : Nat) (Option.none : Option Jvm.ClassFile.FieldType), Jvm.Cond.code ({ cls := "java/lang/Record", name := "<init>", desc := "()V" } : Jvm.MethodName) jdk_30_method_1_code (1 : Nat) (Option.none : Option Jvm.ClassFile.FieldType), Jvm.Cond.code ({ cls := "java/util/ArrayList", name := "add", desc := "(Ljava/lang/Object;)Z" } : Jvm.MethodName) jdk_38_method_25_code (2 : Nat) (Option.some Jvm.ClassFile.FieldType.boolean), Jvm.Cond.code ({ cls := "java/util/ArrayList", name := "add", desc := "(Ljava/lang/Object;[Ljava/lang/Object;I)V" } : Jvm.MethodName) jdk_38_method_24_code (4 : Nat) (Option.none : Option Jvm.ClassFile.FieldType), Jvm.Cond.code ({ cls := "java/util/ArrayList", name := "grow", desc := "()[Ljava/lang/Object;" } : Jvm.MethodName) jdk_38_method_7_code (1 : Nat) (Option.some (Jvm.ClassFile.FieldType.array (Jvm.ClassFile.FieldType.object "java/lang/Object"))), Jvm.Cond.code ({ cls := "java/util/ArrayList", name := "grow", desc := "(I)[Ljava/lang/Object;" } : Jvm.MethodName) jdk_38_method_6_code (4 : Nat) (Option.some (Jvm.ClassFile.FieldType.array (Jvm.ClassFile.FieldType.object "java/lang/Object"))), Jvm.Cond.code ({ cls := "java/lang/Math", name := "max", desc := "(II)I" } : Jvm.MethodName) jdk_29_method_65_code (2 : Nat) (Option.some Jvm.ClassFile.FieldType.int), Jvm.Cond.code ({ cls := "com/example/wayfold/wayfold/TrafficNetwork", name := "<init>", desc := "(IIILjava/util/List;)V" } : Jvm.MethodName) prog_57_method_1_code (12 : Nat) (Option.none : Option Jvm.ClassFile.FieldType), Jvm.Cond.code ({ cls := "java/util/ArrayList", name := "size", desc := "()I" } : Jvm.MethodName) jdk_38_method_8_code (1 : Nat) (Option.some Jvm.ClassFile.FieldType.int), Jvm.Cond.code ({ cls := "java/util/ArrayList", name := "get", desc := "(I)Ljava/lang/Object;" } : Jvm.MethodName) jdk_38_method_20_code (2 : Nat) (Option.some (Jvm.ClassFile.FieldType.object "java/lang/Object")), Jvm.Cond.code ({ cls := "java/util/Objects", name := "checkIndex", desc := "(II)I" } : Jvm.MethodName) jdk_31_method_17_code (2 : Nat) (Option.some Jvm.ClassFile.FieldType.int), Jvm.Cond.code ({ cls := "jdk/internal/util/Preconditions", name := "checkIndex", desc := "(IILjava/util/function/BiFunction;)I" } : Jvm.MethodName) jdk_41_method_11_code (3 : Nat) (Option.some Jvm.ClassFile.FieldType.int), Jvm.Cond.code ({ cls := "java/util/ArrayList", name := "elementData", desc := "(I)Ljava/lang/Object;" } : Jvm.MethodName) jdk_38_method_18_code (2 : Nat) (Option.some (Jvm.ClassFile.FieldType.object "java/lang/Object")), Jvm.Cond.code ({ cls := "com/example/wayfold/wayfold/TrafficNetwork$Link", name := "capacity", desc := "()D" } : Jvm.MethodName) prog_58_method_7_code (1 : Nat) (Option.some Jvm.ClassFile.FieldType.double), Jvm.Cond.code ({ cls := "com/example/wayfold/wayfold/TrafficNetwork$Link", name := "freeFlowTime", desc := "()D" } : Jvm.MethodName) prog_58_method_8_code (1 : Nat) (Option.some Jvm.ClassFile.FieldType.double), Jvm.Cond.code ({ cls := "com/example/wayfold/wayfold/TrafficNetwork$Link", name := "b", desc := "()D" } : Jvm.MethodName) prog_58_method_9_code (1 : Nat) (Option.some Jvm.ClassFile.FieldType.double), Jvm.Cond.code ({ cls := "com/example/wayfold/wayfold/TrafficNetwork$Link", name := "power", desc := "()D" } : Jvm.MethodName) prog_58_method_10_code (1 : Nat) (Option.some Jvm.ClassFile.FieldType.double), Jvm.Cond.code ({ cls := "com/example/wayfold/wayfold/TrafficNetwork$Link", name := "tail", desc := "()I" } : Jvm.MethodName) prog_58_method_5_code (1 : Nat) (Option.some Jvm.ClassFile.FieldType.int), Jvm.Cond.code ({ cls := "com/example/wayfold/wayfold/TrafficNetwork$Link", name := "head", desc := "()I" } : Jvm.MethodName) prog_58_method_6_code (1 : Nat) (Option.some Jvm.ClassFile.FieldType.int), Jvm.Cond.code ({ cls := "com/example/wayfold/wayfold/Graph", name := "of", desc := "(II[I[I[J)Lcom/example/wayfold/wayfold/Graph;" } : Jvm.MethodName) prog_19_method_2_code (13 : Nat) (Option.some (Jvm.ClassFile.FieldType.object "com/example/wayfold/wayfold/Graph")), Jvm.Cond.code ({ cls := "com/example/wayfold/wayfold/Graph", name := "checkNode", desc := "(II)V" } : Jvm.MethodName) prog_19_method_6_code (2 : Nat) (Option.none : Option Jvm.ClassFile.FieldType), Jvm.Cond.code ({ cls := "com/example/wayfold/wayfold/Graph", name := "addWeight", desc := "(JJ)J" } : Jvm.MethodName) prog_19_method_3_code (4 : Nat) (Option.some Jvm.ClassFile.FieldType.long), Jvm.Cond.code ({ cls := "com/example/wayfold/wayfold/Graph", name := "<init>", desc := "(I[I[I[J)V" } : Jvm.MethodName) prog_19_method_1_code (5 : Nat) (Option.none : Option Jvm.ClassFile.FieldType), Jvm.Cond.code ({ cls := "com/example/wayfold/wayfold/Graph", name := "firstArc", desc := "(I)I" } : Jvm.MethodName) prog_19_method_10_code (2 : Nat) (Option.some Jvm.ClassFile.FieldType.int), Jvm.Cond.code ({ cls := "com/example/wayfold/wayfold/TrafficNetwork", name := "head", desc := "(I)I" } : Jvm.MethodName) prog_57_method_7_code (2 : Nat) (Option.some Jvm.ClassFile.FieldType.int), Jvm.Cond.code ({ cls := "com/example/wayfold/wayfold/Graph", name := "head", desc := "(I)I" } : Jvm.MethodName) prog_19_method_13_code (2 : Nat) (Option.some Jvm.ClassFile.FieldType.int)]
set_option maxRecDepth 65536 in
theorem codes_eq : words1.filter isCode = codes1 := rfl
theorem w_codes : ∀ c ∈ words1.filter isCode, c.before args0 about1 = true := by
  rw [codes_eq]
  intro c hc
  simp only [codes1, List.mem_cons, List.not_mem_nil, or_false] at hc
  rcases hc with rfl | rfl | rfl | rfl | rfl | rfl | rfl | rfl | rfl | rfl | rfl | rfl | rfl | rfl | rfl | rfl | rfl | rfl | rfl | rfl | rfl | rfl | rfl | rfl | rfl | rfl | rfl | rfl | rfl | rfl | rfl
  · exact w_c0
  · exact w_c1
  · exact w_c2
  · exact w_c3
  · exact w_c4
  · exact w_c5
  · exact w_c6
  · exact w_c7
  · exact w_c8
  · exact w_c9
  · exact w_c10
  · exact w_c11
  · exact w_c12
  · exact w_c13
  · exact w_c14
  · exact w_c15
  · exact w_c16
  · exact w_c17
  · exact w_c18
  · exact w_c19
  · exact w_c20
  · exact w_c21
  · exact w_c22
  · exact w_c23
  · exact w_c24
  · exact w_c25
  · exact w_c26
  · exact w_c27
  · exact w_c28
  · exact w_c29
  · exact w_c30
set_option maxRecDepth 65536 in
theorem w_t1 : (words1.take 24).all (fun c => isCode c || c.before args0 about1) = true := by decide +kernel
set_option maxRecDepth 65536 in
theorem w_t2 : ((words1.drop 24).take 24).all (fun c => isCode c || c.before args0 about1) = true := by decide +kernel
set_option maxRecDepth 65536 in
theorem w_t3 : (((words1.drop 24).drop 24).take 24).all (fun c => isCode c || c.before args0 about1) = true := by decide +kernel
set_option maxRecDepth 65536 in
theorem w_t4 : ((((words1.drop 24).drop 24).drop 24).take 24).all (fun c => isCode c || c.before args0 about1) = true := by decide +kernel
set_option maxRecDepth 65536 in
theorem w_t5 : (((((words1.drop 24).drop 24).drop 24).drop 24).take 24).all (fun c => isCode c || c.before args0 about1) = true := by decide +kernel
set_option maxRecDepth 65536 in
theorem w_t6 : ((((((words1.drop 24).drop 24).drop 24).drop 24).drop 24).take 24).all (fun c => isCode c || c.before args0 about1) = true := by decide +kernel
set_option maxRecDepth 65536 in
theorem w_t7 : (((((((words1.drop 24).drop 24).drop 24).drop 24).drop 24).drop 24).take 24).all (fun c => isCode c || c.before args0 about1) = true := by decide +kernel
set_option maxRecDepth 65536 in
theorem w_t8 : ((((((((words1.drop 24).drop 24).drop 24).drop 24).drop 24).drop 24).drop 24).take 24).all (fun c => isCode c || c.before args0 about1) = true := by decide +kernel
set_option maxRecDepth 65536 in
theorem w_t9 : (((((((((words1.drop 24).drop 24).drop 24).drop 24).drop 24).drop 24).drop 24).drop 24).take 24).all (fun c => isCode c || c.before args0 about1) = true := by decide +kernel
set_option maxRecDepth 65536 in
theorem w_t10 : (((((((((words1.drop 24).drop 24).drop 24).drop 24).drop 24).drop 24).drop 24).drop 24).drop 24).all (fun c => isCode c || c.before args0 about1) = true := by decide +kernel
theorem w_tables : (allAtoms (Jvm.Cond.code x code maxLocals ret :: tables_1)).before args0 about1 = true := by
  rw [allAtoms_all]
  show words1.all (fun c => c.before args0 about1) = true
  refine all_split ?_ w_codes
  rw [← List.take_append_drop 24 words1, List.all_append, w_t1, ← List.take_append_drop 24 (words1.drop 24), List.all_append, w_t2, ← List.take_append_drop 24 ((words1.drop 24).drop 24), List.all_append, w_t3, ← List.take_append_drop 24 (((words1.drop 24).drop 24).drop 24), List.all_append, w_t4, ← List.take_append_drop 24 ((((words1.drop 24).drop 24).drop 24).drop 24), List.all_append, w_t5, ← List.take_append_drop 24 (((((words1.drop 24).drop 24).drop 24).drop 24).drop 24), List.all_append, w_t6, ← List.take_append_drop 24 ((((((words1.drop 24).drop 24).drop 24).drop 24).drop 24).drop 24), List.all_append, w_t7, ← List.take_append_drop 24 (((((((words1.drop 24).drop 24).drop 24).drop 24).drop 24).drop 24).drop 24), List.all_append, w_t8, ← List.take_append_drop 24 ((((((((words1.drop 24).drop 24).drop 24).drop 24).drop 24).drop 24).drop 24).drop 24), List.all_append, w_t9, w_t10]
  rfl
set_option maxRecDepth 65536 in
theorem w_rest : rest_1_c.before args0 about1 = true := by decide +kernel
set_option maxRecDepth 65536 in
theorem w_case : (Jvm.Cond.and given_1 narrow_1).before args0 about1 = true := by decide +kernel
theorem w_applies : (headSpec (Jvm.Cond.code x code maxLocals ret :: tables_1) room_1).applies x e0.platform about1 = true :=
  (Spec.applies_iff w_frames).mpr ⟨w_running, w_runnable, w_alone, w_named, w_hears, w_ripe, w_room, w_tables⟩
theorem atStart : AtStart classFile x code maxLocals ret World_1 tables_1 room_1 Calls_1 rest_1 Pre_1 launch0 p0 e0 about1 theMethod args0 below0 :=
  ⟨lists_1, trivial, launch0.admits_env _ _ _, launch0.least_env, fairChoices_fair.cas, fairChoices_fair.clock, w_frames, w_args, w_heap, w_applies, trivial, w_rest, w_case⟩
end start1
theorem witness_1 : WitnessClaimed_1 := ⟨start1.p0, start1.e0, start1.about1, start1.theMethod, start1.args0, start1.below0, start1.atStart⟩
end Jvm.Pilot.@@N@@

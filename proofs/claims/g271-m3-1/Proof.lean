import JvmDerived
import JvmDerived.Pilot.@@N@@Statement
import JvmDerived.Pilot.@@N@@Code
set_option linter.unusedVariables false
set_option linter.unusedSimpArgs false
namespace Jvm.Pilot.@@N@@
open Jvm Jvm.ClassFile Sem Op Lib Jvm.Free Jvm.Stand Jvm.LawKit Jvm.RoadKit Bundle Jvm.Pilot.@@N@@.Jvm.D
section OwnKit
variable {p : Program} {l : Launch} {e : Env} {R : Room} {s : State} {m : MethodId} {args : Array Value} {below : List Frame} {meth : Method} {c : Code} {T : State} {locs : List Loc} {cells slots : Nat} {bytes : ByteArray} {Φ : State → Prop} {pc pc' : Nat} {Ls Ls' : Array Slot} {rest : List Value} {Z : State} {a0 : Array Value} {h : Heap}
/-- the run from A ends in a state with the property Φ -/
def GoP (p : Program) (e : Env) (below : List Frame) (Φ : State → Prop) (A : State) : Prop := ∃ t, Steps p.tables e below A t ∧ Φ t
theorem own_step {A B : State} (h : ∀ t, Steps p.tables e below B t → Steps p.tables e below A t) (g : GoP p e below Φ B) : GoP p e below Φ A := by
  obtain ⟨t, h1, h2⟩ := g; exact ⟨t, h t h1, h2⟩
theorem own_trans {A B : State} (h : Steps p.tables e below A B) (g : GoP p e below Φ B) : GoP p e below Φ A := by
  obtain ⟨t, h1, h2⟩ := g; exact ⟨t, h.trans h1, h2⟩
theorem own_w {L : List Jvm.Cond} (hw : ∀ d ∈ L, d.before a0 Z = true) (i : Nat) {d : Jvm.Cond} (q : L[i]? = some d) : d.before a0 Z = true := hw d (List.mem_of_getElem? q)

theorem own_iload (X : Stand p l e R s m args below meth c T locs cells slots) (hx : p.tables.exec = Jvm.exec) (hby : c.code = bytes) {k : Nat} {x : Int32} (hd : decode bytes pc = .ok (.iload k, 2)) (hl : Ls[k]? = some (.val (.int x))) (hp : pc + 2 = pc') (k : GoP p e below Φ (T.setTop (mkF m pc' Ls (.int x :: rest)))) : GoP p e below Φ (T.setTop (mkF m pc Ls (rest))) := by
  subst hp
  exact own_step (fun t q => XS.iload X.here hx rfl (hb hby hd) hl q) k
theorem own_iloadN (X : Stand p l e R s m args below meth c T locs cells slots) (hx : p.tables.exec = Jvm.exec) (hby : c.code = bytes) {k : Fin 4} {x : Int32} (hd : decode bytes pc = .ok (.iload_n k, 1)) (hl : Ls[k.val]? = some (.val (.int x))) (hp : pc + 1 = pc') (k : GoP p e below Φ (T.setTop (mkF m pc' Ls (.int x :: rest)))) : GoP p e below Φ (T.setTop (mkF m pc Ls (rest))) := by
  subst hp
  exact own_step (fun t q => XS.iloadN X.here hx rfl (hb hby hd) hl q) k
theorem own_istore (X : Stand p l e R s m args below meth c T locs cells slots) (hx : p.tables.exec = Jvm.exec) (hby : c.code = bytes) {k : Nat} {x : Int32} (hd : decode bytes pc = .ok (.istore k, 2)) (hl : storeLocals Ls k (.int x) = some Ls') (hp : pc + 2 = pc') (k : GoP p e below Φ (T.setTop (mkF m pc' Ls' (rest)))) : GoP p e below Φ (T.setTop (mkF m pc Ls (.int x :: rest))) := by
  subst hp
  exact own_step (fun t q => XS.istore X.here hx rfl (hb hby hd) rfl hl q) k
theorem own_istoreN (X : Stand p l e R s m args below meth c T locs cells slots) (hx : p.tables.exec = Jvm.exec) (hby : c.code = bytes) {k : Fin 4} {x : Int32} (hd : decode bytes pc = .ok (.istore_n k, 1)) (hl : storeLocals Ls k.val (.int x) = some Ls') (hp : pc + 1 = pc') (k : GoP p e below Φ (T.setTop (mkF m pc' Ls' (rest)))) : GoP p e below Φ (T.setTop (mkF m pc Ls (.int x :: rest))) := by
  subst hp
  exact own_step (fun t q => XS.istoreN X.here hx rfl (hb hby hd) rfl hl q) k
theorem own_aload (X : Stand p l e R s m args below meth c T locs cells slots) (hx : p.tables.exec = Jvm.exec) (hby : c.code = bytes) {k : Nat} {x : Value} (hd : decode bytes pc = .ok (.aload k, 2)) (hl : Ls[k]? = some (.val x)) (hr : x.isRef = true) (hp : pc + 2 = pc') (k : GoP p e below Φ (T.setTop (mkF m pc' Ls (x :: rest)))) : GoP p e below Φ (T.setTop (mkF m pc Ls (rest))) := by
  subst hp
  exact own_step (fun t q => XS.aload X.here hx rfl (hb hby hd) hl hr q) k
theorem own_aloadN (X : Stand p l e R s m args below meth c T locs cells slots) (hx : p.tables.exec = Jvm.exec) (hby : c.code = bytes) {k : Fin 4} {x : Value} (hd : decode bytes pc = .ok (.aload_n k, 1)) (hl : Ls[k.val]? = some (.val x)) (hr : x.isRef = true) (hp : pc + 1 = pc') (k : GoP p e below Φ (T.setTop (mkF m pc' Ls (x :: rest)))) : GoP p e below Φ (T.setTop (mkF m pc Ls (rest))) := by
  subst hp
  exact own_step (fun t q => XS.aloadN X.here hx rfl (hb hby hd) hl hr q) k
theorem own_astore (X : Stand p l e R s m args below meth c T locs cells slots) (hx : p.tables.exec = Jvm.exec) (hby : c.code = bytes) {k : Nat} {x : Value} (hd : decode bytes pc = .ok (.astore k, 2)) (hr : x.isRef = true) (hl : storeLocals Ls k x = some Ls') (hp : pc + 2 = pc') (k : GoP p e below Φ (T.setTop (mkF m pc' Ls' (rest)))) : GoP p e below Φ (T.setTop (mkF m pc Ls (x :: rest))) := by
  subst hp
  exact own_step (fun t q => XS.astore X.here hx rfl (hb hby hd) rfl hr hl q) k
theorem own_astoreN (X : Stand p l e R s m args below meth c T locs cells slots) (hx : p.tables.exec = Jvm.exec) (hby : c.code = bytes) {k : Fin 4} {x : Value} (hd : decode bytes pc = .ok (.astore_n k, 1)) (hr : x.isRef = true) (hl : storeLocals Ls k.val x = some Ls') (hp : pc + 1 = pc') (k : GoP p e below Φ (T.setTop (mkF m pc' Ls' (rest)))) : GoP p e below Φ (T.setTop (mkF m pc Ls (x :: rest))) := by
  subst hp
  exact own_step (fun t q => XS.astoreN X.here hx rfl (hb hby hd) rfl hr hl q) k
theorem own_iadd (X : Stand p l e R s m args below meth c T locs cells slots) (hx : p.tables.exec = Jvm.exec) (hby : c.code = bytes) {x y : Int32} (hd : decode bytes pc = .ok (.iadd, 1)) (hp : pc + 1 = pc') (k : GoP p e below Φ (T.setTop (mkF m pc' Ls (.int (x + y) :: rest)))) : GoP p e below Φ (T.setTop (mkF m pc Ls (.int y :: .int x :: rest))) := by
  subst hp
  exact own_step (fun t q => XS.iadd X.here hx rfl (hb hby hd) rfl q) k
theorem own_isub (X : Stand p l e R s m args below meth c T locs cells slots) (hx : p.tables.exec = Jvm.exec) (hby : c.code = bytes) {x y : Int32} (hd : decode bytes pc = .ok (.isub, 1)) (hp : pc + 1 = pc') (k : GoP p e below Φ (T.setTop (mkF m pc' Ls (.int (x - y) :: rest)))) : GoP p e below Φ (T.setTop (mkF m pc Ls (.int y :: .int x :: rest))) := by
  subst hp
  exact own_step (fun t q => XS.isub X.here hx rfl (hb hby hd) rfl q) k
theorem own_iand (X : Stand p l e R s m args below meth c T locs cells slots) (hx : p.tables.exec = Jvm.exec) (hby : c.code = bytes) {x y : Int32} (hd : decode bytes pc = .ok (.iand, 1)) (hp : pc + 1 = pc') (k : GoP p e below Φ (T.setTop (mkF m pc' Ls (.int (x &&& y) :: rest)))) : GoP p e below Φ (T.setTop (mkF m pc Ls (.int y :: .int x :: rest))) := by
  subst hp
  exact own_step (fun t q => XS.iand X.here hx rfl (hb hby hd) rfl q) k
theorem own_iushr (X : Stand p l e R s m args below meth c T locs cells slots) (hx : p.tables.exec = Jvm.exec) (hby : c.code = bytes) {x : Int32} {y : Int32} (hd : decode bytes pc = .ok (.iushr, 1)) (hp : pc + 1 = pc') (k : GoP p e below Φ (T.setTop (mkF m pc' Ls (.int ((x.toUInt32 >>> (y &&& 31).toUInt32).toInt32) :: rest)))) : GoP p e below Φ (T.setTop (mkF m pc Ls (.int y :: .int x :: rest))) := by
  subst hp
  exact own_step (fun t q => XS.iushr X.here hx rfl (hb hby hd) rfl q) k
theorem own_ineg (X : Stand p l e R s m args below meth c T locs cells slots) (hx : p.tables.exec = Jvm.exec) (hby : c.code = bytes) {x : Int32} (hd : decode bytes pc = .ok (.ineg, 1)) (hp : pc + 1 = pc') (k : GoP p e below Φ (T.setTop (mkF m pc' Ls (.int (-x) :: rest)))) : GoP p e below Φ (T.setTop (mkF m pc Ls (.int x :: rest))) := by
  subst hp
  exact own_step (fun t q => XS.ineg X.here hx rfl (hb hby hd) rfl q) k
theorem own_iconst (X : Stand p l e R s m args below meth c T locs cells slots) (hx : p.tables.exec = Jvm.exec) (hby : c.code = bytes) {i : Int} {v : Int32} (hd : decode bytes pc = .ok (.iconst i, 1)) (hv : Int32.ofInt i = v) (hp : pc + 1 = pc') (k : GoP p e below Φ (T.setTop (mkF m pc' Ls (.int v :: rest)))) : GoP p e below Φ (T.setTop (mkF m pc Ls (rest))) := by
  subst hp hv
  exact own_step (fun t q => XS.iconst X.here hx rfl (hb hby hd) q) k
theorem own_bipush (X : Stand p l e R s m args below meth c T locs cells slots) (hx : p.tables.exec = Jvm.exec) (hby : c.code = bytes) {i : Int} {v : Int32} (hd : decode bytes pc = .ok (.bipush i, 2)) (hv : (Int8.ofInt i).toInt32 = v) (hp : pc + 2 = pc') (k : GoP p e below Φ (T.setTop (mkF m pc' Ls (.int v :: rest)))) : GoP p e below Φ (T.setTop (mkF m pc Ls (rest))) := by
  subst hp hv
  exact own_step (fun t q => XS.bipush X.here hx rfl (hb hby hd) q) k
theorem own_aconst_null (X : Stand p l e R s m args below meth c T locs cells slots) (hx : p.tables.exec = Jvm.exec) (hby : c.code = bytes) (hd : decode bytes pc = .ok (.aconst_null, 1)) (hp : pc + 1 = pc') (k : GoP p e below Φ (T.setTop (mkF m pc' Ls (.null :: rest)))) : GoP p e below Φ (T.setTop (mkF m pc Ls (rest))) := by
  subst hp
  exact own_step (fun t q => XS.aconstNull X.here hx rfl (hb hby hd) q) k
theorem own_dup (X : Stand p l e R s m args below meth c T locs cells slots) (hx : p.tables.exec = Jvm.exec) (hby : c.code = bytes) {x : Value} (hd : decode bytes pc = .ok (.dup, 1)) (hc : x.category = 1) (hp : pc + 1 = pc') (k : GoP p e below Φ (T.setTop (mkF m pc' Ls (x :: x :: rest)))) : GoP p e below Φ (T.setTop (mkF m pc Ls (x :: rest))) := by
  subst hp
  exact own_step (fun t q => XS.dup X.here hx rfl (hb hby hd) rfl hc q) k
theorem own_pop (X : Stand p l e R s m args below meth c T locs cells slots) (hx : p.tables.exec = Jvm.exec) (hby : c.code = bytes) {x : Value} (hd : decode bytes pc = .ok (.pop, 1)) (hc : x.category = 1) (hp : pc + 1 = pc') (k : GoP p e below Φ (T.setTop (mkF m pc' Ls (rest)))) : GoP p e below Φ (T.setTop (mkF m pc Ls (x :: rest))) := by
  subst hp
  exact own_step (fun t q => XS.pop X.here hx rfl (hb hby hd) rfl hc q) k
theorem own_dup_x1 (X : Stand p l e R s m args below meth c T locs cells slots) (hx : p.tables.exec = Jvm.exec) (hby : c.code = bytes) {x y : Value} (hd : decode bytes pc = .ok (.dup_x1, 1)) (hc : x.category = 1) (hc' : y.category = 1) (hp : pc + 1 = pc') (k : GoP p e below Φ (T.setTop (mkF m pc' Ls (x :: y :: x :: rest)))) : GoP p e below Φ (T.setTop (mkF m pc Ls (x :: y :: rest))) := by
  subst hp
  exact own_step (fun t q => XS.dupX1 X.here hx rfl (hb hby hd) rfl hc hc' q) k
theorem own_iinc (X : Stand p l e R s m args below meth c T locs cells slots) (hx : p.tables.exec = Jvm.exec) (hby : c.code = bytes) {k0 : Nat} {i : Int} {x v : Int32} (hd : decode bytes pc = .ok (.iinc k0 i, 3)) (hl : Ls[k0]? = some (.val (.int x))) (hv : Int32.ofInt i = v) (hl' : storeLocals Ls k0 (.int (x + v)) = some Ls') (hp : pc + 3 = pc') (k : GoP p e below Φ (T.setTop (mkF m pc' Ls' (rest)))) : GoP p e below Φ (T.setTop (mkF m pc Ls (rest))) := by
  subst hp hv
  exact own_step (fun t q => XS.iinc X.here hx rfl (hb hby hd) hl hl' q) k
theorem own_goto (X : Stand p l e R s m args below meth c T locs cells slots) (hx : p.tables.exec = Jvm.exec) (hby : c.code = bytes) {o : Int} (hd : decode bytes pc = .ok (.goto o, 3)) (ho : 0 ≤ (pc : Int) + o) (hp : ((pc : Int) + o).toNat = pc') (k : GoP p e below Φ (T.setTop (mkF m pc' Ls (rest)))) : GoP p e below Φ (T.setTop (mkF m pc Ls (rest))) :=
  own_step (fun t q => XS.goto X.here hx rfl (pc0 := pc) (pc' := pc') rfl (hb hby hd) ho hp q) k
theorem own_ifY (X : Stand p l e R s m args below meth c T locs cells slots) (hx : p.tables.exec = Jvm.exec) (hby : c.code = bytes) {cd : ClassFile.Cond} {o : Int} {x : Int32} (hd : decode bytes pc = .ok (.ifCond cd o, 3)) (hc : ifCond.holds cd x = true) (ho : 0 ≤ (pc : Int) + o) (hp : ((pc : Int) + o).toNat = pc') (k : GoP p e below Φ (T.setTop (mkF m pc' Ls (rest)))) : GoP p e below Φ (T.setTop (mkF m pc Ls (.int x :: rest))) :=
  own_step (fun t q => XS.ifYes X.here hx rfl (pc0 := pc) (pc' := pc') rfl (hb hby hd) rfl hc ho hp q) k
theorem own_ifN (X : Stand p l e R s m args below meth c T locs cells slots) (hx : p.tables.exec = Jvm.exec) (hby : c.code = bytes) {cd : ClassFile.Cond} {o : Int} {x : Int32} (hd : decode bytes pc = .ok (.ifCond cd o, 3)) (hc : ifCond.holds cd x = false) (hp : pc + 3 = pc') (k : GoP p e below Φ (T.setTop (mkF m pc' Ls (rest)))) : GoP p e below Φ (T.setTop (mkF m pc Ls (.int x :: rest))) := by
  subst hp
  exact own_step (fun t q => XS.ifNo X.here hx rfl (hb hby hd) rfl hc q) k
theorem own_icmpY (X : Stand p l e R s m args below meth c T locs cells slots) (hx : p.tables.exec = Jvm.exec) (hby : c.code = bytes) {cd : ClassFile.Cond} {o : Int} {x y : Int32} (hd : decode bytes pc = .ok (.if_icmp cd o, 3)) (hc : if_icmp.holds cd x y = true) (ho : 0 ≤ (pc : Int) + o) (hp : ((pc : Int) + o).toNat = pc') (k : GoP p e below Φ (T.setTop (mkF m pc' Ls (rest)))) : GoP p e below Φ (T.setTop (mkF m pc Ls (.int y :: .int x :: rest))) :=
  own_step (fun t q => XS.icmpYes X.here hx rfl (pc0 := pc) (pc' := pc') rfl (hb hby hd) rfl hc ho hp q) k
theorem own_icmpN (X : Stand p l e R s m args below meth c T locs cells slots) (hx : p.tables.exec = Jvm.exec) (hby : c.code = bytes) {cd : ClassFile.Cond} {o : Int} {x y : Int32} (hd : decode bytes pc = .ok (.if_icmp cd o, 3)) (hc : if_icmp.holds cd x y = false) (hp : pc + 3 = pc') (k : GoP p e below Φ (T.setTop (mkF m pc' Ls (rest)))) : GoP p e below Φ (T.setTop (mkF m pc Ls (.int y :: .int x :: rest))) := by
  subst hp
  exact own_step (fun t q => XS.icmpNo X.here hx rfl (hb hby hd) rfl hc q) k
theorem own_acmp (X : Stand p l e R s m args below meth c T locs cells slots) (hx : p.tables.exec = Jvm.exec) (hby : c.code = bytes) {cd : ACond} {x y : Value} {o : Int} (hd : decode bytes pc = .ok (.if_acmp cd o, 3)) (h1 : x.isRef = true) (h2 : y.isRef = true) {same : Bool} (hq : decide (x = y) = same) (ho : 0 ≤ (pc : Int) + o) (hp : pc' = if acV cd same = true then ((pc : Int) + o).toNat else pc + 3) (k : GoP p e below Φ (T.setTop (mkF m pc' Ls (rest)))) : GoP p e below Φ (T.setTop (mkF m pc Ls (y :: x :: rest))) :=
  own_step (fun t q => Jvm.RoadKit.acmp (g := mkF m pc Ls (y :: x :: rest)) X hx rfl h1 h2 (pc0 := pc) (pc' := pc') (same := same) rfl (hb hby hd) rfl hq ho hp q) k
theorem own_ldcI (X : Stand p l e R s m args below meth c T locs cells slots) (hx : p.tables.exec = Jvm.exec) (hby : c.code = bytes) (hZ : Z.Warmed39 s.vm) {own : String} {i : Nat} {v : Int32} (hown : s.vm.findClass own = some m.cls) (w : (Jvm.Cond.constant own i v).before a0 Z = true) (hd : decode bytes pc = .ok (.ldc i, 2)) (hp : pc + 2 = pc') (k : GoP p e below Φ (T.setTop (mkF m pc' Ls (.int v :: rest)))) : GoP p e below Φ (T.setTop (mkF m pc Ls (rest))) := by
  subst hp
  exact own_step (fun t q => Jvm.Stand.ldcI X hx hown (mvT hZ w) rfl (hb hby hd) q) k
theorem own_getF (X : Stand p l e R s m args below meth c T locs cells slots) (hx : p.tables.exec = Jvm.exec) (hby : c.code = bytes) (hZ : Z.Warmed39 s.vm) {own R0 O n d host : String} {index : Nat} (hown : s.vm.findClass own = some m.cls) (w : (Jvm.Cond.fieldLink own index R0 n d).before a0 Z = true ∨ (Jvm.Cond.fieldLinkNest own index R0 n d host).before a0 Z = true) (via : Via Z R0 O n d) (eT : T.heap = h) {a : Addr} {v : Value} (F : Fld Z h a O n d v) (hd : decode bytes pc = .ok (.getfield index, 3)) (hp : pc + 3 = pc') (k : ∀ T' : State, Stand p l e R s m args below meth c T' locs cells slots → T'.heap = h → GoP p e below Φ (T'.setTop (mkF m pc' Ls (v :: rest)))) : GoP p e below Φ (T.setTop (mkF m pc Ls (.ref a :: rest))) := by
  subst hp
  obtain ⟨T', X', e', st'⟩ := getF X hx hZ hown w via eT F (g := mkF m pc Ls (.ref a :: rest)) rfl rfl (hb hby hd)
  exact own_step st' (k T' X' e')
theorem own_getS (X : Stand p l e R s m args below meth c T locs cells slots) (hx : p.tables.exec = Jvm.exec) (hby : c.code = bytes) (hZ : Z.Warmed39 s.vm) {own R0 O n d host : String} {index : Nat} (hown : s.vm.findClass own = some m.cls) (w : (Jvm.Cond.fieldLink own index R0 n d).before a0 Z = true ∨ (Jvm.Cond.fieldLinkNest own index R0 n d host).before a0 Z = true) (via : Via Z R0 O n d) (eT : T.heap = h) {v : Value} (F : Sta Z h O n d v) (hd : decode bytes pc = .ok (.getstatic index, 3)) (hp : pc + 3 = pc') (k : ∀ T' : State, Stand p l e R s m args below meth c T' locs cells slots → T'.heap = h → GoP p e below Φ (T'.setTop (mkF m pc' Ls (v :: rest)))) : GoP p e below Φ (T.setTop (mkF m pc Ls (rest))) := by
  subst hp
  obtain ⟨T', X', e', st'⟩ := getS2 X hx hZ hown w via eT F (g := mkF m pc Ls rest) rfl (hb hby hd)
  exact own_step st' (k T' X' e')
theorem own_putF (X : Stand p l e R s m args below meth c T locs cells slots) (hx : p.tables.exec = Jvm.exec) (hby : c.code = bytes) (hZ : Z.Warmed39 s.vm) {own R0 O n d host : String} {index : Nat} (hown : s.vm.findClass own = some m.cls) (w : (Jvm.Cond.fieldLink own index R0 n d).before a0 Z = true ∨ (Jvm.Cond.fieldLinkNest own index R0 n d host).before a0 Z = true) (via : Via Z R0 O n d) (eT : T.heap = h) {C : String} {kk : Nat} {ty : FieldType} {a : Addr} {v old : Value} (F : Fld Z h a O n d old) (E : Exa Z h a C) (L : (Jvm.Cond.lays C O n d).before a0 Z = true ∨ ((Jvm.Cond.laysFinal C O n d).before a0 Z = true ∧ own = O ∧ meth.name = "<init>")) (wi : (Jvm.Cond.instantiable C kk).before a0 Z = true) (hty : parseFieldDescriptor d = some ty) (hn : narrow ty v = v) (hf : fits ty v = true) (hd : decode bytes pc = .ok (.putfield index, 3)) (hp : pc + 3 = pc') (k : ∀ (T' : State) (h' : Heap), Stand p l e R s m args below meth c T' (locs ++ [⟨a, Jvm.RoadKit.slotOf Z O n d⟩]) cells slots → T'.heap = h' → Wr h h' a (Jvm.RoadKit.slotOf Z O n d) v → GoP p e below Φ (T'.setTop (mkF m pc' Ls rest))) : GoP p e below Φ (T.setTop (mkF m pc Ls (v :: .ref a :: rest))) := by
  subst hp
  obtain ⟨T', h', X', e', W', st'⟩ := putF X hx hZ hown w via eT F E L wi hty hn hf (g := mkF m pc Ls (v :: .ref a :: rest)) rfl rfl (hb hby hd)
  exact own_step st' (k T' h' X' e' W')
/-- a contract of one body at one heap: with these arguments it returns, and Q says what it leaves -/
def Con (l : Launch) (Z : State) (y : MethodName) (bytes : ByteArray) (maxL : Nat) (ret : Option FieldType) (ws : List Jvm.Cond) (rm : Room) (as' : Array Value) (h0 : Heap) (Q : Option Value → Heap → List Loc → Prop) : Prop :=
  MetFree l y (head1 (Jvm.Cond.code y bytes maxL ret :: ws) rm) (fun a U => a = as' ∧ Z.Warmed39 U.vm ∧ U.heap = h0) (fun _ _ _ _ _ => True) (fun _ U o U' => ∃ v L, o = .returned v ∧ Q v U'.heap L ∧ FrameEnd U o U' L rm.cells rm.slots)
/-- where a body may end: at a state that stands, with a value that Q takes -/
def Fin (p : Program) (l : Launch) (e : Env) (R : Room) (s : State) (m : MethodId) (args : Array Value) (below : List Frame) (meth : Method) (c : Code) (Q : Option Value → State → List Loc → Prop) (Φ : State → Prop) : Prop :=
  ∀ (T : State) (locs : List Loc) (cells slots : Nat) (v : Option Value), Stand p l e R s m args below meth c T locs cells slots → (meth.sig.returnType = none → v = none) → Q v T locs → cells ≤ R.cells → slots ≤ R.slots →
    ∃ fs, (∀ (f : JFrame) (acts : List Action), f.method = m → f.locked = none → f.entered = [] → (doReturn e (T.setTop f) acts v).1 = T.setFrames fs) ∧ Φ (T.setFrames fs)
theorem Con.of {y : MethodName} {maxL : Nat} {ret : Option FieldType} {ws : List Jvm.Cond} {rm : Room} {as' : Array Value} {h0 : Heap} {Q : Option Value → Heap → List Loc → Prop} (hpn : plainFor y = true)
    (body : ∀ (p : Program) (e : Env) (s : State) (m : MethodId) (below : List Frame) (meth : Method) (c : Code) (T : State), Stand p l e rm s m as' below meth c T [] 0 0 → p.tables.exec = Jvm.exec → c.code = bytes → c.maxLocals = maxL → s.vm.findClass y.cls = some m.cls → meth.name = y.name → meth.sig.returnType = ret → T.heap = h0 → Z.Warmed39 s.vm → s.heap = h0 →
      ∀ Φ : State → Prop, Fin p l e rm s m as' below meth c (fun v T L => Q v T.heap L) Φ → GoP p e below Φ (T.setTop (entryFrame m as' maxL))) : Con l Z y bytes maxL ret ws rm as' h0 Q := by
  refine MetFree.of_bodySF hpn hisR ?_
  intro p e s m args below meth c s₁ Bd hml0 hP hK
  obtain ⟨rfl, hZ, hh⟩ := hP
  have e0 : s₁.heap = h0 := by rw [← hh, Bd.state]; rfl
  have hlk : meth.locks = false := Bd.notSynchronized
  obtain ⟨t, h1, o, h2⟩ := body p e s m below meth c s₁ (Stand.of_body Bd) Bd.exec Bd.bytes hml0 (findClass_of_methodNamed Bd.named) (name_of_methodNamed Bd.named Bd.method).1 Bd.returns e0 hZ hh
    (fun t => ∃ o, t.status = .running ∧ Ended t below o ∧ ∃ v L, o = .returned v ∧ Q v t.heap L ∧ FrameEnd s o t L rm.cells rm.slots)
    (fun T locs cells slots v X hv hQ hc hs => by
      obtain ⟨fs, hr, hrun, hended, hW, hsame⟩ := X.leave (v := v) hv hlk
      exact ⟨fs, hr, _, hrun, hended, v, locs, rfl, hQ, ⟨_, rfl⟩, hW, hsame.mono hc hs⟩)
  exact ⟨t, o, h1, h2⟩
theorem own_retV (X : Stand p l e R s m args below meth c T locs cells slots) (hx : p.tables.exec = Jvm.exec) (hby : c.code = bytes) {Q : Option Value → State → List Loc → Prop} (fin : Fin p l e R s m args below meth c Q Φ) {t : FieldType} (hret : meth.sig.returnType = some t) {w : Value} {i : Instr} (hn : narrow t w = w)
    (hi : (i = .ireturn ∧ (t = .int ∨ t = .boolean ∨ t = .byte ∨ t = .char ∨ t = .short) ∧ ∃ z, w = .int z) ∨ (i = .lreturn ∧ t = .long ∧ ∃ z, w = .long z) ∨ (i = .dreturn ∧ t = .double ∧ ∃ z, w = .double z) ∨ (i = .freturn ∧ t = .float ∧ ∃ z, w = .float z) ∨ (i = .areturn ∧ t.isReference = true ∧ w.isRef = true))
    (hd : decode bytes pc = .ok (i, 1)) (hc : cells ≤ R.cells) (hs : slots ≤ R.slots) (hQ : Q (some w) T locs) : GoP p e below Φ (T.setTop (mkF m pc Ls (w :: rest))) := by
  obtain ⟨fs, hr, hΦ⟩ := fin _ _ _ _ (some w) X (fun q => by rw [hret] at q; cases q) hQ hc hs
  exact ⟨_, retOut X hx hret hn hi (hb hby hd) hr, hΦ⟩
theorem own_retI (X : Stand p l e R s m args below meth c T locs cells slots) (hx : p.tables.exec = Jvm.exec) (hby : c.code = bytes) {Q : Option Value → State → List Loc → Prop} (fin : Fin p l e R s m args below meth c Q Φ) (hret : meth.sig.returnType = some .int) {z : Int32} (hd : decode bytes pc = .ok (.ireturn, 1)) (hc : cells ≤ R.cells) (hs : slots ≤ R.slots) (hQ : Q (some (.int z)) T locs) : GoP p e below Φ (T.setTop (mkF m pc Ls (.int z :: rest))) :=
  own_retV X hx hby fin hret rfl (Or.inl ⟨rfl, Or.inl rfl, z, rfl⟩) hd hc hs hQ
theorem own_retN (X : Stand p l e R s m args below meth c T locs cells slots) (hx : p.tables.exec = Jvm.exec) (hby : c.code = bytes) {Q : Option Value → State → List Loc → Prop} (fin : Fin p l e R s m args below meth c Q Φ) {t : FieldType} (hret : meth.sig.returnType = some t) (ht : t = .int ∨ t = .boolean ∨ t = .byte ∨ t = .char ∨ t = .short) {z : Int32} (hn : narrow t (.int z) = .int z) (hd : decode bytes pc = .ok (.ireturn, 1)) (hc : cells ≤ R.cells) (hs : slots ≤ R.slots) (hQ : Q (some (.int z)) T locs) : GoP p e below Φ (T.setTop (mkF m pc Ls (.int z :: rest))) :=
  own_retV X hx hby fin hret hn (Or.inl ⟨rfl, ht, z, rfl⟩) hd hc hs hQ
theorem own_retA (X : Stand p l e R s m args below meth c T locs cells slots) (hx : p.tables.exec = Jvm.exec) (hby : c.code = bytes) {Q : Option Value → State → List Loc → Prop} (fin : Fin p l e R s m args below meth c Q Φ) {t : FieldType} (hret : meth.sig.returnType = some t) (ht : t.isReference = true) {w : Value} (hw : w.isRef = true) (hn : narrow t w = w) (hd : decode bytes pc = .ok (.areturn, 1)) (hc : cells ≤ R.cells) (hs : slots ≤ R.slots) (hQ : Q (some w) T locs) : GoP p e below Φ (T.setTop (mkF m pc Ls (w :: rest))) :=
  own_retV X hx hby fin hret hn (Or.inr (Or.inr (Or.inr (Or.inr ⟨rfl, ht, hw⟩)))) hd hc hs hQ
theorem own_ret0 (X : Stand p l e R s m args below meth c T locs cells slots) (hx : p.tables.exec = Jvm.exec) (hby : c.code = bytes) {Q : Option Value → State → List Loc → Prop} (fin : Fin p l e R s m args below meth c Q Φ) (hret : meth.sig.returnType = none) (hd : decode bytes pc = .ok (.return_, 1)) (hc : cells ≤ R.cells) (hs : slots ≤ R.slots) (hQ : Q none T locs) : GoP p e below Φ (T.setTop (mkF m pc Ls ([]))) := by
  obtain ⟨fs, hr, hΦ⟩ := fin _ _ _ _ none X (fun _ => rfl) hQ hc hs
  exact ⟨_, X.returnOut hx hret (hb hby hd) hr, hΦ⟩
theorem own_callS (X : Stand p l e R s m args below meth c T locs cells slots) (hx : p.tables.exec = Jvm.exec) (hby : c.code = bytes) (hZ : Z.Warmed39 s.vm) (hml : Ls.size = c.maxLocals) {own : String} {index : Nat} {y : MethodName} (hown : s.vm.findClass own = some m.cls) (w1 : (Jvm.Cond.methodLink own index y).before a0 Z = true) (w2 : (Jvm.Cond.static y).before a0 Z = true) (w3 : (Jvm.Cond.initialized y.cls).before a0 Z = true) {bytes' : ByteArray} {maxL : Nat} {ret : Option FieldType} (w4 : (Jvm.Cond.code y bytes' maxL ret).before a0 Z = true) (hy : y.cls ≠ "java/lang/invoke/MethodHandle" ∧ y.cls ≠ "java/lang/invoke/VarHandle") {rm : Room} {Q : Option Value → Heap → List Loc → Prop} (eT : T.heap = h) (W : Nat) (hf : rm.frames + 1 ≤ R.frames) (hl : W + (maxL + 11) + rm.locals ≤ R.locals) (hc : cells + rm.cells ≤ R.cells) (hs : slots + rm.slots ≤ R.slots) {argsL rest : List Value} {st : List Value} (hlen : ∀ sig, parseMethodDescriptor y.desc = some sig → argsL.length = sig.parameters.length) (hst : st = argsL.reverse ++ rest) (hM : Con l Z y bytes' maxL ret [] rm argsL.toArray h Q) (hW : (rest.map fun v => v.category).sum ≤ W) (hd : decode bytes pc = .ok (.invokestatic index, 3)) (hp : pc + 3 = pc') (k : ∀ (v : Option Value) (T' : State) (L : List Loc), Stand p l e R s m args below meth c T' (locs ++ L) (cells + rm.cells) (slots + rm.slots) → Q v T'.heap L → GoP p e below Φ (T'.setTop (mkF m pc' Ls (v.toList ++ rest)))) : GoP p e below Φ (T.setTop (mkF m pc Ls st)) := by
  obtain ⟨v, _, ⟨T', L', k', n'⟩, -, X', ⟨L, hQ, l1, y1, z1⟩, st'⟩ := Jvm.LawKit.callS X hx (y := y) hown (mvT hZ w1) (mvT hZ w2) (mvT hZ w3) (mvT hZ w4) hy (backOf (W := W) hM hZ w4 w3 hf hl) (g := mkF m pc Ls st) rfl hml (argsL := argsL) (rest := rest) hlen hst (by show 2 * 0 + _ ≤ _; omega) (hb hby hd) (fun _ _ => ⟨rfl, eT, hc, hs⟩)
  dsimp only [Pt.U, Pt.locs, Pt.cells, Pt.slots] at X' l1 y1 z1 st' hQ
  subst l1 y1 z1 hp
  exact own_step st' (k _ _ _ X' hQ)
theorem own_callI (X : Stand p l e R s m args below meth c T locs cells slots) (hx : p.tables.exec = Jvm.exec) (hby : c.code = bytes) (hZ : Z.Warmed39 s.vm) (hml : Ls.size = c.maxLocals) {own : String} {index : Nat} {y : MethodName} (hown : s.vm.findClass own = some m.cls) {a : Addr} (hn : y.name = "<init>") (w1 : (Jvm.Cond.methodLink own index y).before a0 Z = true) (w2 : (Jvm.Cond.instanceMethod y).before a0 Z = true) (w3 : (Jvm.Cond.initialized y.cls).before a0 Z = true) {bytes' : ByteArray} {maxL : Nat} (w4 : (Jvm.Cond.code y bytes' maxL none).before a0 Z = true) (hy : y.cls ≠ "java/lang/invoke/MethodHandle" ∧ y.cls ≠ "java/lang/invoke/VarHandle") {rm : Room} {Q : Option Value → Heap → List Loc → Prop} (eT : T.heap = h) (W : Nat) (hf : rm.frames + 1 ≤ R.frames) (hl : W + (maxL + 11) + rm.locals ≤ R.locals) (hc : cells + rm.cells ≤ R.cells) (hs : slots + rm.slots ≤ R.slots) {argsL rest : List Value} {st : List Value} (hlen : ∀ sig, parseMethodDescriptor y.desc = some sig → argsL.length = sig.parameters.length) (hst : st = argsL.reverse ++ .ref a :: rest) (hW : (rest.map fun v => v.category).sum ≤ W) (hM : Con l Z y bytes' maxL none [] rm (.ref a :: argsL).toArray h Q) (hd : decode bytes pc = .ok (.invokespecial index, 3)) (hp : pc + 3 = pc') (k : ∀ (v : Option Value) (T' : State) (L : List Loc), Stand p l e R s m args below meth c T' (locs ++ L) (cells + rm.cells) (slots + rm.slots) → Q v T'.heap L → GoP p e below Φ (T'.setTop (mkF m pc' Ls (v.toList ++ rest)))) : GoP p e below Φ (T.setTop (mkF m pc Ls st)) := by
  obtain ⟨v, _, ⟨T', L', k', n'⟩, -, X', ⟨L, hQ, l1, y1, z1⟩, st'⟩ := X.specialBack hx (y := y) hn hown (mvT hZ w1) (mvT hZ w2) (mvT hZ w4) hy (backOf (W := W) hM hZ w4 w3 hf hl) (g := mkF m pc Ls st) rfl hml (Steps.refl _) (a := a) (argsL := argsL) (rest := rest) hlen hst (by show 2 * 0 + _ ≤ _; omega) (hb hby hd) (fun _ _ => ⟨rfl, eT, hc, hs⟩)
  dsimp only [Pt.U, Pt.locs, Pt.cells, Pt.slots] at X' l1 y1 z1 st' hQ
  subst l1 y1 z1 hp
  exact own_trans st' (k _ _ _ X' hQ)
theorem own_callV (X : Stand p l e R s m args below meth c T locs cells slots) (hx : p.tables.exec = Jvm.exec) (hby : c.code = bytes) (hZ : Z.Warmed39 s.vm) (hml : Ls.size = c.maxLocals) {own : String} {index : Nat} {y : MethodName} (hown : s.vm.findClass own = some m.cls) {C : String} {b : Addr} (w1 : (Jvm.Cond.methodLink own index y).before a0 Z = true) (w2 : (Jvm.Cond.declares y).before a0 Z = true) (w5 : (Jvm.Cond.selects C y y).before a0 Z = true) (w6 : (Jvm.Cond.instanceMethod y).before a0 Z = true) (w3 : (Jvm.Cond.initialized y.cls).before a0 Z = true) {bytes' : ByteArray} {maxL : Nat} {ret : Option FieldType} (w4 : (Jvm.Cond.code y bytes' maxL ret).before a0 Z = true) (hy : y.cls ≠ "java/lang/invoke/MethodHandle" ∧ y.cls ≠ "java/lang/invoke/VarHandle") {rm : Room} {Q : Option Value → Heap → List Loc → Prop} (eT : T.heap = h) (W : Nat) (hf : rm.frames + 1 ≤ R.frames) (hl : W + (maxL + 11) + rm.locals ≤ R.locals) (hc : cells + rm.cells ≤ R.cells) (hs : slots + rm.slots ≤ R.slots) {argsL rest : List Value} {st : List Value} (hlen : ∀ sig, parseMethodDescriptor y.desc = some sig → argsL.length = sig.parameters.length) (hst : st = argsL.reverse ++ .ref b :: rest) (hW : (rest.map fun v => v.category).sum ≤ W) (E : Exa Z h b C) (hM : Con l Z y bytes' maxL ret [] rm (.ref b :: argsL).toArray h Q) (hd : decode bytes pc = .ok (.invokevirtual index, 3)) (hp : pc + 3 = pc') (k : ∀ (v : Option Value) (T' : State) (L : List Loc), Stand p l e R s m args below meth c T' (locs ++ L) (cells + rm.cells) (slots + rm.slots) → Q v T'.heap L → GoP p e below Φ (T'.setTop (mkF m pc' Ls (v.toList ++ rest)))) : GoP p e below Φ (T.setTop (mkF m pc Ls st)) := by
  obtain ⟨cq, kq, qa, qb, qc⟩ := isOf hZ eT E
  obtain ⟨v, _, ⟨T', L', k', n'⟩, -, X', ⟨L, hQ, l1, y1, z1⟩, st'⟩ := X.virtualBack hx (y := y) (z := y) hown (mvT hZ w1) (mvT hZ w2) (notFace_of_selects (args := #[]) (mvT hZ w5)) (mvT hZ w5) (mvT hZ w6) hy (backOf (W := W) hM hZ w4 w3 hf hl) qa qc (g := mkF m pc Ls st) rfl hml (Steps.refl _) (argsL := argsL) (rest := rest) hlen hst (by show 2 * 0 + _ ≤ _; omega) (hb hby hd) (fun _ _ => ⟨rfl, eT, hc, hs⟩)
  dsimp only [Pt.U, Pt.locs, Pt.cells, Pt.slots] at X' l1 y1 z1 st' hQ
  subst l1 y1 z1 hp
  exact own_trans st' (k _ _ _ X' hQ)
theorem own_callU (X : Stand p l e R s m args below meth c T locs cells slots) (hx : p.tables.exec = Jvm.exec) (hby : c.code = bytes) (hZ : Z.Warmed39 s.vm) (hml : Ls.size = c.maxLocals) {own : String} {index : Nat} {x0 y : MethodName} (hown : s.vm.findClass own = some m.cls) {C owner : String} {b : Addr} (w1 : (Jvm.Cond.methodLink own index x0).before a0 Z = true) (ws : (Jvm.Cond.sameMethod x0.cls owner x0.name x0.desc).before a0 Z = true) (w2 : (Jvm.Cond.declares ⟨owner, x0.name, x0.desc⟩).before a0 Z = true) (w5 : (Jvm.Cond.selects C x0 y).before a0 Z = true) (w6 : (Jvm.Cond.instanceMethod y).before a0 Z = true) (w3 : (Jvm.Cond.initialized y.cls).before a0 Z = true) {bytes' : ByteArray} {maxL : Nat} {ret : Option FieldType} (w4 : (Jvm.Cond.code y bytes' maxL ret).before a0 Z = true) (hy : owner ≠ "java/lang/invoke/MethodHandle" ∧ owner ≠ "java/lang/invoke/VarHandle") {rm : Room} {Q : Option Value → Heap → List Loc → Prop} (eT : T.heap = h) (W : Nat) (hf : rm.frames + 1 ≤ R.frames) (hl : W + (maxL + 11) + rm.locals ≤ R.locals) (hc : cells + rm.cells ≤ R.cells) (hs : slots + rm.slots ≤ R.slots) {argsL rest : List Value} {st : List Value} (hlen : ∀ sig, parseMethodDescriptor x0.desc = some sig → argsL.length = sig.parameters.length) (hst : st = argsL.reverse ++ .ref b :: rest) (hW : (rest.map fun v => v.category).sum ≤ W) (E : Exa Z h b C) (hM : Con l Z y bytes' maxL ret [] rm (.ref b :: argsL).toArray h Q) (hd : decode bytes pc = .ok (.invokevirtual index, 3)) (hp : pc + 3 = pc') (k : ∀ (v : Option Value) (T' : State) (L : List Loc), Stand p l e R s m args below meth c T' (locs ++ L) (cells + rm.cells) (slots + rm.slots) → Q v T'.heap L → GoP p e below Φ (T'.setTop (mkF m pc' Ls (v.toList ++ rest)))) : GoP p e below Φ (T.setTop (mkF m pc Ls st)) := by
  obtain ⟨cq, kq, qa, qb, qc⟩ := isOf hZ eT E
  obtain ⟨v, _, ⟨T', L', k', n'⟩, -, X', ⟨L, hQ, l1, y1, z1⟩, st'⟩ := X.virtualBackUp hx (x := x0) (y := y) hown (mvT hZ w1) (mvT hZ ws) (mvT hZ w2) hy (mvT hZ w5) (mvT hZ w6) (backOf (W := W) hM hZ w4 w3 hf hl) qa qc (g := mkF m pc Ls st) rfl hml (Steps.refl _) (argsL := argsL) (rest := rest) hlen hst (by show 2 * 0 + _ ≤ _; omega) (hb hby hd) (fun _ _ => ⟨rfl, eT, hc, hs⟩)
  dsimp only [Pt.U, Pt.locs, Pt.cells, Pt.slots] at X' l1 y1 z1 st' hQ
  subst l1 y1 z1 hp
  exact own_trans st' (k _ _ _ X' hQ)
theorem own_callF (X : Stand p l e R s m args below meth c T locs cells slots) (hx : p.tables.exec = Jvm.exec) (hby : c.code = bytes) (hZ : Z.Warmed39 s.vm) (hml : Ls.size = c.maxLocals) {own : String} {index : Nat} {x0 y : MethodName} (hown : s.vm.findClass own = some m.cls) {count : Nat} {C : String} {b : Addr} (w1 : (Jvm.Cond.methodLink own index x0).before a0 Z = true) (w2 : (Jvm.Cond.declares x0).before a0 Z = true) (w7 : (Jvm.Cond.interfaceMethod x0.cls x0.cls x0.name x0.desc).before a0 Z = true) (w5 : (Jvm.Cond.selects C x0 y).before a0 Z = true) (w6 : (Jvm.Cond.instanceMethod y).before a0 Z = true) (w8 : (Jvm.Cond.publicMethod y).before a0 Z = true) (w9 : (Jvm.Cond.unhidden C x0.name x0.desc).before a0 Z = true) (w10 : (Jvm.Cond.castable C x0.cls).before a0 Z = true) (w3 : (Jvm.Cond.initialized y.cls).before a0 Z = true) (q7 : ((Jvm.Cond.interfaceMethod x0.cls x0.cls x0.name x0.desc).onTables && (Jvm.Cond.interfaceMethod x0.cls x0.cls x0.name x0.desc).keepsFace) = true) {bytes' : ByteArray} {maxL : Nat} {ret : Option FieldType} (w4 : (Jvm.Cond.code y bytes' maxL ret).before a0 Z = true) (hy : x0.cls ≠ "java/lang/invoke/MethodHandle" ∧ x0.cls ≠ "java/lang/invoke/VarHandle") {rm : Room} {Q : Option Value → Heap → List Loc → Prop} (eT : T.heap = h) (W : Nat) (hf : rm.frames + 1 ≤ R.frames) (hl : W + (maxL + 11) + rm.locals ≤ R.locals) (hc : cells + rm.cells ≤ R.cells) (hs : slots + rm.slots ≤ R.slots) {argsL rest : List Value} {st : List Value} (hlen : ∀ sig, parseMethodDescriptor x0.desc = some sig → argsL.length = sig.parameters.length) (hst : st = argsL.reverse ++ .ref b :: rest) (hW : (rest.map fun v => v.category).sum ≤ W) (E : Exa Z h b C) (hM : Con l Z y bytes' maxL ret [] rm (.ref b :: argsL).toArray h Q) (hd : decode bytes pc = .ok (.invokeinterface index count, 5)) (hp : pc + 5 = pc') (k : ∀ (v : Option Value) (T' : State) (L : List Loc), Stand p l e R s m args below meth c T' (locs ++ L) (cells + rm.cells) (slots + rm.slots) → Q v T'.heap L → GoP p e below Φ (T'.setTop (mkF m pc' Ls (v.toList ++ rest)))) : GoP p e below Φ (T.setTop (mkF m pc Ls st)) := by
  obtain ⟨cq, kq, qa, qb, qc⟩ := isOf hZ eT E
  obtain ⟨v, _, ⟨T', L', k', n'⟩, -, X', ⟨L, hQ, l1, y1, z1⟩, st'⟩ := X.interfaceBack hx (xi := x0) (y := y) hown (mvT hZ w1) (mvT hZ w2) (mvT hZ w7 q7) (mvT hZ w5) (mvT hZ w6) (mvT hZ w8) (mvT hZ w9) (mvT hZ w10) hy (backOf (W := W) hM hZ w4 w3 hf hl) qa qb qc (g := mkF m pc Ls st) rfl hml (Steps.refl _) (argsL := argsL) (rest := rest) hlen hst (by show 2 * 0 + _ ≤ _; omega) (hb hby hd) (fun _ _ => ⟨rfl, eT, hc, hs⟩)
  dsimp only [Pt.U, Pt.locs, Pt.cells, Pt.slots] at X' l1 y1 z1 st' hQ
  subst l1 y1 z1 hp
  exact own_trans st' (k _ _ _ X' hQ)
theorem own_callP (X : Stand p l e R s m args below meth c T locs cells slots) (hx : p.tables.exec = Jvm.exec) (hby : c.code = bytes) (hZ : Z.Warmed39 s.vm) (hml : Ls.size = c.maxLocals) {own : String} {index : Nat} {y : MethodName} (hown : s.vm.findClass own = some m.cls) {C : String} {b : Addr} (w1 : (Jvm.Cond.methodLink own index y).before a0 Z = true) (w2 : (Jvm.Cond.privateMethod y).before a0 Z = true) (w5 : (Jvm.Cond.selects y.cls y y).before a0 Z = true) (w6 : (Jvm.Cond.instanceMethod y).before a0 Z = true) (w3 : (Jvm.Cond.initialized y.cls).before a0 Z = true) {bytes' : ByteArray} {maxL : Nat} {ret : Option FieldType} (w4 : (Jvm.Cond.code y bytes' maxL ret).before a0 Z = true) (hy : y.cls ≠ "java/lang/invoke/MethodHandle" ∧ y.cls ≠ "java/lang/invoke/VarHandle") {rm : Room} {Q : Option Value → Heap → List Loc → Prop} (eT : T.heap = h) (W : Nat) (hf : rm.frames + 1 ≤ R.frames) (hl : W + (maxL + 11) + rm.locals ≤ R.locals) (hc : cells + rm.cells ≤ R.cells) (hs : slots + rm.slots ≤ R.slots) {argsL rest : List Value} {st : List Value} (hlen : ∀ sig, parseMethodDescriptor y.desc = some sig → argsL.length = sig.parameters.length) (hst : st = argsL.reverse ++ .ref b :: rest) (hW : (rest.map fun v => v.category).sum ≤ W) (E : Exa Z h b C) (hM : Con l Z y bytes' maxL ret [] rm (.ref b :: argsL).toArray h Q) (hd : decode bytes pc = .ok (.invokevirtual index, 3)) (hp : pc + 3 = pc') (k : ∀ (v : Option Value) (T' : State) (L : List Loc), Stand p l e R s m args below meth c T' (locs ++ L) (cells + rm.cells) (slots + rm.slots) → Q v T'.heap L → GoP p e below Φ (T'.setTop (mkF m pc' Ls (v.toList ++ rest)))) : GoP p e below Φ (T.setTop (mkF m pc Ls st)) := by
  obtain ⟨cq, q1, q2⟩ := E.cell
  obtain ⟨v, _, ⟨T', L', k', n'⟩, -, X', ⟨L, hQ, l1, y1, z1⟩, st'⟩ := X.privateBack hx (y := y) hown (mvT hZ w1) (mvT hZ w6) (mvT hZ w5) (Cond.privateMethod_at (mvP hZ w2 (args := #[]))) (mvT hZ w4) hy (backOf (W := W) hM hZ w4 w3 hf hl) (g := mkF m pc Ls st) rfl hml (Steps.refl _) (a := b) (by rw [eT]; exact q1) q2 (argsL := argsL) (rest := rest) hlen hst (by show 2 * 0 + _ ≤ _; omega) (hb hby hd) (fun _ _ => ⟨rfl, eT, hc, hs⟩)
  dsimp only [Pt.U, Pt.locs, Pt.cells, Pt.slots] at X' l1 y1 z1 st' hQ
  subst l1 y1 z1 hp
  exact own_trans st' (k _ _ _ X' hQ)
theorem own_fldI {args : Array Value} {s : State} {t : Term} {a : Addr} {C n d : String} {k : Int32} (ev : t.eval args s none [] s = some (.ref a)) (q : (Jvm.Cond.eq (Jvm.Term.field t C n d) (Jvm.Term.int k)).value args s none s [] = some true) : Fld s s.heap a C n d (.int k) := by
  obtain ⟨x, y, e1, e2, k1, k2⟩ := cmp_v (Or.inl q)
  have ey : y = .int k := Option.some.inj (e2.symm.trans (Term.int_eval k))
  subst ey
  obtain ⟨z, rfl⟩ : ∃ z, x = .int z := k2
  have ez : z = k := by simpa [Cond.value, e1, e2] using q
  subst ez
  exact Fld.start ((fld_at ev).symm.trans e1)
theorem own_stakeep {C n d : String} {w : Value} {h' : Heap} {ws : List Addr} (F : Sta Z h C n d w) (K : Keep h h' ws) (q : ∀ x ∈ ws, ∀ c : Cell, h[x]? = some c → c.vm.isStatics = false) : Sta Z h' C n d w := by
  obtain ⟨cf, i, k, f, st, cell, h1, h2, h3, h4, h5, h6, h7⟩ := F
  exact ⟨cf, i, k, f, st, cell, h1, h2, h3, h4, K.2.1 st cell h5 (fun y => by rw [q st y cell h5] at h6; cases h6), h6, h7⟩
theorem own_plainE {a : Addr} {C : String} (F : Exa Z h a C) : ∀ c : Cell, h[a]? = some c → c.vm.isStatics = false := fun c hc => by
  obtain ⟨cell, k, h1, h2, h3, h4, -⟩ := F
  cases hc.symm.trans h1; exact h4
/-- an int array of length n, of whatever ints -/
def IA (Z : State) (h : Heap) (a : Addr) (n : Int32) : Prop := ∃ cl : Cell, Arr Z h a cl .int ∧ cl.slots.size = n.toNatClampNeg ∧ ¬ n < 0 ∧ ∀ i, i < cl.slots.size → ∃ x, cl.slots[i]? = some (.int x)
theorem IA.lt {a : Addr} {n : Int32} (F : IA Z h a n) : a < h.size := by obtain ⟨cl, A, -⟩ := F; exact A.lt
theorem IA.ext {a : Addr} {n : Int32} {h' : Heap} (F : IA Z h a n) (E : Ext h h') : IA Z h' a n := by obtain ⟨cl, A, r⟩ := F; exact ⟨cl, A.ext E, r⟩
theorem IA.other {a b : Addr} {n : Int32} {h' : Heap} {sl : Nat} {v : Value} (F : IA Z h b n) (W : Wr h h' a sl v) (q : b ≠ a) : IA Z h' b n := by obtain ⟨cl, A, r⟩ := F; exact ⟨cl, A.other W q, r⟩
theorem IA.keep {a : Addr} {n : Int32} {h' : Heap} {ws : List Addr} (F : IA Z h a n) (K : Keep h h' ws) (q : a ∉ ws) : IA Z h' a n := by obtain ⟨cl, A, r⟩ := F; exact ⟨cl, ⟨K.2.1 a cl A.1 q, A.2⟩, r⟩
theorem IA.plain {a : Addr} {n : Int32} (F : IA Z h a n) : ∀ c : Cell, h[a]? = some c → c.vm.isStatics = false := fun c hc => by
  obtain ⟨cl, A, -⟩ := F
  cases hc.symm.trans A.1; exact A.plain
theorem IA.arv {a : Addr} {n : Int32} (F : IA Z h a n) : ∃ k vs, Arv Z h a k .int n vs (.int 0) ∧ vs.length = n.toNatClampNeg := by
  obtain ⟨cl, A, S, N, H⟩ := F
  have q : ∀ i, i < cl.slots.size → cl.slots[i]? = some (cl.slots.toList.getD i (.int 0)) := fun i hi => by
    rw [List.getD_eq_getElem?_getD, Array.getElem?_toList, Array.getElem?_eq_getElem hi]; rfl
  refine ⟨cl.cls, cl.slots.toList, ⟨cl, A, rfl, S, N, q, fun i hi => ?_⟩, by rw [Array.length_toList]; exact S⟩
  obtain ⟨x, hx⟩ := H i hi
  rw [← Option.some.inj ((hx.symm.trans (q i hi)))]; rfl
theorem IA.of {a : Addr} {n : Int32} {k : ClassId} {vs : List Value} {d : Value} (F : Arv Z h a k .int n vs d) : IA Z h a n := by
  obtain ⟨cl, A, -, S, N, H, G⟩ := F
  refine ⟨cl, A, S, N, fun i hi => ?_⟩
  obtain ⟨x, hx⟩ := fit_I (G i hi) (Or.inl rfl)
  exact ⟨x, by rw [H i hi, hx]⟩
theorem own_add32 {x y : Int32} {k : Int} (q : x.toInt + y.toInt = k) (h1 : -2147483648 ≤ k) (h2 : k < 2147483648) : (x + y).toInt = k := by
  have a := c_iadd x y; have b := rng32 (x + y); omega
theorem own_sub32 {x y : Int32} {k : Int} (q : x.toInt - y.toInt = k) (h1 : -2147483648 ≤ k) (h2 : k < 2147483648) : (x - y).toInt = k := by
  have a := c_isub x y; have b := rng32 (x - y); omega
theorem IA.new {a : Addr} {k : ClassId} {n : Int32} (A : Arr Z h a (newA k .int n) .int) (q : ¬ n < 0) : IA Z h a n :=
  ⟨_, A, sz_new _ _ _, q, fun i hi => ⟨0, by simp [newA] at hi ⊢; simp [defaultValue, hi]⟩⟩
end OwnKit
section OwnKitV
variable {p : Program} {l : Launch} {e : Env} {R : Room} {s : State} {m : MethodId} {args : Array Value} {below : List Frame} {meth : Method} {c : Code} {T : State} {locs : List Loc} {cells slots : Nat} {bytes : ByteArray} {Φ : State → Prop} {pc pc' : Nat} {Ls Ls' : Array Slot} {rest : List Value} {Z : State} {a0 : Array Value} {h h' : Heap} {a b : Addr} {ty : FieldType} {vs : List Value} {v w : Value} {i : Nat}
/-- the array at a, of components ty, holds just vs -/
def AV (Z : State) (h : Heap) (a : Addr) (ty : FieldType) (vs : List Value) : Prop := ∃ cl : Cell, Arr Z h a cl ty ∧ cl.slots.toList = vs ∧ vs.length < 2 ^ 31
theorem AV.lt (F : AV Z h a ty vs) : a < h.size := by obtain ⟨cl, A, -⟩ := F; exact A.lt
theorem AV.ext (F : AV Z h a ty vs) (E : Ext h h') : AV Z h' a ty vs := by obtain ⟨cl, A, r⟩ := F; exact ⟨cl, A.ext E, r⟩
theorem AV.other (F : AV Z h b ty vs) (W : Wr h h' a i v) (q : b ≠ a) : AV Z h' b ty vs := by obtain ⟨cl, A, r⟩ := F; exact ⟨cl, A.other W q, r⟩
theorem AV.keep {ws : List Addr} (F : AV Z h a ty vs) (K : Keep h h' ws) (q : a ∉ ws) : AV Z h' a ty vs := by obtain ⟨cl, A, r⟩ := F; exact ⟨cl, ⟨K.2.1 a cl A.1 q, A.2⟩, r⟩
theorem AV.same (F : AV Z h a ty vs) (W : Wr h h' a i v) : AV Z h' a ty (vs.set i v) := by
  obtain ⟨cl, A, r1, r2⟩ := F
  exact ⟨_, A.same W, by rw [← r1]; simp [Cell.setSlot], by rw [List.length_set]; exact r2⟩
theorem AV.plain (F : AV Z h a ty vs) : ∀ c : Cell, h[a]? = some c → c.vm.isStatics = false := fun c hc => by
  obtain ⟨cl, A, -⟩ := F
  cases hc.symm.trans A.1; exact A.plain
theorem AV.new {k : ClassId} {n : Int32} (A : Arr Z h a (newA k ty n) ty) (q : ¬ n < 0) : AV Z h a ty (List.replicate n.toNatClampNeg (defaultValue ty)) :=
  ⟨_, A, by simp [newA], by rw [List.length_replicate]; exact (back32 q).2⟩
theorem own_inb {cl : Cell} {j : Int32} (r : cl.slots.toList = vs) (h0 : ¬ j < 0) (hl : j.toNatClampNeg < vs.length) : ¬ (j < 0 ∨ cl.slots.size ≤ j.toNatClampNeg) := fun q => q.elim h0 fun y => by
  rw [← r, Array.length_toList] at hl; omega
theorem own_get {cl : Cell} {j : Nat} (r : cl.slots.toList = vs) (hv : vs[j]? = some v) : cl.slots[j]? = some v := by rw [← Array.getElem?_toList, r]; exact hv
theorem own_lt {j : Nat} (hv : vs[j]? = some v) : j < vs.length := (List.getElem?_eq_some_iff.mp hv).1
theorem own_iaload (X : Stand p l e R s m args below meth c T locs cells slots) (hx : p.tables.exec = Jvm.exec) (hby : c.code = bytes) (hZ : Z.Warmed39 s.vm) (eT : T.heap = h) {j : Int32} (F : AV Z h a .int vs) (h0 : ¬ j < 0) (hv : vs[j.toNatClampNeg]? = some v) (hd : decode bytes pc = .ok (.iaload, 1)) (hp : pc + 1 = pc') (k : GoP p e below Φ (T.setTop (mkF m pc' Ls (v :: rest)))) : GoP p e below Φ (T.setTop (mkF m pc Ls (.int j :: .ref a :: rest))) := by
  subst hp
  obtain ⟨cl, A, r1, r2⟩ := F
  exact own_step (fun t u => X.iaload hx (j := j) (v := v) (by rw [eT]; exact A.1) (State.isArrayOf_alike hZ.alike A.2.1) A.2.2 (own_inb r1 h0 (own_lt hv)) (own_get r1 hv) (g := mkF m pc Ls (.int j :: .ref a :: rest)) rfl rfl (hb hby hd) t u) k
theorem own_aaload (X : Stand p l e R s m args below meth c T locs cells slots) (hx : p.tables.exec = Jvm.exec) (hby : c.code = bytes) (hZ : Z.Warmed39 s.vm) (eT : T.heap = h) {j : Int32} (F : AV Z h a ty vs) (hr : ty.isReference = true) (h0 : ¬ j < 0) (hv : vs[j.toNatClampNeg]? = some v) (hd : decode bytes pc = .ok (.aaload, 1)) (hp : pc + 1 = pc') (k : GoP p e below Φ (T.setTop (mkF m pc' Ls (v :: rest)))) : GoP p e below Φ (T.setTop (mkF m pc Ls (.int j :: .ref a :: rest))) := by
  subst hp
  obtain ⟨cl, A, r1, r2⟩ := F
  exact own_step (fun t u => X.aaload hx (j := j) (v := v) (by rw [eT]; exact A.1) (State.isArrayOf_alike hZ.alike A.2.1) hr A.2.2 (own_inb r1 h0 (own_lt hv)) (own_get r1 hv) (g := mkF m pc Ls (.int j :: .ref a :: rest)) rfl rfl (hb hby hd) t u) k
theorem own_alen (X : Stand p l e R s m args below meth c T locs cells slots) (hx : p.tables.exec = Jvm.exec) (hby : c.code = bytes) (hZ : Z.Warmed39 s.vm) (eT : T.heap = h) {n : Int32} (F : AV Z h a ty vs) (hn : Int32.ofNat vs.length = n) (hd : decode bytes pc = .ok (.arraylength, 1)) (hp : pc + 1 = pc') (k : GoP p e below Φ (T.setTop (mkF m pc' Ls (.int n :: rest)))) : GoP p e below Φ (T.setTop (mkF m pc Ls (.ref a :: rest))) := by
  subst hp
  obtain ⟨cl, A, r1, r2⟩ := F
  have q : cl.slots.size.toInt32 = n := by rw [← hn, ← r1, Array.length_toList]
  rw [← q] at k
  exact own_step (fun t u => X.arraylength hx (by rw [eT]; exact A.1) (State.isArrayOf_alike hZ.alike A.2.1) (g := mkF m pc Ls (.ref a :: rest)) rfl rfl (hb hby hd) t u) k
theorem own_iastore (X : Stand p l e R s m args below meth c T locs cells slots) (hx : p.tables.exec = Jvm.exec) (hby : c.code = bytes) (hZ : Z.Warmed39 s.vm) (eT : T.heap = h) {j : Int32} {x : Int32} (F : AV Z h a .int vs) (h0 : ¬ j < 0) (hl : j.toNatClampNeg < vs.length) (hd : decode bytes pc = .ok (.iastore, 1)) (hp : pc + 1 = pc') (k : ∀ (T' : State) (h' : Heap), Stand p l e R s m args below meth c T' (locs ++ [⟨a, j.toNatClampNeg⟩]) cells slots → T'.heap = h' → Wr h h' a j.toNatClampNeg (.int x) → AV Z h' a .int (vs.set j.toNatClampNeg (.int x)) → GoP p e below Φ (T'.setTop (mkF m pc' Ls rest))) : GoP p e below Φ (T.setTop (mkF m pc Ls ((.int x) :: .int j :: .ref a :: rest))) := by
  subst hp
  obtain ⟨cl, A, r1, r2⟩ := F
  obtain ⟨T', h', X', e', W', st'⟩ := stI X hx hZ eT A (j := j) (x := x) (own_inb r1 h0 hl) (g := mkF m pc Ls ((.int x) :: .int j :: .ref a :: rest)) rfl rfl (hb hby hd)
  exact own_step st' (k T' h' X' e' W' (AV.same ⟨cl, A, r1, r2⟩ W'))
theorem AV.of {k : ClassId} {n : Int32} {d : Value} (F : Arv Z h a k ty n vs d) (q : vs.length = n.toNatClampNeg) : AV Z h a ty vs := by
  obtain ⟨cl, A, -, S, N, H, G⟩ := F
  refine ⟨cl, A, List.ext_getElem? fun i => ?_, by rw [q]; exact (back32 N).2⟩
  rw [Array.getElem?_toList]
  by_cases hi : i < cl.slots.size
  · rw [H i hi, List.getElem?_eq_getElem (by rw [q, ← S]; exact hi), List.getD_eq_getElem?_getD, List.getElem?_eq_getElem (by rw [q, ← S]; exact hi)]; rfl
  · rw [Array.getElem?_eq_none (Nat.le_of_not_lt hi), List.getElem?_eq_none (by rw [q, ← S]; exact Nat.le_of_not_lt hi)]
end OwnKitV
section OwnKitR
variable {p : Program} {l : Launch} {e : Env} {R : Room} {s : State} {m : MethodId} {args : Array Value} {below : List Frame} {meth : Method} {c : Code} {T : State} {locs : List Loc} {cells slots : Nat} {bytes : ByteArray} {Φ : State → Prop} {pc pc' : Nat} {Ls Ls' : Array Slot} {rest : List Value} {Z : State} {a0 : Array Value} {h h' : Heap} {a b y : Addr} {ty : FieldType} {vs vd : List Value} {v w : Value} {i : Nat} {C : String}
/-- the array at a is one of components of the class C -/
def CM (Z : State) (h : Heap) (a : Addr) (C : String) : Prop := ∃ cl : Cell, h[a]? = some cl ∧ (Ovr Z cl.cls C ∨ ∃ ty, OvrA Z cl.cls ty C)
theorem CM.lt (F : CM Z h a C) : a < h.size := by obtain ⟨cl, q, -⟩ := F; exact (Array.getElem?_eq_some_iff.mp q).1
theorem CM.ext (F : CM Z h a C) (E : Ext h h') : CM Z h' a C := by obtain ⟨cl, q, O⟩ := F; exact ⟨cl, E.2 _ _ q, O⟩
theorem CM.wr (F : CM Z h a C) (W : Wr h h' b i v) : CM Z h' a C := by
  obtain ⟨cl, q, O⟩ := F
  obtain ⟨c', e1, e2, -⟩ := wr_at W q
  exact ⟨c', e1, by rw [e2]; exact O⟩
theorem CM.keep {ws : List Addr} (F : CM Z h a C) (K : Keep h h' ws) : CM Z h' a C := by
  obtain ⟨cl, q, O⟩ := F
  obtain ⟨c', e1, e2, -⟩ := K.2.2 _ _ q
  exact ⟨c', e1, by rw [e2]; exact O⟩
theorem own_sto (F : AV Z h a ty vs) (M : CM Z h a C) (I : Ins Z h y C true) : Sto Z h a (.ref y) := by
  obtain ⟨cl, A, -⟩ := F
  obtain ⟨cl', q, O⟩ := M
  cases A.1.symm.trans q
  rcases O with O | ⟨ty', O⟩
  · exact Sto.of A O I
  · exact Sto.ofVA A rfl O I
theorem AV.arv (F : AV Z h a ty vs) (d : Value) (q : vs.all (fits ty) = true) : ∃ k, Arv Z h a k ty (Int32.ofNat vs.length) vs d := by
  obtain ⟨cl, A, r1, r2⟩ := F
  have S : cl.slots.size = vs.length := by rw [← r1, Array.length_toList]
  have N : (Int32.ofNat vs.length).toInt = vs.length := Int32.toInt_ofNat_small r2
  have Nn : (Int32.ofNat vs.length).toNatClampNeg = vs.length := by simp only [Int32.toNatClampNeg]; omega
  have z0 : (0 : Int32).toInt = 0 := by decide
  refine ⟨cl.cls, cl, A, rfl, by rw [Nn, S], fun u => by rw [Int32.lt_iff_toInt_lt, N, z0] at u; omega, fun i hi => ?_, fun i hi => ?_⟩
  · rw [← Array.getElem?_toList, r1, List.getD_eq_getElem?_getD, List.getElem?_eq_getElem (by rw [← S]; exact hi)]; rfl
  · rw [List.getD_eq_getElem?_getD, List.getElem?_eq_getElem (by rw [← S]; exact hi)]
    exact List.all_eq_true.mp q _ (List.getElem_mem _)
theorem AV.len (F : AV Z h a ty vs) : (Int32.ofNat vs.length).toNatClampNeg = vs.length := by
  obtain ⟨cl, A, r1, r2⟩ := F
  have N : (Int32.ofNat vs.length).toInt = vs.length := Int32.toInt_ofNat_small r2
  simp only [Int32.toNatClampNeg]; omega
theorem own_aastore (X : Stand p l e R s m args below meth c T locs cells slots) (hx : p.tables.exec = Jvm.exec) (hby : c.code = bytes) (hZ : Z.Warmed39 s.vm) (eT : T.heap = h) {j : Int32} (F : AV Z h a ty vs) (hr : ty.isReference = true) (hS : Sto Z h a v) (h0 : ¬ j < 0) (hl : j.toNatClampNeg < vs.length) (hd : decode bytes pc = .ok (.aastore, 1)) (hp : pc + 1 = pc') (k : ∀ (T' : State) (h' : Heap), Stand p l e R s m args below meth c T' (locs ++ [⟨a, j.toNatClampNeg⟩]) cells slots → T'.heap = h' → Wr h h' a j.toNatClampNeg v → AV Z h' a ty (vs.set j.toNatClampNeg v) → GoP p e below Φ (T'.setTop (mkF m pc' Ls rest))) : GoP p e below Φ (T.setTop (mkF m pc Ls (v :: .int j :: .ref a :: rest))) := by
  subst hp
  obtain ⟨cl, A, r1, r2⟩ := F
  obtain ⟨T', h', X', e', W', st'⟩ := stR X hx hZ eT A (j := j) (v := v) (own_inb r1 h0 hl) hr hS (g := mkF m pc Ls (v :: .int j :: .ref a :: rest)) rfl rfl (hb hby hd)
  exact own_step st' (k T' h' X' e' W' (AV.same ⟨cl, A, r1, r2⟩ W'))
theorem own_newI (X : Stand p l e R s m args below meth c T locs cells slots) (hx : p.tables.exec = Jvm.exec) (hby : c.code = bytes) (hZ : Z.Warmed39 s.vm) (w1 : (Jvm.Cond.arrayClass .int).before a0 Z = true) (eT : T.heap = h) {n : Int32} (hn : ¬ n < 0) (cap : Nat) (hcap : n.toNatClampNeg ≤ cap) (hbb : cap * 8 ≤ 536870912) (hc : cells + 1 ≤ R.cells) (hl : slots + cap ≤ R.slots) (hd : decode bytes pc = .ok (.newarray .int, 2)) (hp : pc + 2 = pc')
    (k : ∀ (T' : State) (h' : Heap) (b : Addr), Stand p l e R s m args below meth c T' locs (cells + 1) (slots + cap) → T'.heap = h' → Ext h h' → b = h.size → AV Z h' b .int (List.replicate n.toNatClampNeg (.int 0)) → IA Z h' b n → Exa Z h' b "[I" → GoP p e below Φ (T'.setTop (mkF m pc' Ls (.ref b :: rest)))) : GoP p e below Φ (T.setTop (mkF m pc Ls (.int n :: rest))) := by
  subst hp
  obtain ⟨T', h', cA, X', e', E', A', Ex', st'⟩ := newPE X hx hZ (aty := .int) w1 eT (g := mkF m pc Ls (.int n :: rest)) rfl (hb hby hd) rfl hn hcap hbb hc hl rfl
  exact own_step st' (k T' h' _ X' e' E' rfl (AV.new A' hn) (IA.new A' hn) Ex')
theorem own_newR (X : Stand p l e R s m args below meth c T locs cells slots) (hx : p.tables.exec = Jvm.exec) (hby : c.code = bytes) (hZ : Z.Warmed39 s.vm) {own : String} {index : Nat} (hown : s.vm.findClass own = some m.cls) (w1 : (Jvm.Cond.classLink own index C).before a0 Z = true) (w2 : (Jvm.Cond.arrayOver (.object C)).before a0 Z = true) (eT : T.heap = h) {n : Int32} (hn : ¬ n < 0) (cap : Nat) (hcap : n.toNatClampNeg ≤ cap) (hbb : cap * 8 ≤ 536870912) (hc : cells + 1 ≤ R.cells) (hl : slots + cap ≤ R.slots) (hd : decode bytes pc = .ok (.anewarray index, 3)) (hp : pc + 3 = pc')
    (k : ∀ (T' : State) (h' : Heap) (b : Addr), Stand p l e R s m args below meth c T' locs (cells + 1) (slots + cap) → T'.heap = h' → Ext h h' → b = h.size → AV Z h' b (.object C) (List.replicate n.toNatClampNeg .null) → CM Z h' b C → GoP p e below Φ (T'.setTop (mkF m pc' Ls (.ref b :: rest)))) : GoP p e below Φ (T.setTop (mkF m pc Ls (.int n :: rest))) := by
  subst hp
  obtain ⟨T', h', cA, X', e', E', A', O', st'⟩ := newR X hx hZ hown w1 w2 eT (g := mkF m pc Ls (.int n :: rest)) rfl (hb hby hd) rfl hn hcap hbb hc hl
  exact own_step st' (k T' h' _ X' e' E' rfl (AV.new A' hn) ⟨_, A'.1, Or.inl O'⟩)
theorem own_newRA (X : Stand p l e R s m args below meth c T locs cells slots) (hx : p.tables.exec = Jvm.exec) (hby : c.code = bytes) (hZ : Z.Warmed39 s.vm) {own : String} {index : Nat} (hown : s.vm.findClass own = some m.cls) (hC : (FieldType.array ty).toString = C) (w1 : (Jvm.Cond.classLink own index C).before a0 Z = true) (w2 : (Jvm.Cond.arrayOver (.array ty)).before a0 Z = true) (eT : T.heap = h) {n : Int32} (hn : ¬ n < 0) (cap : Nat) (hcap : n.toNatClampNeg ≤ cap) (hbb : cap * 8 ≤ 536870912) (hc : cells + 1 ≤ R.cells) (hl : slots + cap ≤ R.slots) (hd : decode bytes pc = .ok (.anewarray index, 3)) (hp : pc + 3 = pc')
    (k : ∀ (T' : State) (h' : Heap) (b : Addr), Stand p l e R s m args below meth c T' locs (cells + 1) (slots + cap) → T'.heap = h' → Ext h h' → b = h.size → AV Z h' b (.array ty) (List.replicate n.toNatClampNeg .null) → CM Z h' b C → GoP p e below Φ (T'.setTop (mkF m pc' Ls (.ref b :: rest)))) : GoP p e below Φ (T.setTop (mkF m pc Ls (.int n :: rest))) := by
  subst hp
  obtain ⟨T', h', cA, X', e', E', A', -, O', st'⟩ := newRA X hx hZ hown hC w1 w2 eT (g := mkF m pc Ls (.int n :: rest)) rfl (hb hby hd) rfl hn hcap hbb hc hl rfl
  exact own_step st' (k T' h' _ X' e' E' rfl (AV.new A' hn) ⟨_, A'.1, Or.inr ⟨_, O'⟩⟩)
theorem own_cloneI (X : Stand p l e R s m args below meth c T locs cells slots) (hx : p.tables.exec = Jvm.exec) (hby : c.code = bytes) (hZ : Z.Warmed39 s.vm) (hml : Ls.size = c.maxLocals) {own : String} {index : Nat} (hown : s.vm.findClass own = some m.cls) (w1 : (Jvm.Cond.methodLink own index ⟨"[I", "clone", "()Ljava/lang/Object;"⟩).before a0 Z = true) (w2 : (Jvm.Cond.sameMethod "[I" "java/lang/Object" "clone" "()Ljava/lang/Object;").before a0 Z = true) (w3 : (Jvm.Cond.native ⟨"java/lang/Object", "clone", "()Ljava/lang/Object;"⟩).before a0 Z = true) (w4 : (Jvm.Cond.instanceMethod ⟨"java/lang/Object", "clone", "()Ljava/lang/Object;"⟩).before a0 Z = true) (w5 : (Jvm.Cond.selects "[I" ⟨"[I", "clone", "()Ljava/lang/Object;"⟩ ⟨"java/lang/Object", "clone", "()Ljava/lang/Object;"⟩).before a0 Z = true) (w6 : (Jvm.Cond.castable "[I" "java/lang/Cloneable").before a0 Z = true) (eT : T.heap = h) (F : AV Z h a .int vs) (q : vs.all (fits .int) = true) (E : Exa Z h a "[I") (hf : 1 ≤ R.frames) (W : Nat) (hW : (rest.map fun v => v.category).sum ≤ W) (hlo : W + 14 ≤ R.locals) (cap : Nat) (hcap : vs.length ≤ cap) (hc : cells + 1 ≤ R.cells) (hl : slots + cap ≤ R.slots) (hd : decode bytes pc = .ok (.invokevirtual index, 3)) (hp : pc + 3 = pc')
    (k : ∀ (T' : State) (h' : Heap) (b : Addr), Stand p l e R s m args below meth c T' locs (cells + 1) (slots + cap) → T'.heap = h' → Ext h h' → b = h.size → AV Z h' b .int vs → Exa Z h' b "[I" → GoP p e below Φ (T'.setTop (mkF m pc' Ls (.ref b :: rest)))) : GoP p e below Φ (T.setTop (mkF m pc Ls (.ref a :: rest))) := by
  subst hp
  obtain ⟨k0, Av⟩ := F.arv (.int 0) q
  obtain ⟨T', h', X', e', E', F', Ex', st'⟩ := cloneH X hx hZ hown w1 w2 w3 w4 w5 w6 eT Av.arh E (g := mkF m pc Ls (.ref a :: rest)) rfl hml rfl (hb hby hd) hf (W := W) (by show 2 * 0 + _ ≤ _; omega) hlo (by rw [F.len]; exact hcap) hc hl
  exact own_step st' (k T' h' _ X' e' E' rfl (AV.of (vs := vs) F' F.len.symm) Ex')
theorem own_copyV (X : Stand p l e R s m args below meth c T locs cells slots) (hx : p.tables.exec = Jvm.exec) (hby : c.code = bytes) {dv : Value} (hZ : Z.Warmed39 s.vm) (hml : Ls.size = c.maxLocals) {own : String} {index : Nat} (hown : s.vm.findClass own = some m.cls) (w1 : (Jvm.Cond.methodLink own index Jvm.Stand.acN).before a0 Z = true) (w2 : (Jvm.Cond.native Jvm.Stand.acN).before a0 Z = true) (w3 : (Jvm.Cond.static Jvm.Stand.acN).before a0 Z = true) (w4 : (Jvm.Cond.initialized "java/lang/System").before a0 Z = true) (eT : T.heap = h) {sp dp nn : Int32} (A : AV Z h a ty vs) (B : AV Z h b ty vd) (qa : vs.all (fits ty) = true) (qb : vd.all (fits ty) = true) (hk : refKind ty = false) (h1 : ¬ sp < 0) (h2 : ¬ dp < 0) (h3 : ¬ nn < 0) (h4 : sp.toNatClampNeg + nn.toNatClampNeg ≤ vs.length) (h5 : dp.toNatClampNeg + nn.toNatClampNeg ≤ vd.length) {n0 : Nat} (N : Fr n0 locs) (ge : n0 ≤ b) (hf : 1 ≤ R.frames) (W : Nat) (hW : (rest.map fun v => v.category).sum ≤ W) (hlo : W + (nativeFrameWords "java/lang/System" "arraycopy" 5 + 11) ≤ R.locals) (hd : decode bytes pc = .ok (.invokestatic index, 3)) (hp : pc + 3 = pc') (k : ∀ (T' : State) (h' : Heap) (L : List Loc), Stand p l e R s m args below meth c T' L cells slots → T'.heap = h' → Fr n0 L → Keep h h' [b] → AV Z h' b ty (vd.take dp.toNatClampNeg ++ (List.range nn.toNatClampNeg).map (fun i => vs.getD (sp.toNatClampNeg + i) dv) ++ vd.drop (dp.toNatClampNeg + nn.toNatClampNeg)) → GoP p e below Φ (T'.setTop (mkF m pc' Ls rest))) : GoP p e below Φ (T.setTop (mkF m pc Ls (.int nn :: .int dp :: .ref b :: .int sp :: .ref a :: rest))) := by
  subst hp
  obtain ⟨k1, Av⟩ := A.arv dv qa
  obtain ⟨k2, Bv⟩ := B.arv dv qb
  obtain ⟨T', h', L, X', e', N', K', B', st'⟩ := cpA X hx hZ hown w1 w2 w3 w4 eT Av Bv (Or.inl ⟨rfl, hk⟩) h1 h2 h3 (by rw [A.len]; exact h4) (by rw [B.len]; exact h5) rfl h5 N ge (g := mkF m pc Ls (.int nn :: .int dp :: .ref b :: .int sp :: .ref a :: rest)) rfl hml rfl (hb hby hd) hf (W := W) (by show 2 * 0 + _ ≤ _; omega) hlo
  refine own_step st' (k T' h' L X' e' N' K' (AV.of B' ?_))
  rw [B.len, List.length_append, List.length_append, List.length_map, List.length_range, List.length_take, List.length_drop]; omega
theorem own_copyR (X : Stand p l e R s m args below meth c T locs cells slots) (hx : p.tables.exec = Jvm.exec) (hby : c.code = bytes) {dv : Value} (hZ : Z.Warmed39 s.vm) (hml : Ls.size = c.maxLocals) {own : String} {index : Nat} (hown : s.vm.findClass own = some m.cls) (w1 : (Jvm.Cond.methodLink own index Jvm.Stand.acN).before a0 Z = true) (w2 : (Jvm.Cond.native Jvm.Stand.acN).before a0 Z = true) (w3 : (Jvm.Cond.static Jvm.Stand.acN).before a0 Z = true) (w4 : (Jvm.Cond.initialized "java/lang/System").before a0 Z = true) (eT : T.heap = h) {sp dp nn : Int32} (A : AV Z h a ty vs) (B : AV Z h b ty vd) (qa : vs.all (fits ty) = true) (qb : vd.all (fits ty) = true) (hk : refKind ty = true) (hSt : StoL Z h b ((List.range nn.toNatClampNeg).map (fun i => vs.getD (sp.toNatClampNeg + i) dv))) (h1 : ¬ sp < 0) (h2 : ¬ dp < 0) (h3 : ¬ nn < 0) (h4 : sp.toNatClampNeg + nn.toNatClampNeg ≤ vs.length) (h5 : dp.toNatClampNeg + nn.toNatClampNeg ≤ vd.length) {n0 : Nat} (N : Fr n0 locs) (ge : n0 ≤ b) (hf : 1 ≤ R.frames) (W : Nat) (hW : (rest.map fun v => v.category).sum ≤ W) (hlo : W + (nativeFrameWords "java/lang/System" "arraycopy" 5 + 11) ≤ R.locals) (hd : decode bytes pc = .ok (.invokestatic index, 3)) (hp : pc + 3 = pc') (k : ∀ (T' : State) (h' : Heap) (L : List Loc), Stand p l e R s m args below meth c T' L cells slots → T'.heap = h' → Fr n0 L → Keep h h' [b] → AV Z h' b ty (vd.take dp.toNatClampNeg ++ (List.range nn.toNatClampNeg).map (fun i => vs.getD (sp.toNatClampNeg + i) dv) ++ vd.drop (dp.toNatClampNeg + nn.toNatClampNeg)) → GoP p e below Φ (T'.setTop (mkF m pc' Ls rest))) : GoP p e below Φ (T.setTop (mkF m pc Ls (.int nn :: .int dp :: .ref b :: .int sp :: .ref a :: rest))) := by
  subst hp
  obtain ⟨k1, Av⟩ := A.arv dv qa
  obtain ⟨k2, Bv⟩ := B.arv dv qb
  obtain ⟨T', h', L, X', e', N', K', B', st'⟩ := cpA X hx hZ hown w1 w2 w3 w4 eT Av Bv (Or.inr ⟨hk, hk, hSt⟩) h1 h2 h3 (by rw [A.len]; exact h4) (by rw [B.len]; exact h5) rfl h5 N ge (g := mkF m pc Ls (.int nn :: .int dp :: .ref b :: .int sp :: .ref a :: rest)) rfl hml rfl (hb hby hd) hf (W := W) (by show 2 * 0 + _ ≤ _; omega) hlo
  refine own_step st' (k T' h' L X' e' N' K' (AV.of B' ?_))
  rw [B.len, List.length_append, List.length_append, List.length_map, List.length_range, List.length_take, List.length_drop]; omega
theorem own_ne_av2 {ty' : FieldType} (F : AV Z h a ty vs) (G : AV Z h b ty' vd) (q : ty ≠ ty') : a ≠ b := fun u => by
  subst u
  obtain ⟨c1, A, -⟩ := F
  obtain ⟨c2, B, -⟩ := G
  cases A.1.symm.trans B.1
  obtain ⟨-, k1, j1, m1, j2⟩ := A.2.1
  obtain ⟨-, k2, i1, m2, i2⟩ := B.2.1
  cases j1.symm.trans i1
  rw [j2] at i2; cases i2; exact q rfl
theorem own_ne_ea {k : Nat} (E : Exa Z h a C) (wi : (Jvm.Cond.instantiable C k).before a0 Z = true) (F : AV Z h b ty vs) : a ≠ b := by
  obtain ⟨cl, A, -⟩ := F; exact ne_arr E wi A
theorem own_empty {cl : Cell} {t : Term} (ev : t.eval args s none [] s = some (.ref a)) (A : Arr s s.heap a cl ty) (q : (Jvm.Cond.eq (Jvm.Term.length t) (Jvm.Term.int 0)).value args s none s [] = some true) : AV s s.heap a ty [] := by
  obtain ⟨x, y, e1, e2, k1, k2⟩ := cmp_v (Or.inl q)
  have ey : y = .int 0 := Option.some.inj (e2.symm.trans (Term.int_eval 0))
  subst ey
  obtain ⟨z, rfl⟩ : ∃ z, x = .int z := k2
  have ez : z = 0 := by simpa [Cond.value, e1, e2] using q
  subst ez
  have hA : s.arrayAt? a = some cl := A.fin (Vm.Alike.refl _)
  simp [Term.eval, ev, hA] at e1
  have e3 : (Int32.ofNat cl.slots.size).toInt = cl.slots.size := Int32.toInt_ofNat_small (by omega)
  have e4 : (Int32.ofNat cl.slots.size) = 0 := e1.2
  have z0 : (0 : Int32).toInt = 0 := by decide
  rw [e4, z0] at e3
  exact ⟨cl, A, List.length_eq_zero_iff.mp (by rw [Array.length_toList]; omega), by decide⟩
end OwnKitR
end Jvm.Pilot.@@N@@
namespace Jvm.Pilot.@@N@@
open Jvm Jvm.ClassFile Sem Op Lib Jvm.Free Jvm.Stand Jvm.LawKit Jvm.RoadKit Bundle Jvm.Pilot.@@N@@.Jvm.D
theorem ef_rmO (m : MethodId) (x0 : Addr) : entryFrame m #[(.ref x0)] 1 = mkF m 0 #[.val (.ref x0)] [] := by first | (simp [entryFrame, mkF, argsToLocals, Value.category]; done) | rfl
theorem pn_java_lang_Enum : plainName "java/lang/Enum" = true := by first | (simp [plainName, overriddenIn]; done) | decide +kernel
theorem jd_37_2__0 : decode jdk_37_method_2_code 0 = .ok (.aload_n 0, 1) := by decide +kernel
theorem jd_37_2__1 : decode jdk_37_method_2_code 1 = .ok (.getfield 7, 3) := by decide +kernel
theorem jd_37_2__4 : decode jdk_37_method_2_code 4 = .ok (.ireturn, 1) := by decide +kernel
set_option maxRecDepth 65536 in
set_option maxHeartbeats 40000000 in
theorem rmO (l : Launch) (Z : State) (a0 : Array Value) (hw : ∀ d ∈ tables_1, d.before a0 Z = true) (a : Addr) (k : Int32) (h0 : Heap) (F : Fld Z h0 a "java/lang/Enum" "ordinal" "I" (.int k)) : Con l Z (⟨"java/lang/Enum", "ordinal", "()I"⟩ : MethodName) jdk_37_method_2_code 1 (some .int) [] ({ frames := 0, cells := 0, slots := 0, locals := 0 } : Room) #[(.ref a)] h0 (fun v h L => v = some (.int k) ∧ L = [] ∧ h = h0) := by
  refine Con.of (plainFor_of_name pn_java_lang_Enum) ?_
  intro p e s m below meth c T X hx hby hml hown hnm hret eT hZ hsh Φ fin
  replace hown : s.vm.findClass "java/lang/Enum" = some m.cls := hown
  replace hml : 1 = c.maxLocals := hml.symm
  refine own_step (fun tq kq => castTop (ef_rmO m a) kq) ?_
  refine own_aloadN X hx hby jd_37_2__0 rfl rfl (pc' := 1) rfl ?_
  refine own_getF X hx hby hZ hown (host := "") (Or.inl (own_w hw 59 rfl)) Via.refl eT F jd_37_2__1 (pc' := 4) rfl ?_
  intro T1 X1 e1
  exact own_retI X1 hx hby fin hret jd_37_2__4 (by decide) (by decide) ⟨rfl, rfl, e1⟩
theorem ef_rmMx (m : MethodId) (x0 : Int32) (x1 : Int32) : entryFrame m #[(.int x0), (.int x1)] 2 = mkF m 0 #[.val (.int x0), .val (.int x1)] [] := by first | (simp [entryFrame, mkF, argsToLocals, Value.category]; done) | rfl
theorem jd_29_65__0 : decode jdk_29_method_65_code 0 = .ok (.iload_n 0, 1) := by decide +kernel
theorem jd_29_65__1 : decode jdk_29_method_65_code 1 = .ok (.iload_n 1, 1) := by decide +kernel
theorem jd_29_65__2 : decode jdk_29_method_65_code 2 = .ok (.if_icmp .lt 7, 3) := by decide +kernel
theorem jd_29_65__5 : decode jdk_29_method_65_code 5 = .ok (.iload_n 0, 1) := by decide +kernel
theorem jd_29_65__6 : decode jdk_29_method_65_code 6 = .ok (.goto 4, 3) := by decide +kernel
theorem jd_29_65__10 : decode jdk_29_method_65_code 10 = .ok (.ireturn, 1) := by decide +kernel
set_option maxRecDepth 65536 in
set_option maxHeartbeats 40000000 in
theorem rmMx (l : Launch) (Z : State) (a0 : Array Value) (hw : ∀ d ∈ tables_1, d.before a0 Z = true)  (h0 : Heap)  : Con l Z (⟨"java/lang/Math", "max", "(II)I"⟩ : MethodName) jdk_29_method_65_code 2 (some .int) [] ({ frames := 0, cells := 0, slots := 0, locals := 0 } : Room) #[(.int (10 : Int32)), (.int (1 : Int32))] h0 (fun v h L => v = some (.int (10 : Int32)) ∧ L = [] ∧ h = h0) := by
  refine Con.of (by decide +kernel) ?_
  intro p e s m below meth c T X hx hby hml hown hnm hret eT hZ hsh Φ fin
  replace hown : s.vm.findClass "java/lang/Math" = some m.cls := hown
  replace hml : 2 = c.maxLocals := hml.symm
  refine own_step (fun tq kq => castTop (ef_rmMx m (10 : Int32) (1 : Int32)) kq) ?_
  refine own_iloadN X hx hby jd_29_65__0 rfl (pc' := 1) rfl ?_
  refine own_iloadN X hx hby jd_29_65__1 rfl (pc' := 2) rfl ?_
  refine own_icmpN X hx hby jd_29_65__2 (flt (by decide)).1 (pc' := 5) rfl ?_
  refine own_iloadN X hx hby jd_29_65__5 rfl (pc' := 6) rfl ?_
  refine own_goto X hx hby jd_29_65__6 (by decide) (pc' := 10) (by decide) ?_
  exact own_retI X hx hby fin hret jd_29_65__10 (by decide) (by decide) ⟨rfl, rfl, eT⟩
theorem ef_rmSz (m : MethodId) (x0 : Addr) : entryFrame m #[(.ref x0)] 1 = mkF m 0 #[.val (.ref x0)] [] := by first | (simp [entryFrame, mkF, argsToLocals, Value.category]; done) | rfl
theorem pn_java_util_ArrayList : plainName "java/util/ArrayList" = true := by first | (simp [plainName, overriddenIn]; done) | decide +kernel
theorem jd_38_8__0 : decode jdk_38_method_8_code 0 = .ok (.aload_n 0, 1) := by decide +kernel
theorem jd_38_8__1 : decode jdk_38_method_8_code 1 = .ok (.getfield 48, 3) := by decide +kernel
theorem jd_38_8__4 : decode jdk_38_method_8_code 4 = .ok (.ireturn, 1) := by decide +kernel
set_option maxRecDepth 65536 in
set_option maxHeartbeats 40000000 in
theorem rmSz (l : Launch) (Z : State) (a0 : Array Value) (hw : ∀ d ∈ tables_1, d.before a0 Z = true) (a : Addr) (n : Int32) (h0 : Heap) (F : Fld Z h0 a "java/util/ArrayList" "size" "I" (.int n)) : Con l Z (⟨"java/util/ArrayList", "size", "()I"⟩ : MethodName) jdk_38_method_8_code 1 (some .int) [] ({ frames := 0, cells := 0, slots := 0, locals := 0 } : Room) #[(.ref a)] h0 (fun v h L => v = some (.int n) ∧ L = [] ∧ h = h0) := by
  refine Con.of (plainFor_of_name pn_java_util_ArrayList) ?_
  intro p e s m below meth c T X hx hby hml hown hnm hret eT hZ hsh Φ fin
  replace hown : s.vm.findClass "java/util/ArrayList" = some m.cls := hown
  replace hml : 1 = c.maxLocals := hml.symm
  refine own_step (fun tq kq => castTop (ef_rmSz m a) kq) ?_
  refine own_aloadN X hx hby jd_38_8__0 rfl rfl (pc' := 1) rfl ?_
  refine own_getF X hx hby hZ hown (host := "") (Or.inl (own_w hw 73 rfl)) Via.refl eT F jd_38_8__1 (pc' := 4) rfl ?_
  intro T1 X1 e1
  exact own_retI X1 hx hby fin hret jd_38_8__4 (by decide) (by decide) ⟨rfl, rfl, e1⟩
theorem ef_rmP (m : MethodId) (x0 : Int32) (x1 : Int32) : entryFrame m #[(.int x0), (.int x1), .null] 3 = mkF m 0 #[.val (.int x0), .val (.int x1), .val .null] [] := by first | (simp [entryFrame, mkF, argsToLocals, Value.category]; done) | rfl
theorem pn_jdk_internal_util_Preconditions : plainName "jdk/internal/util/Preconditions" = true := by first | (simp [plainName, overriddenIn]; done) | decide +kernel
theorem jd_41_11__0 : decode jdk_41_method_11_code 0 = .ok (.iload_n 0, 1) := by decide +kernel
theorem jd_41_11__1 : decode jdk_41_method_11_code 1 = .ok (.ifCond .lt 8, 3) := by decide +kernel
theorem jd_41_11__4 : decode jdk_41_method_11_code 4 = .ok (.iload_n 0, 1) := by decide +kernel
theorem jd_41_11__5 : decode jdk_41_method_11_code 5 = .ok (.iload_n 1, 1) := by decide +kernel
theorem jd_41_11__6 : decode jdk_41_method_11_code 6 = .ok (.if_icmp .lt 10, 3) := by decide +kernel
theorem jd_41_11__16 : decode jdk_41_method_11_code 16 = .ok (.iload_n 0, 1) := by decide +kernel
theorem jd_41_11__17 : decode jdk_41_method_11_code 17 = .ok (.ireturn, 1) := by decide +kernel
set_option maxRecDepth 65536 in
set_option maxHeartbeats 40000000 in
theorem rmP (l : Launch) (Z : State) (a0 : Array Value) (hw : ∀ d ∈ tables_1, d.before a0 Z = true) (i n : Int32) (h0 : Heap) (h1 : ¬ i < (0 : Int32)) (h2 : i < n) : Con l Z (⟨"jdk/internal/util/Preconditions", "checkIndex", "(IILjava/util/function/BiFunction;)I"⟩ : MethodName) jdk_41_method_11_code 3 (some .int) [] ({ frames := 0, cells := 0, slots := 0, locals := 0 } : Room) #[(.int i), (.int n), .null] h0 (fun v h L => v = some (.int i) ∧ L = [] ∧ h = h0) := by
  refine Con.of (plainFor_of_name pn_jdk_internal_util_Preconditions) ?_
  intro p e s m below meth c T X hx hby hml hown hnm hret eT hZ hsh Φ fin
  replace hown : s.vm.findClass "jdk/internal/util/Preconditions" = some m.cls := hown
  replace hml : 3 = c.maxLocals := hml.symm
  refine own_step (fun tq kq => castTop (ef_rmP m i n) kq) ?_
  refine own_iloadN X hx hby jd_41_11__0 rfl (pc' := 1) rfl ?_
  refine own_ifN X hx hby jd_41_11__1 ((if0 _ _).trans (flt h1).1) (pc' := 4) rfl ?_
  refine own_iloadN X hx hby jd_41_11__4 rfl (pc' := 5) rfl ?_
  refine own_iloadN X hx hby jd_41_11__5 rfl (pc' := 6) rfl ?_
  refine own_icmpY X hx hby jd_41_11__6 (tlt h2).1 (by decide) (pc' := 16) (by decide) ?_
  refine own_iloadN X hx hby jd_41_11__16 rfl (pc' := 17) rfl ?_
  exact own_retI X hx hby fin hret jd_41_11__17 (by decide) (by decide) ⟨rfl, rfl, eT⟩
theorem ef_rmOc (m : MethodId) (x0 : Int32) (x1 : Int32) : entryFrame m #[(.int x0), (.int x1)] 2 = mkF m 0 #[.val (.int x0), .val (.int x1)] [] := by first | (simp [entryFrame, mkF, argsToLocals, Value.category]; done) | rfl
theorem pn_java_util_Objects : plainName "java/util/Objects" = true := by first | (simp [plainName, overriddenIn]; done) | decide +kernel
theorem jd_31_17__0 : decode jdk_31_method_17_code 0 = .ok (.iload_n 0, 1) := by decide +kernel
theorem jd_31_17__1 : decode jdk_31_method_17_code 1 = .ok (.iload_n 1, 1) := by decide +kernel
theorem jd_31_17__2 : decode jdk_31_method_17_code 2 = .ok (.aconst_null, 1) := by decide +kernel
theorem jd_31_17__3 : decode jdk_31_method_17_code 3 = .ok (.invokestatic 105, 3) := by decide +kernel
theorem pd__IILjava_util_function_BiFunction__I : parseMethodDescriptor "(IILjava/util/function/BiFunction;)I" = some ⟨[.int, .int, (.object "java/util/function/BiFunction")], some .int⟩ := by decide +kernel
theorem jd_31_17__6 : decode jdk_31_method_17_code 6 = .ok (.ireturn, 1) := by decide +kernel
set_option maxRecDepth 65536 in
set_option maxHeartbeats 40000000 in
theorem rmOc (l : Launch) (Z : State) (a0 : Array Value) (hw : ∀ d ∈ tables_1, d.before a0 Z = true) (i n : Int32) (h0 : Heap) (h1 : ¬ i < (0 : Int32)) (h2 : i < n) : Con l Z (⟨"java/util/Objects", "checkIndex", "(II)I"⟩ : MethodName) jdk_31_method_17_code 2 (some .int) [] ({ frames := 1, cells := 0, slots := 0, locals := 20 } : Room) #[(.int i), (.int n)] h0 (fun v h L => v = some (.int i) ∧ L = [] ∧ h = h0) := by
  refine Con.of (plainFor_of_name pn_java_util_Objects) ?_
  intro p e s m below meth c T X hx hby hml hown hnm hret eT hZ hsh Φ fin
  replace hown : s.vm.findClass "java/util/Objects" = some m.cls := hown
  replace hml : 2 = c.maxLocals := hml.symm
  refine own_step (fun tq kq => castTop (ef_rmOc m i n) kq) ?_
  refine own_iloadN X hx hby jd_31_17__0 rfl (pc' := 1) rfl ?_
  refine own_iloadN X hx hby jd_31_17__1 rfl (pc' := 2) rfl ?_
  refine own_aconst_null X hx hby jd_31_17__2 (pc' := 3) rfl ?_
  refine own_callS X hx hby hZ (by exact hml) hown (own_w hw 130 rfl) (own_w hw 131 rfl) (own_w hw 132 rfl) (own_w hw 133 rfl) (by decide) eT 0 (by decide) (by decide) (by decide) (by decide) (argsL := [(.int i), (.int n), .null]) (rest := []) (lenOf pd__IILjava_util_function_BiFunction__I rfl) rfl (rmP l Z a0 hw i n h0 h1 h2) (Nat.le_of_eq rfl) jd_31_17__3 (pc' := 6) rfl ?_
  intro v1 T1 L1 X1 hQ1
  obtain ⟨rfl, rfl, e1⟩ := hQ1
  rw [List.append_nil] at X1
  replace e1 : T1.heap = h0 := e1
  show GoP p e below Φ (T1.setTop (mkF m 6 #[.val (.int i), .val (.int n)] [(.int i)]))
  exact own_retI X1 hx hby fin hret jd_31_17__6 (by decide) (by decide) ⟨rfl, rfl, e1⟩
theorem ef_rmE0 (m : MethodId) (x0 : Addr) (x1 : Int32) : entryFrame m #[(.ref x0), (.int x1)] 2 = mkF m 0 #[.val (.ref x0), .val (.int x1)] [] := by first | (simp [entryFrame, mkF, argsToLocals, Value.category]; done) | rfl
theorem jd_38_18__0 : decode jdk_38_method_18_code 0 = .ok (.aload_n 0, 1) := by decide +kernel
theorem jd_38_18__1 : decode jdk_38_method_18_code 1 = .ok (.getfield 9, 3) := by decide +kernel
theorem jd_38_18__4 : decode jdk_38_method_18_code 4 = .ok (.iload_n 1, 1) := by decide +kernel
theorem jd_38_18__5 : decode jdk_38_method_18_code 5 = .ok (.aaload, 1) := by decide +kernel
theorem jd_38_18__6 : decode jdk_38_method_18_code 6 = .ok (.areturn, 1) := by decide +kernel
set_option maxRecDepth 65536 in
set_option maxHeartbeats 40000000 in
theorem rmE0 (l : Launch) (Z : State) (a0 : Array Value) (hw : ∀ d ∈ tables_1, d.before a0 Z = true) (a es r : Addr) (w1 w2 w3 w4 w5 w6 w7 w8 w9 : Value) (h0 : Heap) (F : Fld Z h0 a "java/util/ArrayList" "elementData" "[Ljava/lang/Object;" (.ref es)) (V : AV Z h0 es (.object "java/lang/Object") [(.ref r), w1, w2, w3, w4, w5, w6, w7, w8, w9]) : Con l Z (⟨"java/util/ArrayList", "elementData", "(I)Ljava/lang/Object;"⟩ : MethodName) jdk_38_method_18_code 2 (some (.object "java/lang/Object")) [] ({ frames := 0, cells := 0, slots := 0, locals := 0 } : Room) #[(.ref a), (.int (0 : Int32))] h0 (fun v h L => v = some (.ref r) ∧ L = [] ∧ h = h0) := by
  refine Con.of (plainFor_of_name pn_java_util_ArrayList) ?_
  intro p e s m below meth c T X hx hby hml hown hnm hret eT hZ hsh Φ fin
  replace hown : s.vm.findClass "java/util/ArrayList" = some m.cls := hown
  replace hml : 2 = c.maxLocals := hml.symm
  refine own_step (fun tq kq => castTop (ef_rmE0 m a (0 : Int32)) kq) ?_
  refine own_aloadN X hx hby jd_38_18__0 rfl rfl (pc' := 1) rfl ?_
  refine own_getF X hx hby hZ hown (host := "") (Or.inl (own_w hw 47 rfl)) Via.refl eT F jd_38_18__1 (pc' := 4) rfl ?_
  intro T1 X1 e1
  refine own_iloadN X1 hx hby jd_38_18__4 rfl (pc' := 5) rfl ?_
  refine own_aaload X1 hx hby hZ e1 V rfl (by decide) (v := (.ref r)) rfl jd_38_18__5 (pc' := 6) rfl ?_
  exact own_retA X1 hx hby fin hret rfl rfl rfl jd_38_18__6 (by decide) (by decide) ⟨rfl, rfl, e1⟩
theorem ef_rmG0 (m : MethodId) (x0 : Addr) (x1 : Int32) : entryFrame m #[(.ref x0), (.int x1)] 2 = mkF m 0 #[.val (.ref x0), .val (.int x1)] [] := by first | (simp [entryFrame, mkF, argsToLocals, Value.category]; done) | rfl
theorem jd_38_20__0 : decode jdk_38_method_20_code 0 = .ok (.iload_n 1, 1) := by decide +kernel
theorem jd_38_20__1 : decode jdk_38_method_20_code 1 = .ok (.aload_n 0, 1) := by decide +kernel
theorem jd_38_20__2 : decode jdk_38_method_20_code 2 = .ok (.getfield 48, 3) := by decide +kernel
theorem jd_38_20__5 : decode jdk_38_method_20_code 5 = .ok (.invokestatic 118, 3) := by decide +kernel
theorem pd__II_I : parseMethodDescriptor "(II)I" = some ⟨[.int, .int], some .int⟩ := by decide +kernel
theorem jd_38_20__8 : decode jdk_38_method_20_code 8 = .ok (.pop, 1) := by decide +kernel
theorem jd_38_20__9 : decode jdk_38_method_20_code 9 = .ok (.aload_n 0, 1) := by decide +kernel
theorem jd_38_20__10 : decode jdk_38_method_20_code 10 = .ok (.iload_n 1, 1) := by decide +kernel
theorem jd_38_20__11 : decode jdk_38_method_20_code 11 = .ok (.invokevirtual 123, 3) := by decide +kernel
theorem pd__I_Ljava_lang_Object_ : parseMethodDescriptor "(I)Ljava/lang/Object;" = some ⟨[.int], some (.object "java/lang/Object")⟩ := by decide +kernel
theorem jd_38_20__14 : decode jdk_38_method_20_code 14 = .ok (.areturn, 1) := by decide +kernel
set_option maxRecDepth 65536 in
set_option maxHeartbeats 40000000 in
theorem rmG0 (l : Launch) (Z : State) (a0 : Array Value) (hw : ∀ d ∈ tables_1, d.before a0 Z = true) (a es r : Addr) (n : Int32) (w1 w2 w3 w4 w5 w6 w7 w8 w9 : Value) (h0 : Heap) (hn : (0 : Int32) < n) (E : Exa Z h0 a "java/util/ArrayList") (Fn : Fld Z h0 a "java/util/ArrayList" "size" "I" (.int n)) (Fe : Fld Z h0 a "java/util/ArrayList" "elementData" "[Ljava/lang/Object;" (.ref es)) (V : AV Z h0 es (.object "java/lang/Object") [(.ref r), w1, w2, w3, w4, w5, w6, w7, w8, w9]) : Con l Z (⟨"java/util/ArrayList", "get", "(I)Ljava/lang/Object;"⟩ : MethodName) jdk_38_method_20_code 2 (some (.object "java/lang/Object")) [] ({ frames := 2, cells := 0, slots := 0, locals := 40 } : Room) #[(.ref a), (.int (0 : Int32))] h0 (fun v h L => v = some (.ref r) ∧ L = [] ∧ h = h0) := by
  refine Con.of (plainFor_of_name pn_java_util_ArrayList) ?_
  intro p e s m below meth c T X hx hby hml hown hnm hret eT hZ hsh Φ fin
  replace hown : s.vm.findClass "java/util/ArrayList" = some m.cls := hown
  replace hml : 2 = c.maxLocals := hml.symm
  refine own_step (fun tq kq => castTop (ef_rmG0 m a (0 : Int32)) kq) ?_
  refine own_iloadN X hx hby jd_38_20__0 rfl (pc' := 1) rfl ?_
  refine own_aloadN X hx hby jd_38_20__1 rfl rfl (pc' := 2) rfl ?_
  refine own_getF X hx hby hZ hown (host := "") (Or.inl (own_w hw 73 rfl)) Via.refl eT Fn jd_38_20__2 (pc' := 5) rfl ?_
  intro T1 X1 e1
  refine own_callS X1 hx hby hZ (by exact hml) hown (own_w hw 126 rfl) (own_w hw 127 rfl) (own_w hw 128 rfl) (own_w hw 129 rfl) (by decide) e1 0 (by decide) (by decide) (by decide) (by decide) (argsL := [(.int (0 : Int32)), (.int n)]) (rest := []) (lenOf pd__II_I rfl) rfl (rmOc l Z a0 hw (0 : Int32) n h0 (by decide) hn) (Nat.le_of_eq rfl) jd_38_20__5 (pc' := 8) rfl ?_
  intro v2 T2 L2 X2 hQ2
  obtain ⟨rfl, rfl, e2⟩ := hQ2
  rw [List.append_nil] at X2
  replace e2 : T2.heap = h0 := e2
  show GoP p e below Φ (T2.setTop (mkF m 8 #[.val (.ref a), .val (.int (0 : Int32))] [(.int (0 : Int32))]))
  refine own_pop X2 hx hby jd_38_20__8 rfl (pc' := 9) rfl ?_
  refine own_aloadN X2 hx hby jd_38_20__9 rfl rfl (pc' := 10) rfl ?_
  refine own_iloadN X2 hx hby jd_38_20__10 rfl (pc' := 11) rfl ?_
  refine own_callV X2 hx hby hZ (by exact hml) hown (own_w hw 134 rfl) (own_w hw 135 rfl) (own_w hw 137 rfl) (own_w hw 136 rfl) (own_w hw 27 rfl) (own_w hw 138 rfl) (by decide) e2 0 (by decide) (by decide) (by decide) (by decide) (argsL := [(.int (0 : Int32))]) (rest := []) (lenOf pd__I_Ljava_lang_Object_ rfl) rfl (Nat.le_of_eq rfl) E (rmE0 l Z a0 hw a es r w1 w2 w3 w4 w5 w6 w7 w8 w9 h0 Fe V) jd_38_20__11 (pc' := 14) rfl ?_
  intro v3 T3 L3 X3 hQ3
  obtain ⟨rfl, rfl, e3⟩ := hQ3
  rw [List.append_nil] at X3
  replace e3 : T3.heap = h0 := e3
  show GoP p e below Φ (T3.setTop (mkF m 14 #[.val (.ref a), .val (.int (0 : Int32))] [(.ref r)]))
  exact own_retA X3 hx hby fin hret rfl rfl rfl jd_38_20__14 (by decide) (by decide) ⟨rfl, rfl, e3⟩
theorem ef_rmS0 (m : MethodId) (x0 : Addr) (x1 : Int32) (x2 : Addr) : entryFrame m #[(.ref x0), (.int x1), (.ref x2)] 4 = mkF m 0 #[.val (.ref x0), .val (.int x1), .val (.ref x2), .unset] [] := by first | (simp [entryFrame, mkF, argsToLocals, Value.category]; done) | rfl
theorem jd_38_23__0 : decode jdk_38_method_23_code 0 = .ok (.iload_n 1, 1) := by decide +kernel
theorem jd_38_23__1 : decode jdk_38_method_23_code 1 = .ok (.aload_n 0, 1) := by decide +kernel
theorem jd_38_23__2 : decode jdk_38_method_23_code 2 = .ok (.getfield 48, 3) := by decide +kernel
theorem jd_38_23__5 : decode jdk_38_method_23_code 5 = .ok (.invokestatic 118, 3) := by decide +kernel
theorem jd_38_23__8 : decode jdk_38_method_23_code 8 = .ok (.pop, 1) := by decide +kernel
theorem jd_38_23__9 : decode jdk_38_method_23_code 9 = .ok (.aload_n 0, 1) := by decide +kernel
theorem jd_38_23__10 : decode jdk_38_method_23_code 10 = .ok (.iload_n 1, 1) := by decide +kernel
theorem jd_38_23__11 : decode jdk_38_method_23_code 11 = .ok (.invokevirtual 123, 3) := by decide +kernel
theorem jd_38_23__14 : decode jdk_38_method_23_code 14 = .ok (.astore_n 3, 1) := by decide +kernel
theorem jd_38_23__15 : decode jdk_38_method_23_code 15 = .ok (.aload_n 0, 1) := by decide +kernel
theorem jd_38_23__16 : decode jdk_38_method_23_code 16 = .ok (.getfield 9, 3) := by decide +kernel
theorem jd_38_23__19 : decode jdk_38_method_23_code 19 = .ok (.iload_n 1, 1) := by decide +kernel
theorem jd_38_23__20 : decode jdk_38_method_23_code 20 = .ok (.aload_n 2, 1) := by decide +kernel
theorem jd_38_23__21 : decode jdk_38_method_23_code 21 = .ok (.aastore, 1) := by decide +kernel
theorem jd_38_23__22 : decode jdk_38_method_23_code 22 = .ok (.aload_n 3, 1) := by decide +kernel
theorem jd_38_23__23 : decode jdk_38_method_23_code 23 = .ok (.areturn, 1) := by decide +kernel
set_option maxRecDepth 65536 in
set_option maxHeartbeats 40000000 in
theorem rmS0 (l : Launch) (Z : State) (a0 : Array Value) (hw : ∀ d ∈ tables_1, d.before a0 Z = true) (a es r x : Addr) (n : Int32) (w1 w2 w3 w4 w5 w6 w7 w8 w9 : Value) (n0 : Nat) (h0 : Heap) (n0_es : n0 ≤ es) (ne_a_es : a ≠ es) (ne_x_es : x ≠ es) (hn : (0 : Int32) < n) (Y : CM Z h0 es "java/lang/Object") (Ex : Exa Z h0 x "[I") (E : Exa Z h0 a "java/util/ArrayList") (Fn : Fld Z h0 a "java/util/ArrayList" "size" "I" (.int n)) (Fe : Fld Z h0 a "java/util/ArrayList" "elementData" "[Ljava/lang/Object;" (.ref es)) (V : AV Z h0 es (.object "java/lang/Object") [(.ref r), w1, w2, w3, w4, w5, w6, w7, w8, w9]) : Con l Z (⟨"java/util/ArrayList", "set", "(ILjava/lang/Object;)Ljava/lang/Object;"⟩ : MethodName) jdk_38_method_23_code 4 (some (.object "java/lang/Object")) [] ({ frames := 2, cells := 0, slots := 0, locals := 40 } : Room) #[(.ref a), (.int (0 : Int32)), (.ref x)] h0 (fun v h L => v = some (.ref r) ∧ Fr n0 L ∧ Keep h0 h [es] ∧ AV Z h es (.object "java/lang/Object") [(.ref x), w1, w2, w3, w4, w5, w6, w7, w8, w9]) := by
  refine Con.of (plainFor_of_name pn_java_util_ArrayList) ?_
  intro p e s m below meth c T X hx hby hml hown hnm hret eT hZ hsh Φ fin
  replace hown : s.vm.findClass "java/util/ArrayList" = some m.cls := hown
  replace hml : 4 = c.maxLocals := hml.symm
  refine own_step (fun tq kq => castTop (ef_rmS0 m a (0 : Int32) x) kq) ?_
  have N0 := Fr.nil n0
  have K0 : Keep h0 h0 [es] := Keep.refl h0 [es]
  refine own_iloadN X hx hby jd_38_23__0 rfl (pc' := 1) rfl ?_
  refine own_aloadN X hx hby jd_38_23__1 rfl rfl (pc' := 2) rfl ?_
  refine own_getF X hx hby hZ hown (host := "") (Or.inl (own_w hw 73 rfl)) Via.refl eT Fn jd_38_23__2 (pc' := 5) rfl ?_
  intro T1 X1 e1
  refine own_callS X1 hx hby hZ (by exact hml) hown (own_w hw 126 rfl) (own_w hw 127 rfl) (own_w hw 128 rfl) (own_w hw 129 rfl) (by decide) e1 0 (by decide) (by decide) (by decide) (by decide) (argsL := [(.int (0 : Int32)), (.int n)]) (rest := []) (lenOf pd__II_I rfl) rfl (rmOc l Z a0 hw (0 : Int32) n h0 (by decide) hn) (Nat.le_of_eq rfl) jd_38_23__5 (pc' := 8) rfl ?_
  intro v2 T2 L2 X2 hQ2
  obtain ⟨rfl, rfl, e2⟩ := hQ2
  rw [List.append_nil] at X2
  replace e2 : T2.heap = h0 := e2
  show GoP p e below Φ (T2.setTop (mkF m 8 #[.val (.ref a), .val (.int (0 : Int32)), .val (.ref x), .unset] [(.int (0 : Int32))]))
  refine own_pop X2 hx hby jd_38_23__8 rfl (pc' := 9) rfl ?_
  refine own_aloadN X2 hx hby jd_38_23__9 rfl rfl (pc' := 10) rfl ?_
  refine own_iloadN X2 hx hby jd_38_23__10 rfl (pc' := 11) rfl ?_
  refine own_callV X2 hx hby hZ (by exact hml) hown (own_w hw 134 rfl) (own_w hw 135 rfl) (own_w hw 137 rfl) (own_w hw 136 rfl) (own_w hw 27 rfl) (own_w hw 138 rfl) (by decide) e2 0 (by decide) (by decide) (by decide) (by decide) (argsL := [(.int (0 : Int32))]) (rest := []) (lenOf pd__I_Ljava_lang_Object_ rfl) rfl (Nat.le_of_eq rfl) E (rmE0 l Z a0 hw a es r w1 w2 w3 w4 w5 w6 w7 w8 w9 h0 Fe V) jd_38_23__11 (pc' := 14) rfl ?_
  intro v3 T3 L3 X3 hQ3
  obtain ⟨rfl, rfl, e3⟩ := hQ3
  rw [List.append_nil] at X3
  replace e3 : T3.heap = h0 := e3
  show GoP p e below Φ (T3.setTop (mkF m 14 #[.val (.ref a), .val (.int (0 : Int32)), .val (.ref x), .unset] [(.ref r)]))
  refine own_astoreN X3 hx hby jd_38_23__14 rfl (Ls' := #[.val (.ref a), .val (.int (0 : Int32)), .val (.ref x), .val (.ref r)]) rfl (pc' := 15) rfl ?_
  refine own_aloadN X3 hx hby jd_38_23__15 rfl rfl (pc' := 16) rfl ?_
  refine own_getF X3 hx hby hZ hown (host := "") (Or.inl (own_w hw 47 rfl)) Via.refl e3 Fe jd_38_23__16 (pc' := 19) rfl ?_
  intro T4 X4 e4
  refine own_iloadN X4 hx hby jd_38_23__19 rfl (pc' := 20) rfl ?_
  refine own_aloadN X4 hx hby jd_38_23__20 rfl rfl (pc' := 21) rfl ?_
  refine own_aastore X4 hx hby hZ e4 V rfl (own_sto V Y (Ins.of_exa Ex (own_w hw 96 rfl))) (by decide) (Nat.le_of_ble_eq_true rfl) jd_38_23__21 (pc' := 22) rfl ?_
  intro T5 h5 X5 e5 W5 V5
  replace V5 : AV Z h5 es (.object "java/lang/Object") [(.ref x), w1, w2, w3, w4, w5, w6, w7, w8, w9] := V5
  have E6_a := E.wr W5
  have F7_size := Fn.other W5 (Or.inl ne_a_es)
  have F8_elementData := Fe.other W5 (Or.inl ne_a_es)
  have Y10_es := Y.wr W5
  have E11_x := Ex.wr W5
  have N5 := Fr.snoc X5 N0 n0_es
  have K5 : Keep h0 h5 [es] := K0.wr W5 (Or.inl (List.mem_of_getElem? (i := 0) rfl))
  refine own_aloadN X5 hx hby jd_38_23__22 rfl rfl (pc' := 23) rfl ?_
  exact own_retA X5 hx hby fin hret rfl rfl rfl jd_38_23__23 (by decide) (by decide) (by rw [e5]; exact ⟨rfl, N5, K5, V5⟩)
theorem ef_rmE1 (m : MethodId) (x0 : Addr) (x1 : Int32) : entryFrame m #[(.ref x0), (.int x1)] 2 = mkF m 0 #[.val (.ref x0), .val (.int x1)] [] := by first | (simp [entryFrame, mkF, argsToLocals, Value.category]; done) | rfl
set_option maxRecDepth 65536 in
set_option maxHeartbeats 40000000 in
theorem rmE1 (l : Launch) (Z : State) (a0 : Array Value) (hw : ∀ d ∈ tables_1, d.before a0 Z = true) (a es r : Addr) (w0 w2 w3 w4 w5 w6 w7 w8 w9 : Value) (h0 : Heap) (F : Fld Z h0 a "java/util/ArrayList" "elementData" "[Ljava/lang/Object;" (.ref es)) (V : AV Z h0 es (.object "java/lang/Object") [w0, (.ref r), w2, w3, w4, w5, w6, w7, w8, w9]) : Con l Z (⟨"java/util/ArrayList", "elementData", "(I)Ljava/lang/Object;"⟩ : MethodName) jdk_38_method_18_code 2 (some (.object "java/lang/Object")) [] ({ frames := 0, cells := 0, slots := 0, locals := 0 } : Room) #[(.ref a), (.int (1 : Int32))] h0 (fun v h L => v = some (.ref r) ∧ L = [] ∧ h = h0) := by
  refine Con.of (plainFor_of_name pn_java_util_ArrayList) ?_
  intro p e s m below meth c T X hx hby hml hown hnm hret eT hZ hsh Φ fin
  replace hown : s.vm.findClass "java/util/ArrayList" = some m.cls := hown
  replace hml : 2 = c.maxLocals := hml.symm
  refine own_step (fun tq kq => castTop (ef_rmE1 m a (1 : Int32)) kq) ?_
  refine own_aloadN X hx hby jd_38_18__0 rfl rfl (pc' := 1) rfl ?_
  refine own_getF X hx hby hZ hown (host := "") (Or.inl (own_w hw 47 rfl)) Via.refl eT F jd_38_18__1 (pc' := 4) rfl ?_
  intro T1 X1 e1
  refine own_iloadN X1 hx hby jd_38_18__4 rfl (pc' := 5) rfl ?_
  refine own_aaload X1 hx hby hZ e1 V rfl (by decide) (v := (.ref r)) rfl jd_38_18__5 (pc' := 6) rfl ?_
  exact own_retA X1 hx hby fin hret rfl rfl rfl jd_38_18__6 (by decide) (by decide) ⟨rfl, rfl, e1⟩
theorem ef_rmG1 (m : MethodId) (x0 : Addr) (x1 : Int32) : entryFrame m #[(.ref x0), (.int x1)] 2 = mkF m 0 #[.val (.ref x0), .val (.int x1)] [] := by first | (simp [entryFrame, mkF, argsToLocals, Value.category]; done) | rfl
set_option maxRecDepth 65536 in
set_option maxHeartbeats 40000000 in
theorem rmG1 (l : Launch) (Z : State) (a0 : Array Value) (hw : ∀ d ∈ tables_1, d.before a0 Z = true) (a es r : Addr) (n : Int32) (w0 w2 w3 w4 w5 w6 w7 w8 w9 : Value) (h0 : Heap) (hn : (1 : Int32) < n) (E : Exa Z h0 a "java/util/ArrayList") (Fn : Fld Z h0 a "java/util/ArrayList" "size" "I" (.int n)) (Fe : Fld Z h0 a "java/util/ArrayList" "elementData" "[Ljava/lang/Object;" (.ref es)) (V : AV Z h0 es (.object "java/lang/Object") [w0, (.ref r), w2, w3, w4, w5, w6, w7, w8, w9]) : Con l Z (⟨"java/util/ArrayList", "get", "(I)Ljava/lang/Object;"⟩ : MethodName) jdk_38_method_20_code 2 (some (.object "java/lang/Object")) [] ({ frames := 2, cells := 0, slots := 0, locals := 40 } : Room) #[(.ref a), (.int (1 : Int32))] h0 (fun v h L => v = some (.ref r) ∧ L = [] ∧ h = h0) := by
  refine Con.of (plainFor_of_name pn_java_util_ArrayList) ?_
  intro p e s m below meth c T X hx hby hml hown hnm hret eT hZ hsh Φ fin
  replace hown : s.vm.findClass "java/util/ArrayList" = some m.cls := hown
  replace hml : 2 = c.maxLocals := hml.symm
  refine own_step (fun tq kq => castTop (ef_rmG1 m a (1 : Int32)) kq) ?_
  refine own_iloadN X hx hby jd_38_20__0 rfl (pc' := 1) rfl ?_
  refine own_aloadN X hx hby jd_38_20__1 rfl rfl (pc' := 2) rfl ?_
  refine own_getF X hx hby hZ hown (host := "") (Or.inl (own_w hw 73 rfl)) Via.refl eT Fn jd_38_20__2 (pc' := 5) rfl ?_
  intro T1 X1 e1
  refine own_callS X1 hx hby hZ (by exact hml) hown (own_w hw 126 rfl) (own_w hw 127 rfl) (own_w hw 128 rfl) (own_w hw 129 rfl) (by decide) e1 0 (by decide) (by decide) (by decide) (by decide) (argsL := [(.int (1 : Int32)), (.int n)]) (rest := []) (lenOf pd__II_I rfl) rfl (rmOc l Z a0 hw (1 : Int32) n h0 (by decide) hn) (Nat.le_of_eq rfl) jd_38_20__5 (pc' := 8) rfl ?_
  intro v2 T2 L2 X2 hQ2
  obtain ⟨rfl, rfl, e2⟩ := hQ2
  rw [List.append_nil] at X2
  replace e2 : T2.heap = h0 := e2
  show GoP p e below Φ (T2.setTop (mkF m 8 #[.val (.ref a), .val (.int (1 : Int32))] [(.int (1 : Int32))]))
  refine own_pop X2 hx hby jd_38_20__8 rfl (pc' := 9) rfl ?_
  refine own_aloadN X2 hx hby jd_38_20__9 rfl rfl (pc' := 10) rfl ?_
  refine own_iloadN X2 hx hby jd_38_20__10 rfl (pc' := 11) rfl ?_
  refine own_callV X2 hx hby hZ (by exact hml) hown (own_w hw 134 rfl) (own_w hw 135 rfl) (own_w hw 137 rfl) (own_w hw 136 rfl) (own_w hw 27 rfl) (own_w hw 138 rfl) (by decide) e2 0 (by decide) (by decide) (by decide) (by decide) (argsL := [(.int (1 : Int32))]) (rest := []) (lenOf pd__I_Ljava_lang_Object_ rfl) rfl (Nat.le_of_eq rfl) E (rmE1 l Z a0 hw a es r w0 w2 w3 w4 w5 w6 w7 w8 w9 h0 Fe V) jd_38_20__11 (pc' := 14) rfl ?_
  intro v3 T3 L3 X3 hQ3
  obtain ⟨rfl, rfl, e3⟩ := hQ3
  rw [List.append_nil] at X3
  replace e3 : T3.heap = h0 := e3
  show GoP p e below Φ (T3.setTop (mkF m 14 #[.val (.ref a), .val (.int (1 : Int32))] [(.ref r)]))
  exact own_retA X3 hx hby fin hret rfl rfl rfl jd_38_20__14 (by decide) (by decide) ⟨rfl, rfl, e3⟩
theorem ef_rmS1 (m : MethodId) (x0 : Addr) (x1 : Int32) (x2 : Addr) : entryFrame m #[(.ref x0), (.int x1), (.ref x2)] 4 = mkF m 0 #[.val (.ref x0), .val (.int x1), .val (.ref x2), .unset] [] := by first | (simp [entryFrame, mkF, argsToLocals, Value.category]; done) | rfl
set_option maxRecDepth 65536 in
set_option maxHeartbeats 40000000 in
theorem rmS1 (l : Launch) (Z : State) (a0 : Array Value) (hw : ∀ d ∈ tables_1, d.before a0 Z = true) (a es r x : Addr) (n : Int32) (w0 w2 w3 w4 w5 w6 w7 w8 w9 : Value) (n0 : Nat) (h0 : Heap) (n0_es : n0 ≤ es) (ne_a_es : a ≠ es) (ne_x_es : x ≠ es) (hn : (1 : Int32) < n) (Y : CM Z h0 es "java/lang/Object") (Ex : Exa Z h0 x "[I") (E : Exa Z h0 a "java/util/ArrayList") (Fn : Fld Z h0 a "java/util/ArrayList" "size" "I" (.int n)) (Fe : Fld Z h0 a "java/util/ArrayList" "elementData" "[Ljava/lang/Object;" (.ref es)) (V : AV Z h0 es (.object "java/lang/Object") [w0, (.ref r), w2, w3, w4, w5, w6, w7, w8, w9]) : Con l Z (⟨"java/util/ArrayList", "set", "(ILjava/lang/Object;)Ljava/lang/Object;"⟩ : MethodName) jdk_38_method_23_code 4 (some (.object "java/lang/Object")) [] ({ frames := 2, cells := 0, slots := 0, locals := 40 } : Room) #[(.ref a), (.int (1 : Int32)), (.ref x)] h0 (fun v h L => v = some (.ref r) ∧ Fr n0 L ∧ Keep h0 h [es] ∧ AV Z h es (.object "java/lang/Object") [w0, (.ref x), w2, w3, w4, w5, w6, w7, w8, w9]) := by
  refine Con.of (plainFor_of_name pn_java_util_ArrayList) ?_
  intro p e s m below meth c T X hx hby hml hown hnm hret eT hZ hsh Φ fin
  replace hown : s.vm.findClass "java/util/ArrayList" = some m.cls := hown
  replace hml : 4 = c.maxLocals := hml.symm
  refine own_step (fun tq kq => castTop (ef_rmS1 m a (1 : Int32) x) kq) ?_
  have N0 := Fr.nil n0
  have K0 : Keep h0 h0 [es] := Keep.refl h0 [es]
  refine own_iloadN X hx hby jd_38_23__0 rfl (pc' := 1) rfl ?_
  refine own_aloadN X hx hby jd_38_23__1 rfl rfl (pc' := 2) rfl ?_
  refine own_getF X hx hby hZ hown (host := "") (Or.inl (own_w hw 73 rfl)) Via.refl eT Fn jd_38_23__2 (pc' := 5) rfl ?_
  intro T1 X1 e1
  refine own_callS X1 hx hby hZ (by exact hml) hown (own_w hw 126 rfl) (own_w hw 127 rfl) (own_w hw 128 rfl) (own_w hw 129 rfl) (by decide) e1 0 (by decide) (by decide) (by decide) (by decide) (argsL := [(.int (1 : Int32)), (.int n)]) (rest := []) (lenOf pd__II_I rfl) rfl (rmOc l Z a0 hw (1 : Int32) n h0 (by decide) hn) (Nat.le_of_eq rfl) jd_38_23__5 (pc' := 8) rfl ?_
  intro v2 T2 L2 X2 hQ2
  obtain ⟨rfl, rfl, e2⟩ := hQ2
  rw [List.append_nil] at X2
  replace e2 : T2.heap = h0 := e2
  show GoP p e below Φ (T2.setTop (mkF m 8 #[.val (.ref a), .val (.int (1 : Int32)), .val (.ref x), .unset] [(.int (1 : Int32))]))
  refine own_pop X2 hx hby jd_38_23__8 rfl (pc' := 9) rfl ?_
  refine own_aloadN X2 hx hby jd_38_23__9 rfl rfl (pc' := 10) rfl ?_
  refine own_iloadN X2 hx hby jd_38_23__10 rfl (pc' := 11) rfl ?_
  refine own_callV X2 hx hby hZ (by exact hml) hown (own_w hw 134 rfl) (own_w hw 135 rfl) (own_w hw 137 rfl) (own_w hw 136 rfl) (own_w hw 27 rfl) (own_w hw 138 rfl) (by decide) e2 0 (by decide) (by decide) (by decide) (by decide) (argsL := [(.int (1 : Int32))]) (rest := []) (lenOf pd__I_Ljava_lang_Object_ rfl) rfl (Nat.le_of_eq rfl) E (rmE1 l Z a0 hw a es r w0 w2 w3 w4 w5 w6 w7 w8 w9 h0 Fe V) jd_38_23__11 (pc' := 14) rfl ?_
  intro v3 T3 L3 X3 hQ3
  obtain ⟨rfl, rfl, e3⟩ := hQ3
  rw [List.append_nil] at X3
  replace e3 : T3.heap = h0 := e3
  show GoP p e below Φ (T3.setTop (mkF m 14 #[.val (.ref a), .val (.int (1 : Int32)), .val (.ref x), .unset] [(.ref r)]))
  refine own_astoreN X3 hx hby jd_38_23__14 rfl (Ls' := #[.val (.ref a), .val (.int (1 : Int32)), .val (.ref x), .val (.ref r)]) rfl (pc' := 15) rfl ?_
  refine own_aloadN X3 hx hby jd_38_23__15 rfl rfl (pc' := 16) rfl ?_
  refine own_getF X3 hx hby hZ hown (host := "") (Or.inl (own_w hw 47 rfl)) Via.refl e3 Fe jd_38_23__16 (pc' := 19) rfl ?_
  intro T4 X4 e4
  refine own_iloadN X4 hx hby jd_38_23__19 rfl (pc' := 20) rfl ?_
  refine own_aloadN X4 hx hby jd_38_23__20 rfl rfl (pc' := 21) rfl ?_
  refine own_aastore X4 hx hby hZ e4 V rfl (own_sto V Y (Ins.of_exa Ex (own_w hw 96 rfl))) (by decide) (Nat.le_of_ble_eq_true rfl) jd_38_23__21 (pc' := 22) rfl ?_
  intro T5 h5 X5 e5 W5 V5
  replace V5 : AV Z h5 es (.object "java/lang/Object") [w0, (.ref x), w2, w3, w4, w5, w6, w7, w8, w9] := V5
  have E6_a := E.wr W5
  have F7_size := Fn.other W5 (Or.inl ne_a_es)
  have F8_elementData := Fe.other W5 (Or.inl ne_a_es)
  have Y10_es := Y.wr W5
  have E11_x := Ex.wr W5
  have N5 := Fr.snoc X5 N0 n0_es
  have K5 : Keep h0 h5 [es] := K0.wr W5 (Or.inl (List.mem_of_getElem? (i := 0) rfl))
  refine own_aloadN X5 hx hby jd_38_23__22 rfl rfl (pc' := 23) rfl ?_
  exact own_retA X5 hx hby fin hret rfl rfl rfl jd_38_23__23 (by decide) (by decide) (by rw [e5]; exact ⟨rfl, N5, K5, V5⟩)
theorem ef_rmE2 (m : MethodId) (x0 : Addr) (x1 : Int32) : entryFrame m #[(.ref x0), (.int x1)] 2 = mkF m 0 #[.val (.ref x0), .val (.int x1)] [] := by first | (simp [entryFrame, mkF, argsToLocals, Value.category]; done) | rfl
set_option maxRecDepth 65536 in
set_option maxHeartbeats 40000000 in
theorem rmE2 (l : Launch) (Z : State) (a0 : Array Value) (hw : ∀ d ∈ tables_1, d.before a0 Z = true) (a es r : Addr) (w0 w1 w3 w4 w5 w6 w7 w8 w9 : Value) (h0 : Heap) (F : Fld Z h0 a "java/util/ArrayList" "elementData" "[Ljava/lang/Object;" (.ref es)) (V : AV Z h0 es (.object "java/lang/Object") [w0, w1, (.ref r), w3, w4, w5, w6, w7, w8, w9]) : Con l Z (⟨"java/util/ArrayList", "elementData", "(I)Ljava/lang/Object;"⟩ : MethodName) jdk_38_method_18_code 2 (some (.object "java/lang/Object")) [] ({ frames := 0, cells := 0, slots := 0, locals := 0 } : Room) #[(.ref a), (.int (2 : Int32))] h0 (fun v h L => v = some (.ref r) ∧ L = [] ∧ h = h0) := by
  refine Con.of (plainFor_of_name pn_java_util_ArrayList) ?_
  intro p e s m below meth c T X hx hby hml hown hnm hret eT hZ hsh Φ fin
  replace hown : s.vm.findClass "java/util/ArrayList" = some m.cls := hown
  replace hml : 2 = c.maxLocals := hml.symm
  refine own_step (fun tq kq => castTop (ef_rmE2 m a (2 : Int32)) kq) ?_
  refine own_aloadN X hx hby jd_38_18__0 rfl rfl (pc' := 1) rfl ?_
  refine own_getF X hx hby hZ hown (host := "") (Or.inl (own_w hw 47 rfl)) Via.refl eT F jd_38_18__1 (pc' := 4) rfl ?_
  intro T1 X1 e1
  refine own_iloadN X1 hx hby jd_38_18__4 rfl (pc' := 5) rfl ?_
  refine own_aaload X1 hx hby hZ e1 V rfl (by decide) (v := (.ref r)) rfl jd_38_18__5 (pc' := 6) rfl ?_
  exact own_retA X1 hx hby fin hret rfl rfl rfl jd_38_18__6 (by decide) (by decide) ⟨rfl, rfl, e1⟩
theorem ef_rmG2 (m : MethodId) (x0 : Addr) (x1 : Int32) : entryFrame m #[(.ref x0), (.int x1)] 2 = mkF m 0 #[.val (.ref x0), .val (.int x1)] [] := by first | (simp [entryFrame, mkF, argsToLocals, Value.category]; done) | rfl
set_option maxRecDepth 65536 in
set_option maxHeartbeats 40000000 in
theorem rmG2 (l : Launch) (Z : State) (a0 : Array Value) (hw : ∀ d ∈ tables_1, d.before a0 Z = true) (a es r : Addr) (n : Int32) (w0 w1 w3 w4 w5 w6 w7 w8 w9 : Value) (h0 : Heap) (hn : (2 : Int32) < n) (E : Exa Z h0 a "java/util/ArrayList") (Fn : Fld Z h0 a "java/util/ArrayList" "size" "I" (.int n)) (Fe : Fld Z h0 a "java/util/ArrayList" "elementData" "[Ljava/lang/Object;" (.ref es)) (V : AV Z h0 es (.object "java/lang/Object") [w0, w1, (.ref r), w3, w4, w5, w6, w7, w8, w9]) : Con l Z (⟨"java/util/ArrayList", "get", "(I)Ljava/lang/Object;"⟩ : MethodName) jdk_38_method_20_code 2 (some (.object "java/lang/Object")) [] ({ frames := 2, cells := 0, slots := 0, locals := 40 } : Room) #[(.ref a), (.int (2 : Int32))] h0 (fun v h L => v = some (.ref r) ∧ L = [] ∧ h = h0) := by
  refine Con.of (plainFor_of_name pn_java_util_ArrayList) ?_
  intro p e s m below meth c T X hx hby hml hown hnm hret eT hZ hsh Φ fin
  replace hown : s.vm.findClass "java/util/ArrayList" = some m.cls := hown
  replace hml : 2 = c.maxLocals := hml.symm
  refine own_step (fun tq kq => castTop (ef_rmG2 m a (2 : Int32)) kq) ?_
  refine own_iloadN X hx hby jd_38_20__0 rfl (pc' := 1) rfl ?_
  refine own_aloadN X hx hby jd_38_20__1 rfl rfl (pc' := 2) rfl ?_
  refine own_getF X hx hby hZ hown (host := "") (Or.inl (own_w hw 73 rfl)) Via.refl eT Fn jd_38_20__2 (pc' := 5) rfl ?_
  intro T1 X1 e1
  refine own_callS X1 hx hby hZ (by exact hml) hown (own_w hw 126 rfl) (own_w hw 127 rfl) (own_w hw 128 rfl) (own_w hw 129 rfl) (by decide) e1 0 (by decide) (by decide) (by decide) (by decide) (argsL := [(.int (2 : Int32)), (.int n)]) (rest := []) (lenOf pd__II_I rfl) rfl (rmOc l Z a0 hw (2 : Int32) n h0 (by decide) hn) (Nat.le_of_eq rfl) jd_38_20__5 (pc' := 8) rfl ?_
  intro v2 T2 L2 X2 hQ2
  obtain ⟨rfl, rfl, e2⟩ := hQ2
  rw [List.append_nil] at X2
  replace e2 : T2.heap = h0 := e2
  show GoP p e below Φ (T2.setTop (mkF m 8 #[.val (.ref a), .val (.int (2 : Int32))] [(.int (2 : Int32))]))
  refine own_pop X2 hx hby jd_38_20__8 rfl (pc' := 9) rfl ?_
  refine own_aloadN X2 hx hby jd_38_20__9 rfl rfl (pc' := 10) rfl ?_
  refine own_iloadN X2 hx hby jd_38_20__10 rfl (pc' := 11) rfl ?_
  refine own_callV X2 hx hby hZ (by exact hml) hown (own_w hw 134 rfl) (own_w hw 135 rfl) (own_w hw 137 rfl) (own_w hw 136 rfl) (own_w hw 27 rfl) (own_w hw 138 rfl) (by decide) e2 0 (by decide) (by decide) (by decide) (by decide) (argsL := [(.int (2 : Int32))]) (rest := []) (lenOf pd__I_Ljava_lang_Object_ rfl) rfl (Nat.le_of_eq rfl) E (rmE2 l Z a0 hw a es r w0 w1 w3 w4 w5 w6 w7 w8 w9 h0 Fe V) jd_38_20__11 (pc' := 14) rfl ?_
  intro v3 T3 L3 X3 hQ3
  obtain ⟨rfl, rfl, e3⟩ := hQ3
  rw [List.append_nil] at X3
  replace e3 : T3.heap = h0 := e3
  show GoP p e below Φ (T3.setTop (mkF m 14 #[.val (.ref a), .val (.int (2 : Int32))] [(.ref r)]))
  exact own_retA X3 hx hby fin hret rfl rfl rfl jd_38_20__14 (by decide) (by decide) ⟨rfl, rfl, e3⟩
theorem ef_rmS2 (m : MethodId) (x0 : Addr) (x1 : Int32) (x2 : Addr) : entryFrame m #[(.ref x0), (.int x1), (.ref x2)] 4 = mkF m 0 #[.val (.ref x0), .val (.int x1), .val (.ref x2), .unset] [] := by first | (simp [entryFrame, mkF, argsToLocals, Value.category]; done) | rfl
set_option maxRecDepth 65536 in
set_option maxHeartbeats 40000000 in
theorem rmS2 (l : Launch) (Z : State) (a0 : Array Value) (hw : ∀ d ∈ tables_1, d.before a0 Z = true) (a es r x : Addr) (n : Int32) (w0 w1 w3 w4 w5 w6 w7 w8 w9 : Value) (n0 : Nat) (h0 : Heap) (n0_es : n0 ≤ es) (ne_a_es : a ≠ es) (ne_x_es : x ≠ es) (hn : (2 : Int32) < n) (Y : CM Z h0 es "java/lang/Object") (Ex : Exa Z h0 x "[I") (E : Exa Z h0 a "java/util/ArrayList") (Fn : Fld Z h0 a "java/util/ArrayList" "size" "I" (.int n)) (Fe : Fld Z h0 a "java/util/ArrayList" "elementData" "[Ljava/lang/Object;" (.ref es)) (V : AV Z h0 es (.object "java/lang/Object") [w0, w1, (.ref r), w3, w4, w5, w6, w7, w8, w9]) : Con l Z (⟨"java/util/ArrayList", "set", "(ILjava/lang/Object;)Ljava/lang/Object;"⟩ : MethodName) jdk_38_method_23_code 4 (some (.object "java/lang/Object")) [] ({ frames := 2, cells := 0, slots := 0, locals := 40 } : Room) #[(.ref a), (.int (2 : Int32)), (.ref x)] h0 (fun v h L => v = some (.ref r) ∧ Fr n0 L ∧ Keep h0 h [es] ∧ AV Z h es (.object "java/lang/Object") [w0, w1, (.ref x), w3, w4, w5, w6, w7, w8, w9]) := by
  refine Con.of (plainFor_of_name pn_java_util_ArrayList) ?_
  intro p e s m below meth c T X hx hby hml hown hnm hret eT hZ hsh Φ fin
  replace hown : s.vm.findClass "java/util/ArrayList" = some m.cls := hown
  replace hml : 4 = c.maxLocals := hml.symm
  refine own_step (fun tq kq => castTop (ef_rmS2 m a (2 : Int32) x) kq) ?_
  have N0 := Fr.nil n0
  have K0 : Keep h0 h0 [es] := Keep.refl h0 [es]
  refine own_iloadN X hx hby jd_38_23__0 rfl (pc' := 1) rfl ?_
  refine own_aloadN X hx hby jd_38_23__1 rfl rfl (pc' := 2) rfl ?_
  refine own_getF X hx hby hZ hown (host := "") (Or.inl (own_w hw 73 rfl)) Via.refl eT Fn jd_38_23__2 (pc' := 5) rfl ?_
  intro T1 X1 e1
  refine own_callS X1 hx hby hZ (by exact hml) hown (own_w hw 126 rfl) (own_w hw 127 rfl) (own_w hw 128 rfl) (own_w hw 129 rfl) (by decide) e1 0 (by decide) (by decide) (by decide) (by decide) (argsL := [(.int (2 : Int32)), (.int n)]) (rest := []) (lenOf pd__II_I rfl) rfl (rmOc l Z a0 hw (2 : Int32) n h0 (by decide) hn) (Nat.le_of_eq rfl) jd_38_23__5 (pc' := 8) rfl ?_
  intro v2 T2 L2 X2 hQ2
  obtain ⟨rfl, rfl, e2⟩ := hQ2
  rw [List.append_nil] at X2
  replace e2 : T2.heap = h0 := e2
  show GoP p e below Φ (T2.setTop (mkF m 8 #[.val (.ref a), .val (.int (2 : Int32)), .val (.ref x), .unset] [(.int (2 : Int32))]))
  refine own_pop X2 hx hby jd_38_23__8 rfl (pc' := 9) rfl ?_
  refine own_aloadN X2 hx hby jd_38_23__9 rfl rfl (pc' := 10) rfl ?_
  refine own_iloadN X2 hx hby jd_38_23__10 rfl (pc' := 11) rfl ?_
  refine own_callV X2 hx hby hZ (by exact hml) hown (own_w hw 134 rfl) (own_w hw 135 rfl) (own_w hw 137 rfl) (own_w hw 136 rfl) (own_w hw 27 rfl) (own_w hw 138 rfl) (by decide) e2 0 (by decide) (by decide) (by decide) (by decide) (argsL := [(.int (2 : Int32))]) (rest := []) (lenOf pd__I_Ljava_lang_Object_ rfl) rfl (Nat.le_of_eq rfl) E (rmE2 l Z a0 hw a es r w0 w1 w3 w4 w5 w6 w7 w8 w9 h0 Fe V) jd_38_23__11 (pc' := 14) rfl ?_
  intro v3 T3 L3 X3 hQ3
  obtain ⟨rfl, rfl, e3⟩ := hQ3
  rw [List.append_nil] at X3
  replace e3 : T3.heap = h0 := e3
  show GoP p e below Φ (T3.setTop (mkF m 14 #[.val (.ref a), .val (.int (2 : Int32)), .val (.ref x), .unset] [(.ref r)]))
  refine own_astoreN X3 hx hby jd_38_23__14 rfl (Ls' := #[.val (.ref a), .val (.int (2 : Int32)), .val (.ref x), .val (.ref r)]) rfl (pc' := 15) rfl ?_
  refine own_aloadN X3 hx hby jd_38_23__15 rfl rfl (pc' := 16) rfl ?_
  refine own_getF X3 hx hby hZ hown (host := "") (Or.inl (own_w hw 47 rfl)) Via.refl e3 Fe jd_38_23__16 (pc' := 19) rfl ?_
  intro T4 X4 e4
  refine own_iloadN X4 hx hby jd_38_23__19 rfl (pc' := 20) rfl ?_
  refine own_aloadN X4 hx hby jd_38_23__20 rfl rfl (pc' := 21) rfl ?_
  refine own_aastore X4 hx hby hZ e4 V rfl (own_sto V Y (Ins.of_exa Ex (own_w hw 96 rfl))) (by decide) (Nat.le_of_ble_eq_true rfl) jd_38_23__21 (pc' := 22) rfl ?_
  intro T5 h5 X5 e5 W5 V5
  replace V5 : AV Z h5 es (.object "java/lang/Object") [w0, w1, (.ref x), w3, w4, w5, w6, w7, w8, w9] := V5
  have E6_a := E.wr W5
  have F7_size := Fn.other W5 (Or.inl ne_a_es)
  have F8_elementData := Fe.other W5 (Or.inl ne_a_es)
  have Y10_es := Y.wr W5
  have E11_x := Ex.wr W5
  have N5 := Fr.snoc X5 N0 n0_es
  have K5 : Keep h0 h5 [es] := K0.wr W5 (Or.inl (List.mem_of_getElem? (i := 0) rfl))
  refine own_aloadN X5 hx hby jd_38_23__22 rfl rfl (pc' := 23) rfl ?_
  exact own_retA X5 hx hby fin hret rfl rfl rfl jd_38_23__23 (by decide) (by decide) (by rw [e5]; exact ⟨rfl, N5, K5, V5⟩)
theorem ef_rmAC (m : MethodId) (x0 : Addr) : entryFrame m #[(.ref x0)] 1 = mkF m 0 #[.val (.ref x0)] [] := by first | (simp [entryFrame, mkF, argsToLocals, Value.category]; done) | rfl
theorem pn_java_util_AbstractCollection : plainName "java/util/AbstractCollection" = true := by first | (simp [plainName, overriddenIn]; done) | decide +kernel
theorem jd_22_1__0 : decode jdk_22_method_1_code 0 = .ok (.aload_n 0, 1) := by decide +kernel
theorem jd_22_1__1 : decode jdk_22_method_1_code 1 = .ok (.invokespecial 1, 3) := by decide +kernel
theorem jd_22_1__4 : decode jdk_22_method_1_code 4 = .ok (.return_, 1) := by decide +kernel
set_option maxRecDepth 65536 in
set_option maxHeartbeats 40000000 in
theorem rmAC (l : Launch) (Z : State) (a0 : Array Value) (hw : ∀ d ∈ tables_1, d.before a0 Z = true) (a : Addr) (h0 : Heap)  : Con l Z (⟨"java/util/AbstractCollection", "<init>", "()V"⟩ : MethodName) jdk_22_method_1_code 1 none [] ({ frames := 1, cells := 0, slots := 0, locals := 12 } : Room) #[(.ref a)] h0 (fun v h L => v = none ∧ L = [] ∧ h = h0) := by
  refine Con.of (plainFor_of_name pn_java_util_AbstractCollection) ?_
  intro p e s m below meth c T X hx hby hml hown hnm hret eT hZ hsh Φ fin
  replace hown : s.vm.findClass "java/util/AbstractCollection" = some m.cls := hown
  replace hml : 1 = c.maxLocals := hml.symm
  refine own_step (fun tq kq => castTop (ef_rmAC m a) kq) ?_
  refine own_aloadN X hx hby jd_22_1__0 rfl rfl (pc' := 1) rfl ?_
  obtain ⟨T1, X1, e1, st1⟩ := initO X hx hZ hown (own_w hw 43 rfl) (own_w hw 15 rfl) (own_w hw 16 rfl) eT (g := (mkF m 1 #[.val (.ref a)] [(.ref a)])) rfl hml rfl (hb hby jd_22_1__1) (by decide) (W := 0) (by show 2 * 0 + _ ≤ _; exact Nat.le_of_eq rfl) (by decide)
  refine own_step st1 ?_
  show GoP p e below Φ (T1.setTop (mkF m 4 #[.val (.ref a)] []))
  exact own_ret0 X1 hx hby fin hret jd_22_1__4 (by decide) (by decide) ⟨rfl, rfl, e1⟩
theorem ef_rmAL (m : MethodId) (x0 : Addr) : entryFrame m #[(.ref x0)] 1 = mkF m 0 #[.val (.ref x0)] [] := by first | (simp [entryFrame, mkF, argsToLocals, Value.category]; done) | rfl
theorem pn_java_util_AbstractList : plainName "java/util/AbstractList" = true := by first | (simp [plainName, overriddenIn]; done) | decide +kernel
theorem jd_39_1__0 : decode jdk_39_method_1_code 0 = .ok (.aload_n 0, 1) := by decide +kernel
theorem jd_39_1__1 : decode jdk_39_method_1_code 1 = .ok (.invokespecial 1, 3) := by decide +kernel
theorem pd___V : parseMethodDescriptor "()V" = some ⟨[], none⟩ := by decide +kernel
theorem jd_39_1__4 : decode jdk_39_method_1_code 4 = .ok (.aload_n 0, 1) := by decide +kernel
theorem jd_39_1__5 : decode jdk_39_method_1_code 5 = .ok (.iconst 0, 1) := by decide +kernel
theorem jd_39_1__6 : decode jdk_39_method_1_code 6 = .ok (.putfield 7, 3) := by decide +kernel
theorem jd_39_1__9 : decode jdk_39_method_1_code 9 = .ok (.return_, 1) := by decide +kernel
set_option maxRecDepth 65536 in
set_option maxHeartbeats 40000000 in
theorem rmAL (l : Launch) (Z : State) (a0 : Array Value) (hw : ∀ d ∈ tables_1, d.before a0 Z = true) (a aD : Addr) (n0 : Nat) (h0 : Heap) (n0_a : n0 ≤ a) (E : Exa Z h0 a "java/util/ArrayList") (F1 : Fld Z h0 a "java/util/AbstractList" "modCount" "I" (.int (0 : Int32))) (F2 : Fld Z h0 a "java/util/ArrayList" "elementData" "[Ljava/lang/Object;" .null) (F3 : Fld Z h0 a "java/util/ArrayList" "size" "I" (.int (0 : Int32))) (S : Sta Z h0 "java/util/ArrayList" "DEFAULTCAPACITY_EMPTY_ELEMENTDATA" "[Ljava/lang/Object;" (.ref aD)) : Con l Z (⟨"java/util/AbstractList", "<init>", "()V"⟩ : MethodName) jdk_39_method_1_code 1 none [] ({ frames := 2, cells := 0, slots := 0, locals := 24 } : Room) #[(.ref a)] h0 (fun v h L => v = none ∧ Fr n0 L ∧ Keep h0 h [a] ∧ Exa Z h a "java/util/ArrayList" ∧ Fld Z h a "java/util/AbstractList" "modCount" "I" (.int (0 : Int32)) ∧ Fld Z h a "java/util/ArrayList" "elementData" "[Ljava/lang/Object;" .null ∧ Fld Z h a "java/util/ArrayList" "size" "I" (.int (0 : Int32)) ∧ Sta Z h "java/util/ArrayList" "DEFAULTCAPACITY_EMPTY_ELEMENTDATA" "[Ljava/lang/Object;" (.ref aD)) := by
  refine Con.of (plainFor_of_name pn_java_util_AbstractList) ?_
  intro p e s m below meth c T X hx hby hml hown hnm hret eT hZ hsh Φ fin
  replace hown : s.vm.findClass "java/util/AbstractList" = some m.cls := hown
  replace hml : 1 = c.maxLocals := hml.symm
  refine own_step (fun tq kq => castTop (ef_rmAL m a) kq) ?_
  have N0 := Fr.nil n0
  have K0 : Keep h0 h0 [a] := Keep.refl h0 [a]
  refine own_aloadN X hx hby jd_39_1__0 rfl rfl (pc' := 1) rfl ?_
  refine own_callI X hx hby hZ (by exact hml) hown rfl (own_w hw 37 rfl) (own_w hw 38 rfl) (own_w hw 41 rfl) (own_w hw 42 rfl) (by decide) eT 0 (by decide) (by decide) (by decide) (by decide) (argsL := []) (rest := []) (lenOf pd___V rfl) rfl (Nat.le_of_eq rfl) (rmAC l Z a0 hw a h0) jd_39_1__1 (pc' := 4) rfl ?_
  intro v1 T1 L1 X1 hQ1
  obtain ⟨rfl, rfl, e1⟩ := hQ1
  rw [List.append_nil] at X1
  replace e1 : T1.heap = h0 := e1
  show GoP p e below Φ (T1.setTop (mkF m 4 #[.val (.ref a)] []))
  refine own_aloadN X1 hx hby jd_39_1__4 rfl rfl (pc' := 5) rfl ?_
  refine own_iconst X1 hx hby jd_39_1__5 (v := (0 : Int32)) rfl (pc' := 6) rfl ?_
  refine own_putF X1 hx hby hZ hown (host := "") (Or.inl (own_w hw 44 rfl)) Via.refl e1 F1 E (Or.inl (own_w hw 45 rfl)) (own_w hw 26 rfl) (ty := .int) (by decide) rfl rfl jd_39_1__6 (pc' := 9) rfl ?_
  intro T2 h2 X2 e2 W2
  have E3_a := E.wr W2
  have F4_modCount := F1.same W2
  have F5_elementData := F2.other W2 (Or.inr (slot_ne (Or.inl (own_w hw 48 rfl)) (Or.inl (own_w hw 45 rfl)) (by decide) (t := (.array (.object "java/lang/Object"))) (t' := .int) (by decide) (by decide)))
  have F6_size := F3.other W2 (Or.inr (slot_ne (Or.inl (own_w hw 74 rfl)) (Or.inl (own_w hw 45 rfl)) (by decide) (t := .int) (t' := .int) (by decide) (by decide)))
  have S7_DEFAULTCAPACITY_EMPTY_ELEMENTDATA := S.wr W2
  have N2 := Fr.snoc X2 N0 n0_a
  have K2 : Keep h0 h2 [a] := K0.wr W2 (Or.inl (List.mem_of_getElem? (i := 0) rfl))
  exact own_ret0 X2 hx hby fin hret jd_39_1__9 (by decide) (by decide) (by rw [e2]; exact ⟨rfl, N2, K2, E3_a, F4_modCount, F5_elementData, F6_size, S7_DEFAULTCAPACITY_EMPTY_ELEMENTDATA⟩)
theorem ef_rmAI (m : MethodId) (x0 : Addr) : entryFrame m #[(.ref x0)] 1 = mkF m 0 #[.val (.ref x0)] [] := by first | (simp [entryFrame, mkF, argsToLocals, Value.category]; done) | rfl
theorem jd_38_2__0 : decode jdk_38_method_2_code 0 = .ok (.aload_n 0, 1) := by decide +kernel
theorem jd_38_2__1 : decode jdk_38_method_2_code 1 = .ok (.invokespecial 1, 3) := by decide +kernel
theorem jd_38_2__4 : decode jdk_38_method_2_code 4 = .ok (.aload_n 0, 1) := by decide +kernel
theorem jd_38_2__5 : decode jdk_38_method_2_code 5 = .ok (.getstatic 39, 3) := by decide +kernel
theorem jd_38_2__8 : decode jdk_38_method_2_code 8 = .ok (.putfield 9, 3) := by decide +kernel
theorem jd_38_2__11 : decode jdk_38_method_2_code 11 = .ok (.return_, 1) := by decide +kernel
set_option maxRecDepth 65536 in
set_option maxHeartbeats 40000000 in
theorem rmAI (l : Launch) (Z : State) (a0 : Array Value) (hw : ∀ d ∈ tables_1, d.before a0 Z = true) (a aD : Addr) (n0 : Nat) (h0 : Heap) (n0_a : n0 ≤ a) (E : Exa Z h0 a "java/util/ArrayList") (F1 : Fld Z h0 a "java/util/AbstractList" "modCount" "I" (.int (0 : Int32))) (F2 : Fld Z h0 a "java/util/ArrayList" "elementData" "[Ljava/lang/Object;" .null) (F3 : Fld Z h0 a "java/util/ArrayList" "size" "I" (.int (0 : Int32))) (S : Sta Z h0 "java/util/ArrayList" "DEFAULTCAPACITY_EMPTY_ELEMENTDATA" "[Ljava/lang/Object;" (.ref aD)) : Con l Z (⟨"java/util/ArrayList", "<init>", "()V"⟩ : MethodName) jdk_38_method_2_code 1 none [] ({ frames := 3, cells := 0, slots := 0, locals := 36 } : Room) #[(.ref a)] h0 (fun v h L => v = none ∧ Fr n0 L ∧ Keep h0 h [a] ∧ Exa Z h a "java/util/ArrayList" ∧ Fld Z h a "java/util/AbstractList" "modCount" "I" (.int (0 : Int32)) ∧ Fld Z h a "java/util/ArrayList" "elementData" "[Ljava/lang/Object;" (.ref aD) ∧ Fld Z h a "java/util/ArrayList" "size" "I" (.int (0 : Int32)) ∧ Sta Z h "java/util/ArrayList" "DEFAULTCAPACITY_EMPTY_ELEMENTDATA" "[Ljava/lang/Object;" (.ref aD)) := by
  refine Con.of (plainFor_of_name pn_java_util_ArrayList) ?_
  intro p e s m below meth c T X hx hby hml hown hnm hret eT hZ hsh Φ fin
  replace hown : s.vm.findClass "java/util/ArrayList" = some m.cls := hown
  replace hml : 1 = c.maxLocals := hml.symm
  refine own_step (fun tq kq => castTop (ef_rmAI m a) kq) ?_
  have N0 := Fr.nil n0
  have K0 : Keep h0 h0 [a] := Keep.refl h0 [a]
  refine own_aloadN X hx hby jd_38_2__0 rfl rfl (pc' := 1) rfl ?_
  refine own_callI X hx hby hZ (by exact hml) hown rfl (own_w hw 31 rfl) (own_w hw 32 rfl) (own_w hw 35 rfl) (own_w hw 36 rfl) (by decide) eT 0 (by decide) (by decide) (by decide) (by decide) (argsL := []) (rest := []) (lenOf pd___V rfl) rfl (Nat.le_of_eq rfl) (rmAL l Z a0 hw a aD n0 h0 n0_a E F1 F2 F3 S) jd_38_2__1 (pc' := 4) rfl ?_
  intro v1 T1 L1 X1 hQ1
  obtain ⟨rfl, Nq1, K1, E1, G11, G21, G31, S1⟩ := hQ1
  have N1 := Fr.app N0 Nq1
  have KK1 : Keep h0 T1.heap [a] := K0.trans K1 (allS (Or.inl (List.mem_of_getElem? (i := 0) rfl)) all0)
  show GoP p e below Φ (T1.setTop (mkF m 4 #[.val (.ref a)] []))
  refine own_aloadN X1 hx hby jd_38_2__4 rfl rfl (pc' := 5) rfl ?_
  refine own_getS X1 hx hby hZ hown (host := "") (Or.inl (own_w hw 46 rfl)) Via.refl rfl S1 jd_38_2__5 (pc' := 8) rfl ?_
  intro T2 X2 e2
  refine own_putF X2 hx hby hZ hown (host := "") (Or.inl (own_w hw 47 rfl)) Via.refl e2 G21 E1 (Or.inl (own_w hw 48 rfl)) (own_w hw 26 rfl) (ty := (.array (.object "java/lang/Object"))) (by decide) rfl rfl jd_38_2__8 (pc' := 11) rfl ?_
  intro T3 h3 X3 e3 W3
  have E4_a := E1.wr W3
  have F5_modCount := G11.other W3 (Or.inr (slot_ne (Or.inl (own_w hw 45 rfl)) (Or.inl (own_w hw 48 rfl)) (by decide) (t := .int) (t' := (.array (.object "java/lang/Object"))) (by decide) (by decide)))
  have F6_elementData := G21.same W3
  have F7_size := G31.other W3 (Or.inr (slot_ne (Or.inl (own_w hw 74 rfl)) (Or.inl (own_w hw 48 rfl)) (by decide) (t := .int) (t' := (.array (.object "java/lang/Object"))) (by decide) (by decide)))
  have S8_DEFAULTCAPACITY_EMPTY_ELEMENTDATA := S1.wr W3
  have N3 := Fr.snoc X3 N1 n0_a
  have K3 : Keep h0 h3 [a] := KK1.wr W3 (Or.inl (List.mem_of_getElem? (i := 0) rfl))
  exact own_ret0 X3 hx hby fin hret jd_38_2__11 (by decide) (by decide) (by rw [e3]; exact ⟨rfl, N3, K3, E4_a, F5_modCount, F6_elementData, F7_size, S8_DEFAULTCAPACITY_EMPTY_ELEMENTDATA⟩)
theorem ef_rmGr1 (m : MethodId) (x0 : Addr) (x1 : Int32) : entryFrame m #[(.ref x0), (.int x1)] 4 = mkF m 0 #[.val (.ref x0), .val (.int x1), .unset, .unset] [] := by first | (simp [entryFrame, mkF, argsToLocals, Value.category]; done) | rfl
theorem jd_38_6__0 : decode jdk_38_method_6_code 0 = .ok (.aload_n 0, 1) := by decide +kernel
theorem jd_38_6__1 : decode jdk_38_method_6_code 1 = .ok (.getfield 9, 3) := by decide +kernel
theorem jd_38_6__4 : decode jdk_38_method_6_code 4 = .ok (.arraylength, 1) := by decide +kernel
theorem jd_38_6__5 : decode jdk_38_method_6_code 5 = .ok (.istore_n 2, 1) := by decide +kernel
theorem jd_38_6__6 : decode jdk_38_method_6_code 6 = .ok (.iload_n 2, 1) := by decide +kernel
theorem jd_38_6__7 : decode jdk_38_method_6_code 7 = .ok (.ifCond .gt 13, 3) := by decide +kernel
theorem jd_38_6__10 : decode jdk_38_method_6_code 10 = .ok (.aload_n 0, 1) := by decide +kernel
theorem jd_38_6__11 : decode jdk_38_method_6_code 11 = .ok (.getfield 9, 3) := by decide +kernel
theorem jd_38_6__14 : decode jdk_38_method_6_code 14 = .ok (.getstatic 39, 3) := by decide +kernel
theorem jd_38_6__17 : decode jdk_38_method_6_code 17 = .ok (.if_acmp .eq 28, 3) := by decide +kernel
theorem jd_38_6__45 : decode jdk_38_method_6_code 45 = .ok (.aload_n 0, 1) := by decide +kernel
theorem jd_38_6__46 : decode jdk_38_method_6_code 46 = .ok (.bipush 10, 2) := by decide +kernel
theorem jd_38_6__48 : decode jdk_38_method_6_code 48 = .ok (.iload_n 1, 1) := by decide +kernel
theorem jd_38_6__49 : decode jdk_38_method_6_code 49 = .ok (.invokestatic 79, 3) := by decide +kernel
theorem jd_38_6__52 : decode jdk_38_method_6_code 52 = .ok (.anewarray 7, 3) := by decide +kernel
theorem jd_38_6__55 : decode jdk_38_method_6_code 55 = .ok (.dup_x1, 1) := by decide +kernel
theorem jd_38_6__56 : decode jdk_38_method_6_code 56 = .ok (.putfield 9, 3) := by decide +kernel
theorem jd_38_6__59 : decode jdk_38_method_6_code 59 = .ok (.areturn, 1) := by decide +kernel
set_option maxRecDepth 65536 in
set_option maxHeartbeats 40000000 in
theorem rmGr1 (l : Launch) (Z : State) (a0 : Array Value) (hw : ∀ d ∈ tables_1, d.before a0 Z = true) (a aD : Addr) (n0 : Nat) (h0 : Heap) (n0_a : n0 ≤ a) (Z0 : n0 ≤ h0.size) (ne_a_aD : a ≠ aD) (E : Exa Z h0 a "java/util/ArrayList") (F1 : Fld Z h0 a "java/util/AbstractList" "modCount" "I" (.int (1 : Int32))) (F2 : Fld Z h0 a "java/util/ArrayList" "elementData" "[Ljava/lang/Object;" (.ref aD)) (F3 : Fld Z h0 a "java/util/ArrayList" "size" "I" (.int (0 : Int32))) (S : Sta Z h0 "java/util/ArrayList" "DEFAULTCAPACITY_EMPTY_ELEMENTDATA" "[Ljava/lang/Object;" (.ref aD)) (VD : AV Z h0 aD (.object "java/lang/Object") []) : Con l Z (⟨"java/util/ArrayList", "grow", "(I)[Ljava/lang/Object;"⟩ : MethodName) jdk_38_method_6_code 4 (some (.array (.object "java/lang/Object"))) [] ({ frames := 1, cells := 1, slots := 10, locals := 20 } : Room) #[(.ref a), (.int (1 : Int32))] h0 (fun v h L => ∃ es : Addr, v = some (.ref es) ∧ Fr n0 L ∧ Keep h0 h [a] ∧ h0.size ≤ es ∧ Exa Z h a "java/util/ArrayList" ∧ Fld Z h a "java/util/AbstractList" "modCount" "I" (.int (1 : Int32)) ∧ Fld Z h a "java/util/ArrayList" "elementData" "[Ljava/lang/Object;" (.ref es) ∧ Fld Z h a "java/util/ArrayList" "size" "I" (.int (0 : Int32)) ∧ AV Z h es (.object "java/lang/Object") [.null, .null, .null, .null, .null, .null, .null, .null, .null, .null] ∧ CM Z h es "java/lang/Object") := by
  refine Con.of (plainFor_of_name pn_java_util_ArrayList) ?_
  intro p e s m below meth c T X hx hby hml hown hnm hret eT hZ hsh Φ fin
  replace hown : s.vm.findClass "java/util/ArrayList" = some m.cls := hown
  replace hml : 4 = c.maxLocals := hml.symm
  refine own_step (fun tq kq => castTop (ef_rmGr1 m a (1 : Int32)) kq) ?_
  have N0 := Fr.nil n0
  have K0 : Keep h0 h0 [a] := Keep.refl h0 [a]
  refine own_aloadN X hx hby jd_38_6__0 rfl rfl (pc' := 1) rfl ?_
  refine own_getF X hx hby hZ hown (host := "") (Or.inl (own_w hw 47 rfl)) Via.refl eT F2 jd_38_6__1 (pc' := 4) rfl ?_
  intro T1 X1 e1
  refine own_alen X1 hx hby hZ e1 (n := (0 : Int32)) VD rfl jd_38_6__4 (pc' := 5) rfl ?_
  refine own_istoreN X1 hx hby jd_38_6__5  (Ls' := #[.val (.ref a), .val (.int (1 : Int32)), .val (.int (0 : Int32)), .unset]) rfl (pc' := 6) rfl ?_
  refine own_iloadN X1 hx hby jd_38_6__6 rfl (pc' := 7) rfl ?_
  refine own_ifN X1 hx hby jd_38_6__7 ((if0 _ _).trans (flt (by decide)).2.2.1) (pc' := 10) rfl ?_
  refine own_aloadN X1 hx hby jd_38_6__10 rfl rfl (pc' := 11) rfl ?_
  refine own_getF X1 hx hby hZ hown (host := "") (Or.inl (own_w hw 47 rfl)) Via.refl e1 F2 jd_38_6__11 (pc' := 14) rfl ?_
  intro T2 X2 e2
  refine own_getS X2 hx hby hZ hown (host := "") (Or.inl (own_w hw 46 rfl)) Via.refl e2 S jd_38_6__14 (pc' := 17) rfl ?_
  intro T3 X3 e3
  refine own_acmp X3 hx hby jd_38_6__17 rfl rfl (same := true) (decide_eq_true (congrArg Value.ref rfl)) (by decide) (pc' := 45) (by decide) ?_
  refine own_aloadN X3 hx hby jd_38_6__45 rfl rfl (pc' := 46) rfl ?_
  refine own_bipush X3 hx hby jd_38_6__46 (v := (10 : Int32)) rfl (pc' := 48) rfl ?_
  refine own_iloadN X3 hx hby jd_38_6__48 rfl (pc' := 49) rfl ?_
  refine own_callS X3 hx hby hZ (by exact hml) hown (own_w hw 90 rfl) (own_w hw 91 rfl) (own_w hw 92 rfl) (own_w hw 93 rfl) (by decide) e3 1 (by decide) (by decide) (by decide) (by decide) (argsL := [(.int (10 : Int32)), (.int (1 : Int32))]) (rest := [(.ref a)]) (lenOf pd__II_I rfl) rfl (rmMx l Z a0 hw h0) (Nat.le_of_eq rfl) jd_38_6__49 (pc' := 52) rfl ?_
  intro v4 T4 L4 X4 hQ4
  obtain ⟨rfl, rfl, e4⟩ := hQ4
  rw [List.append_nil] at X4
  replace e4 : T4.heap = h0 := e4
  show GoP p e below Φ (T4.setTop (mkF m 52 #[.val (.ref a), .val (.int (1 : Int32)), .val (.int (0 : Int32)), .unset] [(.int (10 : Int32)), (.ref a)]))
  refine own_newR X4 hx hby hZ hown (own_w hw 94 rfl) (own_w hw 95 rfl) e4 (by decide) 10 (by decide) (by decide) (by decide) (by decide) jd_38_6__52 (pc' := 55) rfl ?_
  intro T5 h5 b5 X5 e5 E5 g5 V5 Y5
  have ne_a_b5 : a ≠ b5 := Nat.ne_of_lt (g5 ▸ E.lt)
  have ne_aD_b5 : aD ≠ b5 := Nat.ne_of_lt (g5 ▸ VD.lt)
  have E6_a := E.ext E5
  have F7_modCount := F1.ext E5
  have F8_elementData := F2.ext E5
  have F9_size := F3.ext E5
  have S10_DEFAULTCAPACITY_EMPTY_ELEMENTDATA := S.ext E5
  have V11_aD := VD.ext E5
  have Z5 : n0 ≤ h5.size := Nat.le_trans Z0 E5.1
  have n0_b5 : n0 ≤ b5 := g5 ▸ Z0
  have sz_b5 : h0.size ≤ b5 := g5 ▸ K0.1
  have K5 : Keep h0 h5 [a] := K0.ext E5
  replace V5 : AV Z h5 b5 (.object "java/lang/Object") [.null, .null, .null, .null, .null, .null, .null, .null, .null, .null] := V5
  show GoP p e below Φ (T5.setTop (mkF m 55 #[.val (.ref a), .val (.int (1 : Int32)), .val (.int (0 : Int32)), .unset] [(.ref b5), (.ref a)]))
  refine own_dup_x1 X5 hx hby jd_38_6__55 rfl rfl (pc' := 56) rfl ?_
  refine own_putF X5 hx hby hZ hown (host := "") (Or.inl (own_w hw 47 rfl)) Via.refl e5 F8_elementData E6_a (Or.inl (own_w hw 48 rfl)) (own_w hw 26 rfl) (ty := (.array (.object "java/lang/Object"))) (by decide) rfl rfl jd_38_6__56 (pc' := 59) rfl ?_
  intro T12 h12 X12 e12 W12
  have E13_a := E6_a.wr W12
  have F14_modCount := F7_modCount.other W12 (Or.inr (slot_ne (Or.inl (own_w hw 45 rfl)) (Or.inl (own_w hw 48 rfl)) (by decide) (t := .int) (t' := (.array (.object "java/lang/Object"))) (by decide) (by decide)))
  have F15_elementData := F8_elementData.same W12
  have F16_size := F9_size.other W12 (Or.inr (slot_ne (Or.inl (own_w hw 74 rfl)) (Or.inl (own_w hw 48 rfl)) (by decide) (t := .int) (t' := (.array (.object "java/lang/Object"))) (by decide) (by decide)))
  have S17_DEFAULTCAPACITY_EMPTY_ELEMENTDATA := S10_DEFAULTCAPACITY_EMPTY_ELEMENTDATA.wr W12
  have V18_aD := V11_aD.other W12 (Ne.symm ne_a_aD)
  have V19_b5 := V5.other W12 (Ne.symm ne_a_b5)
  have Y20_b5 := Y5.wr W12
  have Z12 : n0 ≤ h12.size := by rw [W12.size]; exact Z5
  have N12 := Fr.snoc X12 N0 n0_a
  have K12 : Keep h0 h12 [a] := K5.wr W12 (Or.inl (List.mem_of_getElem? (i := 0) rfl))
  exact own_retA X12 hx hby fin hret rfl rfl rfl jd_38_6__59 (by decide) (by decide) (by rw [e12]; exact ⟨b5, rfl, N12, K12, sz_b5, E13_a, F14_modCount, F15_elementData, F16_size, V19_b5, Y20_b5⟩)
theorem ef_rmGr0 (m : MethodId) (x0 : Addr) : entryFrame m #[(.ref x0)] 1 = mkF m 0 #[.val (.ref x0)] [] := by first | (simp [entryFrame, mkF, argsToLocals, Value.category]; done) | rfl
theorem jd_38_7__0 : decode jdk_38_method_7_code 0 = .ok (.aload_n 0, 1) := by decide +kernel
theorem jd_38_7__1 : decode jdk_38_method_7_code 1 = .ok (.aload_n 0, 1) := by decide +kernel
theorem jd_38_7__2 : decode jdk_38_method_7_code 2 = .ok (.getfield 48, 3) := by decide +kernel
theorem jd_38_7__5 : decode jdk_38_method_7_code 5 = .ok (.iconst 1, 1) := by decide +kernel
theorem jd_38_7__6 : decode jdk_38_method_7_code 6 = .ok (.iadd, 1) := by decide +kernel
theorem jd_38_7__7 : decode jdk_38_method_7_code 7 = .ok (.invokevirtual 69, 3) := by decide +kernel
theorem pd__I__Ljava_lang_Object_ : parseMethodDescriptor "(I)[Ljava/lang/Object;" = some ⟨[.int], some (.array (.object "java/lang/Object"))⟩ := by decide +kernel
theorem jd_38_7__10 : decode jdk_38_method_7_code 10 = .ok (.areturn, 1) := by decide +kernel
set_option maxRecDepth 65536 in
set_option maxHeartbeats 40000000 in
theorem rmGr0 (l : Launch) (Z : State) (a0 : Array Value) (hw : ∀ d ∈ tables_1, d.before a0 Z = true) (a aD : Addr) (n0 : Nat) (h0 : Heap) (n0_a : n0 ≤ a) (Z0 : n0 ≤ h0.size) (ne_a_aD : a ≠ aD) (E : Exa Z h0 a "java/util/ArrayList") (F1 : Fld Z h0 a "java/util/AbstractList" "modCount" "I" (.int (1 : Int32))) (F2 : Fld Z h0 a "java/util/ArrayList" "elementData" "[Ljava/lang/Object;" (.ref aD)) (F3 : Fld Z h0 a "java/util/ArrayList" "size" "I" (.int (0 : Int32))) (S : Sta Z h0 "java/util/ArrayList" "DEFAULTCAPACITY_EMPTY_ELEMENTDATA" "[Ljava/lang/Object;" (.ref aD)) (VD : AV Z h0 aD (.object "java/lang/Object") []) : Con l Z (⟨"java/util/ArrayList", "grow", "()[Ljava/lang/Object;"⟩ : MethodName) jdk_38_method_7_code 1 (some (.array (.object "java/lang/Object"))) [] ({ frames := 2, cells := 1, slots := 10, locals := 40 } : Room) #[(.ref a)] h0 (fun v h L => ∃ es : Addr, v = some (.ref es) ∧ Fr n0 L ∧ Keep h0 h [a] ∧ h0.size ≤ es ∧ Exa Z h a "java/util/ArrayList" ∧ Fld Z h a "java/util/AbstractList" "modCount" "I" (.int (1 : Int32)) ∧ Fld Z h a "java/util/ArrayList" "elementData" "[Ljava/lang/Object;" (.ref es) ∧ Fld Z h a "java/util/ArrayList" "size" "I" (.int (0 : Int32)) ∧ AV Z h es (.object "java/lang/Object") [.null, .null, .null, .null, .null, .null, .null, .null, .null, .null] ∧ CM Z h es "java/lang/Object") := by
  refine Con.of (plainFor_of_name pn_java_util_ArrayList) ?_
  intro p e s m below meth c T X hx hby hml hown hnm hret eT hZ hsh Φ fin
  replace hown : s.vm.findClass "java/util/ArrayList" = some m.cls := hown
  replace hml : 1 = c.maxLocals := hml.symm
  refine own_step (fun tq kq => castTop (ef_rmGr0 m a) kq) ?_
  have N0 := Fr.nil n0
  have K0 : Keep h0 h0 [a] := Keep.refl h0 [a]
  refine own_aloadN X hx hby jd_38_7__0 rfl rfl (pc' := 1) rfl ?_
  refine own_aloadN X hx hby jd_38_7__1 rfl rfl (pc' := 2) rfl ?_
  refine own_getF X hx hby hZ hown (host := "") (Or.inl (own_w hw 73 rfl)) Via.refl eT F3 jd_38_7__2 (pc' := 5) rfl ?_
  intro T1 X1 e1
  refine own_iconst X1 hx hby jd_38_7__5 (v := (1 : Int32)) rfl (pc' := 6) rfl ?_
  refine own_iadd X1 hx hby jd_38_7__6 (pc' := 7) rfl ?_
  show GoP p e below Φ (T1.setTop (mkF m 7 #[.val (.ref a)] [(.int (1 : Int32)), (.ref a)]))
  refine own_callP X1 hx hby hZ (by exact hml) hown (own_w hw 85 rfl) (own_w hw 87 rfl) (own_w hw 88 rfl) (own_w hw 86 rfl) (own_w hw 27 rfl) (own_w hw 89 rfl) (by decide) e1 0 (by decide) (by decide) (by decide) (by decide) (argsL := [(.int (1 : Int32))]) (rest := []) (lenOf pd__I__Ljava_lang_Object_ rfl) rfl (Nat.le_of_eq rfl) E (rmGr1 l Z a0 hw a aD n0 h0 n0_a Z0 ne_a_aD E F1 F2 F3 S VD) jd_38_7__7 (pc' := 10) rfl ?_
  intro v2 T2 L2 X2 hQ2
  obtain ⟨es, rfl, Nq2, K2, se2, E2, G12, G22, G32, V2, Y2⟩ := hQ2
  have ne_a_es : a ≠ es := Nat.ne_of_lt (Nat.lt_of_lt_of_le E.lt se2)
  have sz_es : h0.size ≤ es := Nat.le_trans K0.1 se2
  have n0_es : n0 ≤ es := Nat.le_trans Z0 sz_es
  have N2 := Fr.app N0 Nq2
  have Z2 : n0 ≤ T2.heap.size := Nat.le_trans Z0 K2.1
  have KK2 : Keep h0 T2.heap [a] := K0.trans K2 (allS (Or.inl (List.mem_of_getElem? (i := 0) rfl)) all0)
  show GoP p e below Φ (T2.setTop (mkF m 10 #[.val (.ref a)] [(.ref es)]))
  exact own_retA X2 hx hby fin hret rfl rfl rfl jd_38_7__10 (by decide) (by decide) ⟨es, rfl, N2, KK2, sz_es, E2, G12, G22, G32, V2, Y2⟩
theorem ef_rmA3 (m : MethodId) (x0 : Addr) (x1 : Addr) (x2 : Addr) (x3 : Int32) : entryFrame m #[(.ref x0), (.ref x1), (.ref x2), (.int x3)] 4 = mkF m 0 #[.val (.ref x0), .val (.ref x1), .val (.ref x2), .val (.int x3)] [] := by first | (simp [entryFrame, mkF, argsToLocals, Value.category]; done) | rfl
theorem jd_38_24__0 : decode jdk_38_method_24_code 0 = .ok (.iload_n 3, 1) := by decide +kernel
theorem jd_38_24__1 : decode jdk_38_method_24_code 1 = .ok (.aload_n 2, 1) := by decide +kernel
theorem jd_38_24__2 : decode jdk_38_method_24_code 2 = .ok (.arraylength, 1) := by decide +kernel
theorem jd_38_24__3 : decode jdk_38_method_24_code 3 = .ok (.if_icmp .ne 8, 3) := by decide +kernel
theorem jd_38_24__6 : decode jdk_38_method_24_code 6 = .ok (.aload_n 0, 1) := by decide +kernel
theorem jd_38_24__7 : decode jdk_38_method_24_code 7 = .ok (.invokevirtual 129, 3) := by decide +kernel
theorem pd____Ljava_lang_Object_ : parseMethodDescriptor "()[Ljava/lang/Object;" = some ⟨[], some (.array (.object "java/lang/Object"))⟩ := by decide +kernel
theorem jd_38_24__10 : decode jdk_38_method_24_code 10 = .ok (.astore_n 2, 1) := by decide +kernel
theorem jd_38_24__11 : decode jdk_38_method_24_code 11 = .ok (.aload_n 2, 1) := by decide +kernel
theorem jd_38_24__12 : decode jdk_38_method_24_code 12 = .ok (.iload_n 3, 1) := by decide +kernel
theorem jd_38_24__13 : decode jdk_38_method_24_code 13 = .ok (.aload_n 1, 1) := by decide +kernel
theorem jd_38_24__14 : decode jdk_38_method_24_code 14 = .ok (.aastore, 1) := by decide +kernel
theorem jd_38_24__15 : decode jdk_38_method_24_code 15 = .ok (.aload_n 0, 1) := by decide +kernel
theorem jd_38_24__16 : decode jdk_38_method_24_code 16 = .ok (.iload_n 3, 1) := by decide +kernel
theorem jd_38_24__17 : decode jdk_38_method_24_code 17 = .ok (.iconst 1, 1) := by decide +kernel
theorem jd_38_24__18 : decode jdk_38_method_24_code 18 = .ok (.iadd, 1) := by decide +kernel
theorem jd_38_24__19 : decode jdk_38_method_24_code 19 = .ok (.putfield 48, 3) := by decide +kernel
theorem jd_38_24__22 : decode jdk_38_method_24_code 22 = .ok (.return_, 1) := by decide +kernel
set_option maxRecDepth 65536 in
set_option maxHeartbeats 40000000 in
theorem rmA3 (l : Launch) (Z : State) (a0 : Array Value) (hw : ∀ d ∈ tables_1, d.before a0 Z = true) (a aD x : Addr) (n0 : Nat) (h0 : Heap) (n0_a : n0 ≤ a) (Z0 : n0 ≤ h0.size) (ne_a_aD : a ≠ aD) (E : Exa Z h0 a "java/util/ArrayList") (F1 : Fld Z h0 a "java/util/AbstractList" "modCount" "I" (.int (1 : Int32))) (F2 : Fld Z h0 a "java/util/ArrayList" "elementData" "[Ljava/lang/Object;" (.ref aD)) (F3 : Fld Z h0 a "java/util/ArrayList" "size" "I" (.int (0 : Int32))) (S : Sta Z h0 "java/util/ArrayList" "DEFAULTCAPACITY_EMPTY_ELEMENTDATA" "[Ljava/lang/Object;" (.ref aD)) (VD : AV Z h0 aD (.object "java/lang/Object") []) (ne_a_x : a ≠ x) (Ex : Exa Z h0 x "[I") : Con l Z (⟨"java/util/ArrayList", "add", "(Ljava/lang/Object;[Ljava/lang/Object;I)V"⟩ : MethodName) jdk_38_method_24_code 4 none [] ({ frames := 3, cells := 1, slots := 10, locals := 60 } : Room) #[(.ref a), (.ref x), (.ref aD), (.int (0 : Int32))] h0 (fun v h L => ∃ es : Addr, v = none ∧ Fr n0 L ∧ Keep h0 h [a] ∧ h0.size ≤ es ∧ Exa Z h a "java/util/ArrayList" ∧ Fld Z h a "java/util/AbstractList" "modCount" "I" (.int (1 : Int32)) ∧ Fld Z h a "java/util/ArrayList" "elementData" "[Ljava/lang/Object;" (.ref es) ∧ Fld Z h a "java/util/ArrayList" "size" "I" (.int (1 : Int32)) ∧ AV Z h es (.object "java/lang/Object") [(.ref x), .null, .null, .null, .null, .null, .null, .null, .null, .null] ∧ CM Z h es "java/lang/Object") := by
  refine Con.of (plainFor_of_name pn_java_util_ArrayList) ?_
  intro p e s m below meth c T X hx hby hml hown hnm hret eT hZ hsh Φ fin
  replace hown : s.vm.findClass "java/util/ArrayList" = some m.cls := hown
  replace hml : 4 = c.maxLocals := hml.symm
  refine own_step (fun tq kq => castTop (ef_rmA3 m a x aD (0 : Int32)) kq) ?_
  have N0 := Fr.nil n0
  have K0 : Keep h0 h0 [a] := Keep.refl h0 [a]
  refine own_iloadN X hx hby jd_38_24__0 rfl (pc' := 1) rfl ?_
  refine own_aloadN X hx hby jd_38_24__1 rfl rfl (pc' := 2) rfl ?_
  refine own_alen X hx hby hZ eT (n := (0 : Int32)) VD rfl jd_38_24__2 (pc' := 3) rfl ?_
  refine own_icmpN X hx hby jd_38_24__3 (teq (by decide)).2 (pc' := 6) rfl ?_
  refine own_aloadN X hx hby jd_38_24__6 rfl rfl (pc' := 7) rfl ?_
  refine own_callP X hx hby hZ (by exact hml) hown (own_w hw 80 rfl) (own_w hw 82 rfl) (own_w hw 83 rfl) (own_w hw 81 rfl) (own_w hw 27 rfl) (own_w hw 84 rfl) (by decide) eT 0 (by decide) (by decide) (by decide) (by decide) (argsL := []) (rest := []) (lenOf pd____Ljava_lang_Object_ rfl) rfl (Nat.le_of_eq rfl) E (rmGr0 l Z a0 hw a aD n0 h0 n0_a Z0 ne_a_aD E F1 F2 F3 S VD) jd_38_24__7 (pc' := 10) rfl ?_
  intro v1 T1 L1 X1 hQ1
  obtain ⟨es, rfl, Nq1, K1, se1, E1, G11, G21, G31, V1, Y1⟩ := hQ1
  have ne_a_es : a ≠ es := Nat.ne_of_lt (Nat.lt_of_lt_of_le E.lt se1)
  have ne_x_es : x ≠ es := Nat.ne_of_lt (Nat.lt_of_lt_of_le Ex.lt se1)
  have sz_es : h0.size ≤ es := Nat.le_trans K0.1 se1
  have n0_es : n0 ≤ es := Nat.le_trans Z0 sz_es
  have E2_x := Ex.keep K1
  have N1 := Fr.app N0 Nq1
  have Z1 : n0 ≤ T1.heap.size := Nat.le_trans Z0 K1.1
  have KK1 : Keep h0 T1.heap [a] := K0.trans K1 (allS (Or.inl (List.mem_of_getElem? (i := 0) rfl)) all0)
  show GoP p e below Φ (T1.setTop (mkF m 10 #[.val (.ref a), .val (.ref x), .val (.ref aD), .val (.int (0 : Int32))] [(.ref es)]))
  refine own_astoreN X1 hx hby jd_38_24__10 rfl (Ls' := #[.val (.ref a), .val (.ref x), .val (.ref es), .val (.int (0 : Int32))]) rfl (pc' := 11) rfl ?_
  refine own_aloadN X1 hx hby jd_38_24__11 rfl rfl (pc' := 12) rfl ?_
  refine own_iloadN X1 hx hby jd_38_24__12 rfl (pc' := 13) rfl ?_
  refine own_aloadN X1 hx hby jd_38_24__13 rfl rfl (pc' := 14) rfl ?_
  refine own_aastore X1 hx hby hZ rfl V1 rfl (own_sto V1 Y1 (Ins.of_exa E2_x (own_w hw 96 rfl))) (by decide) (Nat.le_of_ble_eq_true rfl) jd_38_24__14 (pc' := 15) rfl ?_
  intro T3 h3 X3 e3 W3 V3
  replace V3 : AV Z h3 es (.object "java/lang/Object") [(.ref x), .null, .null, .null, .null, .null, .null, .null, .null, .null] := V3
  have E4_a := E1.wr W3
  have F5_modCount := G11.other W3 (Or.inl ne_a_es)
  have F6_elementData := G21.other W3 (Or.inl ne_a_es)
  have F7_size := G31.other W3 (Or.inl ne_a_es)
  have E8_x := E2_x.wr W3
  have Y10_es := Y1.wr W3
  have Z3 : n0 ≤ h3.size := by rw [W3.size]; exact Z1
  have N3 := Fr.snoc X3 N1 n0_es
  have K3 : Keep h0 h3 [a] := KK1.wr W3 (Or.inr sz_es)
  refine own_aloadN X3 hx hby jd_38_24__15 rfl rfl (pc' := 16) rfl ?_
  refine own_iloadN X3 hx hby jd_38_24__16 rfl (pc' := 17) rfl ?_
  refine own_iconst X3 hx hby jd_38_24__17 (v := (1 : Int32)) rfl (pc' := 18) rfl ?_
  refine own_iadd X3 hx hby jd_38_24__18 (pc' := 19) rfl ?_
  show GoP p e below Φ (T3.setTop (mkF m 19 #[.val (.ref a), .val (.ref x), .val (.ref es), .val (.int (0 : Int32))] [(.int (1 : Int32)), (.ref a)]))
  refine own_putF X3 hx hby hZ hown (host := "") (Or.inl (own_w hw 73 rfl)) Via.refl e3 F7_size E4_a (Or.inl (own_w hw 74 rfl)) (own_w hw 26 rfl) (ty := .int) (by decide) rfl rfl jd_38_24__19 (pc' := 22) rfl ?_
  intro T11 h11 X11 e11 W11
  have E12_a := E4_a.wr W11
  have F13_modCount := F5_modCount.other W11 (Or.inr (slot_ne (Or.inl (own_w hw 45 rfl)) (Or.inl (own_w hw 74 rfl)) (by decide) (t := .int) (t' := .int) (by decide) (by decide)))
  have F14_elementData := F6_elementData.other W11 (Or.inr (slot_ne (Or.inl (own_w hw 48 rfl)) (Or.inl (own_w hw 74 rfl)) (by decide) (t := (.array (.object "java/lang/Object"))) (t' := .int) (by decide) (by decide)))
  have F15_size := F7_size.same W11
  have E16_x := E8_x.wr W11
  have V17_es := V3.other W11 (Ne.symm ne_a_es)
  have Y18_es := Y10_es.wr W11
  have Z11 : n0 ≤ h11.size := by rw [W11.size]; exact Z3
  have N11 := Fr.snoc X11 N3 n0_a
  have K11 : Keep h0 h11 [a] := K3.wr W11 (Or.inl (List.mem_of_getElem? (i := 0) rfl))
  exact own_ret0 X11 hx hby fin hret jd_38_24__22 (by decide) (by decide) (by rw [e11]; exact ⟨es, rfl, N11, K11, sz_es, E12_a, F13_modCount, F14_elementData, F15_size, V17_es, Y18_es⟩)
theorem ef_rmA1 (m : MethodId) (x0 : Addr) (x1 : Addr) : entryFrame m #[(.ref x0), (.ref x1)] 2 = mkF m 0 #[.val (.ref x0), .val (.ref x1)] [] := by first | (simp [entryFrame, mkF, argsToLocals, Value.category]; done) | rfl
theorem jd_38_25__0 : decode jdk_38_method_25_code 0 = .ok (.aload_n 0, 1) := by decide +kernel
theorem jd_38_25__1 : decode jdk_38_method_25_code 1 = .ok (.dup, 1) := by decide +kernel
theorem jd_38_25__2 : decode jdk_38_method_25_code 2 = .ok (.getfield 63, 3) := by decide +kernel
theorem jd_38_25__5 : decode jdk_38_method_25_code 5 = .ok (.iconst 1, 1) := by decide +kernel
theorem jd_38_25__6 : decode jdk_38_method_25_code 6 = .ok (.iadd, 1) := by decide +kernel
theorem jd_38_25__7 : decode jdk_38_method_25_code 7 = .ok (.putfield 63, 3) := by decide +kernel
theorem jd_38_25__10 : decode jdk_38_method_25_code 10 = .ok (.aload_n 0, 1) := by decide +kernel
theorem jd_38_25__11 : decode jdk_38_method_25_code 11 = .ok (.aload_n 1, 1) := by decide +kernel
theorem jd_38_25__12 : decode jdk_38_method_25_code 12 = .ok (.aload_n 0, 1) := by decide +kernel
theorem jd_38_25__13 : decode jdk_38_method_25_code 13 = .ok (.getfield 9, 3) := by decide +kernel
theorem jd_38_25__16 : decode jdk_38_method_25_code 16 = .ok (.aload_n 0, 1) := by decide +kernel
theorem jd_38_25__17 : decode jdk_38_method_25_code 17 = .ok (.getfield 48, 3) := by decide +kernel
theorem jd_38_25__20 : decode jdk_38_method_25_code 20 = .ok (.invokevirtual 131, 3) := by decide +kernel
theorem pd__Ljava_lang_Object__Ljava_lang_Object_I_V : parseMethodDescriptor "(Ljava/lang/Object;[Ljava/lang/Object;I)V" = some ⟨[(.object "java/lang/Object"), (.array (.object "java/lang/Object")), .int], none⟩ := by decide +kernel
theorem jd_38_25__23 : decode jdk_38_method_25_code 23 = .ok (.iconst 1, 1) := by decide +kernel
theorem jd_38_25__24 : decode jdk_38_method_25_code 24 = .ok (.ireturn, 1) := by decide +kernel
set_option maxRecDepth 65536 in
set_option maxHeartbeats 40000000 in
theorem rmA1 (l : Launch) (Z : State) (a0 : Array Value) (hw : ∀ d ∈ tables_1, d.before a0 Z = true) (a aD x : Addr) (n0 : Nat) (h0 : Heap) (n0_a : n0 ≤ a) (Z0 : n0 ≤ h0.size) (ne_a_aD : a ≠ aD) (E : Exa Z h0 a "java/util/ArrayList") (F1 : Fld Z h0 a "java/util/AbstractList" "modCount" "I" (.int (0 : Int32))) (F2 : Fld Z h0 a "java/util/ArrayList" "elementData" "[Ljava/lang/Object;" (.ref aD)) (F3 : Fld Z h0 a "java/util/ArrayList" "size" "I" (.int (0 : Int32))) (S : Sta Z h0 "java/util/ArrayList" "DEFAULTCAPACITY_EMPTY_ELEMENTDATA" "[Ljava/lang/Object;" (.ref aD)) (VD : AV Z h0 aD (.object "java/lang/Object") []) (ne_a_x : a ≠ x) (Ex : Exa Z h0 x "[I") : Con l Z (⟨"java/util/ArrayList", "add", "(Ljava/lang/Object;)Z"⟩ : MethodName) jdk_38_method_25_code 2 (some .boolean) [] ({ frames := 4, cells := 1, slots := 10, locals := 90 } : Room) #[(.ref a), (.ref x)] h0 (fun v h L => ∃ es : Addr, v = some (.int (1 : Int32)) ∧ Fr n0 L ∧ Keep h0 h [a] ∧ h0.size ≤ es ∧ Exa Z h a "java/util/ArrayList" ∧ Fld Z h a "java/util/AbstractList" "modCount" "I" (.int (1 : Int32)) ∧ Fld Z h a "java/util/ArrayList" "elementData" "[Ljava/lang/Object;" (.ref es) ∧ Fld Z h a "java/util/ArrayList" "size" "I" (.int (1 : Int32)) ∧ AV Z h es (.object "java/lang/Object") [(.ref x), .null, .null, .null, .null, .null, .null, .null, .null, .null] ∧ CM Z h es "java/lang/Object") := by
  refine Con.of (plainFor_of_name pn_java_util_ArrayList) ?_
  intro p e s m below meth c T X hx hby hml hown hnm hret eT hZ hsh Φ fin
  replace hown : s.vm.findClass "java/util/ArrayList" = some m.cls := hown
  replace hml : 2 = c.maxLocals := hml.symm
  refine own_step (fun tq kq => castTop (ef_rmA1 m a x) kq) ?_
  have N0 := Fr.nil n0
  have K0 : Keep h0 h0 [a] := Keep.refl h0 [a]
  refine own_aloadN X hx hby jd_38_25__0 rfl rfl (pc' := 1) rfl ?_
  refine own_dup X hx hby jd_38_25__1 rfl (pc' := 2) rfl ?_
  refine own_getF X hx hby hZ hown (host := "") (Or.inl (own_w hw 71 rfl)) (Via.of (own_w hw 72 rfl)) eT F1 jd_38_25__2 (pc' := 5) rfl ?_
  intro T1 X1 e1
  refine own_iconst X1 hx hby jd_38_25__5 (v := (1 : Int32)) rfl (pc' := 6) rfl ?_
  refine own_iadd X1 hx hby jd_38_25__6 (pc' := 7) rfl ?_
  show GoP p e below Φ (T1.setTop (mkF m 7 #[.val (.ref a), .val (.ref x)] [(.int (1 : Int32)), (.ref a)]))
  refine own_putF X1 hx hby hZ hown (host := "") (Or.inl (own_w hw 71 rfl)) (Via.of (own_w hw 72 rfl)) e1 F1 E (Or.inl (own_w hw 45 rfl)) (own_w hw 26 rfl) (ty := .int) (by decide) rfl rfl jd_38_25__7 (pc' := 10) rfl ?_
  intro T2 h2 X2 e2 W2
  have E3_a := E.wr W2
  have F4_modCount := F1.same W2
  have F5_elementData := F2.other W2 (Or.inr (slot_ne (Or.inl (own_w hw 48 rfl)) (Or.inl (own_w hw 45 rfl)) (by decide) (t := (.array (.object "java/lang/Object"))) (t' := .int) (by decide) (by decide)))
  have F6_size := F3.other W2 (Or.inr (slot_ne (Or.inl (own_w hw 74 rfl)) (Or.inl (own_w hw 45 rfl)) (by decide) (t := .int) (t' := .int) (by decide) (by decide)))
  have S7_DEFAULTCAPACITY_EMPTY_ELEMENTDATA := S.wr W2
  have V8_aD := VD.other W2 (Ne.symm ne_a_aD)
  have E9_x := Ex.wr W2
  have Z2 : n0 ≤ h2.size := by rw [W2.size]; exact Z0
  have N2 := Fr.snoc X2 N0 n0_a
  have K2 : Keep h0 h2 [a] := K0.wr W2 (Or.inl (List.mem_of_getElem? (i := 0) rfl))
  refine own_aloadN X2 hx hby jd_38_25__10 rfl rfl (pc' := 11) rfl ?_
  refine own_aloadN X2 hx hby jd_38_25__11 rfl rfl (pc' := 12) rfl ?_
  refine own_aloadN X2 hx hby jd_38_25__12 rfl rfl (pc' := 13) rfl ?_
  refine own_getF X2 hx hby hZ hown (host := "") (Or.inl (own_w hw 47 rfl)) Via.refl e2 F5_elementData jd_38_25__13 (pc' := 16) rfl ?_
  intro T10 X10 e10
  refine own_aloadN X10 hx hby jd_38_25__16 rfl rfl (pc' := 17) rfl ?_
  refine own_getF X10 hx hby hZ hown (host := "") (Or.inl (own_w hw 73 rfl)) Via.refl e10 F6_size jd_38_25__17 (pc' := 20) rfl ?_
  intro T11 X11 e11
  refine own_callP X11 hx hby hZ (by exact hml) hown (own_w hw 75 rfl) (own_w hw 77 rfl) (own_w hw 78 rfl) (own_w hw 76 rfl) (own_w hw 27 rfl) (own_w hw 79 rfl) (by decide) e11 0 (by decide) (by decide) (by decide) (by decide) (argsL := [(.ref x), (.ref aD), (.int (0 : Int32))]) (rest := []) (lenOf pd__Ljava_lang_Object__Ljava_lang_Object_I_V rfl) rfl (Nat.le_of_eq rfl) E3_a (rmA3 l Z a0 hw a aD x n0 h2 n0_a Z2 ne_a_aD E3_a F4_modCount F5_elementData F6_size S7_DEFAULTCAPACITY_EMPTY_ELEMENTDATA V8_aD ne_a_x E9_x) jd_38_25__20 (pc' := 23) rfl ?_
  intro v12 T12 L12 X12 hQ12
  obtain ⟨es, rfl, Nq12, K12, se12, E12, G112, G212, G312, V12, Y12⟩ := hQ12
  have sz_es : h0.size ≤ es := Nat.le_trans K2.1 se12
  have N12 := Fr.app N2 Nq12
  have Z12 : n0 ≤ T12.heap.size := Nat.le_trans Z2 K12.1
  have KK12 : Keep h0 T12.heap [a] := K2.trans K12 (allS (Or.inl (List.mem_of_getElem? (i := 0) rfl)) all0)
  show GoP p e below Φ (T12.setTop (mkF m 23 #[.val (.ref a), .val (.ref x)] []))
  refine own_iconst X12 hx hby jd_38_25__23 (v := (1 : Int32)) rfl (pc' := 24) rfl ?_
  exact own_retN X12 hx hby fin hret (by simp) rfl jd_38_25__24 (by decide) (by decide) ⟨es, rfl, N12, KK12, sz_es, E12, G112, G212, G312, V12, Y12⟩
theorem ef_rmRC11 (m : MethodId) (x0 : Addr) (x1 : Int32) : entryFrame m #[(.ref x0), (.int x1)] 2 = mkF m 0 #[.val (.ref x0), .val (.int x1)] [] := by first | (simp [entryFrame, mkF, argsToLocals, Value.category]; done) | rfl
theorem jd_38_45__0 : decode jdk_38_method_45_code 0 = .ok (.iload_n 1, 1) := by decide +kernel
theorem jd_38_45__1 : decode jdk_38_method_45_code 1 = .ok (.aload_n 0, 1) := by decide +kernel
theorem jd_38_45__2 : decode jdk_38_method_45_code 2 = .ok (.getfield 48, 3) := by decide +kernel
theorem jd_38_45__5 : decode jdk_38_method_45_code 5 = .ok (.if_icmp .gt 7, 3) := by decide +kernel
theorem jd_38_45__8 : decode jdk_38_method_45_code 8 = .ok (.iload_n 1, 1) := by decide +kernel
theorem jd_38_45__9 : decode jdk_38_method_45_code 9 = .ok (.ifCond .ge 16, 3) := by decide +kernel
theorem jd_38_45__25 : decode jdk_38_method_45_code 25 = .ok (.return_, 1) := by decide +kernel
set_option maxRecDepth 65536 in
set_option maxHeartbeats 40000000 in
theorem rmRC11 (l : Launch) (Z : State) (a0 : Array Value) (hw : ∀ d ∈ tables_1, d.before a0 Z = true) (a : Addr) (h0 : Heap) (F : Fld Z h0 a "java/util/ArrayList" "size" "I" (.int (1 : Int32))) : Con l Z (⟨"java/util/ArrayList", "rangeCheckForAdd", "(I)V"⟩ : MethodName) jdk_38_method_45_code 2 none [] ({ frames := 0, cells := 0, slots := 0, locals := 0 } : Room) #[(.ref a), (.int (1 : Int32))] h0 (fun v h L => v = none ∧ L = [] ∧ h = h0) := by
  refine Con.of (plainFor_of_name pn_java_util_ArrayList) ?_
  intro p e s m below meth c T X hx hby hml hown hnm hret eT hZ hsh Φ fin
  replace hown : s.vm.findClass "java/util/ArrayList" = some m.cls := hown
  replace hml : 2 = c.maxLocals := hml.symm
  refine own_step (fun tq kq => castTop (ef_rmRC11 m a (1 : Int32)) kq) ?_
  refine own_iloadN X hx hby jd_38_45__0 rfl (pc' := 1) rfl ?_
  refine own_aloadN X hx hby jd_38_45__1 rfl rfl (pc' := 2) rfl ?_
  refine own_getF X hx hby hZ hown (host := "") (Or.inl (own_w hw 73 rfl)) Via.refl eT F jd_38_45__2 (pc' := 5) rfl ?_
  intro T1 X1 e1
  refine own_icmpN X1 hx hby jd_38_45__5 (flt (by decide)).2.2.1 (pc' := 8) rfl ?_
  refine own_iloadN X1 hx hby jd_38_45__8 rfl (pc' := 9) rfl ?_
  refine own_ifY X1 hx hby jd_38_45__9 ((if0 _ _).trans (flt (by decide)).2.1) (by decide) (pc' := 25) (by decide) ?_
  exact own_ret0 X1 hx hby fin hret jd_38_45__25 (by decide) (by decide) ⟨rfl, rfl, e1⟩
theorem ef_rmRC21 (m : MethodId) (x0 : Addr) (x1 : Int32) : entryFrame m #[(.ref x0), (.int x1)] 2 = mkF m 0 #[.val (.ref x0), .val (.int x1)] [] := by first | (simp [entryFrame, mkF, argsToLocals, Value.category]; done) | rfl
set_option maxRecDepth 65536 in
set_option maxHeartbeats 40000000 in
theorem rmRC21 (l : Launch) (Z : State) (a0 : Array Value) (hw : ∀ d ∈ tables_1, d.before a0 Z = true) (a : Addr) (h0 : Heap) (F : Fld Z h0 a "java/util/ArrayList" "size" "I" (.int (2 : Int32))) : Con l Z (⟨"java/util/ArrayList", "rangeCheckForAdd", "(I)V"⟩ : MethodName) jdk_38_method_45_code 2 none [] ({ frames := 0, cells := 0, slots := 0, locals := 0 } : Room) #[(.ref a), (.int (1 : Int32))] h0 (fun v h L => v = none ∧ L = [] ∧ h = h0) := by
  refine Con.of (plainFor_of_name pn_java_util_ArrayList) ?_
  intro p e s m below meth c T X hx hby hml hown hnm hret eT hZ hsh Φ fin
  replace hown : s.vm.findClass "java/util/ArrayList" = some m.cls := hown
  replace hml : 2 = c.maxLocals := hml.symm
  refine own_step (fun tq kq => castTop (ef_rmRC21 m a (1 : Int32)) kq) ?_
  refine own_iloadN X hx hby jd_38_45__0 rfl (pc' := 1) rfl ?_
  refine own_aloadN X hx hby jd_38_45__1 rfl rfl (pc' := 2) rfl ?_
  refine own_getF X hx hby hZ hown (host := "") (Or.inl (own_w hw 73 rfl)) Via.refl eT F jd_38_45__2 (pc' := 5) rfl ?_
  intro T1 X1 e1
  refine own_icmpN X1 hx hby jd_38_45__5 (flt (by decide)).2.2.1 (pc' := 8) rfl ?_
  refine own_iloadN X1 hx hby jd_38_45__8 rfl (pc' := 9) rfl ?_
  refine own_ifY X1 hx hby jd_38_45__9 ((if0 _ _).trans (flt (by decide)).2.1) (by decide) (pc' := 25) (by decide) ?_
  exact own_ret0 X1 hx hby fin hret jd_38_45__25 (by decide) (by decide) ⟨rfl, rfl, e1⟩
theorem ef_rmRC22 (m : MethodId) (x0 : Addr) (x1 : Int32) : entryFrame m #[(.ref x0), (.int x1)] 2 = mkF m 0 #[.val (.ref x0), .val (.int x1)] [] := by first | (simp [entryFrame, mkF, argsToLocals, Value.category]; done) | rfl
set_option maxRecDepth 65536 in
set_option maxHeartbeats 40000000 in
theorem rmRC22 (l : Launch) (Z : State) (a0 : Array Value) (hw : ∀ d ∈ tables_1, d.before a0 Z = true) (a : Addr) (h0 : Heap) (F : Fld Z h0 a "java/util/ArrayList" "size" "I" (.int (2 : Int32))) : Con l Z (⟨"java/util/ArrayList", "rangeCheckForAdd", "(I)V"⟩ : MethodName) jdk_38_method_45_code 2 none [] ({ frames := 0, cells := 0, slots := 0, locals := 0 } : Room) #[(.ref a), (.int (2 : Int32))] h0 (fun v h L => v = none ∧ L = [] ∧ h = h0) := by
  refine Con.of (plainFor_of_name pn_java_util_ArrayList) ?_
  intro p e s m below meth c T X hx hby hml hown hnm hret eT hZ hsh Φ fin
  replace hown : s.vm.findClass "java/util/ArrayList" = some m.cls := hown
  replace hml : 2 = c.maxLocals := hml.symm
  refine own_step (fun tq kq => castTop (ef_rmRC22 m a (2 : Int32)) kq) ?_
  refine own_iloadN X hx hby jd_38_45__0 rfl (pc' := 1) rfl ?_
  refine own_aloadN X hx hby jd_38_45__1 rfl rfl (pc' := 2) rfl ?_
  refine own_getF X hx hby hZ hown (host := "") (Or.inl (own_w hw 73 rfl)) Via.refl eT F jd_38_45__2 (pc' := 5) rfl ?_
  intro T1 X1 e1
  refine own_icmpN X1 hx hby jd_38_45__5 (flt (by decide)).2.2.1 (pc' := 8) rfl ?_
  refine own_iloadN X1 hx hby jd_38_45__8 rfl (pc' := 9) rfl ?_
  refine own_ifY X1 hx hby jd_38_45__9 ((if0 _ _).trans (flt (by decide)).2.1) (by decide) (pc' := 25) (by decide) ?_
  exact own_ret0 X1 hx hby fin hret jd_38_45__25 (by decide) (by decide) ⟨rfl, rfl, e1⟩
theorem ef_rmAt11 (m : MethodId) (x0 : Addr) (x1 : Int32) (x2 : Addr) : entryFrame m #[(.ref x0), (.int x1), (.ref x2)] 5 = mkF m 0 #[.val (.ref x0), .val (.int x1), .val (.ref x2), .unset, .unset] [] := by first | (simp [entryFrame, mkF, argsToLocals, Value.category]; done) | rfl
theorem jd_38_26__0 : decode jdk_38_method_26_code 0 = .ok (.aload_n 0, 1) := by decide +kernel
theorem jd_38_26__1 : decode jdk_38_method_26_code 1 = .ok (.iload_n 1, 1) := by decide +kernel
theorem jd_38_26__2 : decode jdk_38_method_26_code 2 = .ok (.invokevirtual 135, 3) := by decide +kernel
theorem pd__I_V : parseMethodDescriptor "(I)V" = some ⟨[.int], none⟩ := by decide +kernel
theorem jd_38_26__5 : decode jdk_38_method_26_code 5 = .ok (.aload_n 0, 1) := by decide +kernel
theorem jd_38_26__6 : decode jdk_38_method_26_code 6 = .ok (.dup, 1) := by decide +kernel
theorem jd_38_26__7 : decode jdk_38_method_26_code 7 = .ok (.getfield 63, 3) := by decide +kernel
theorem jd_38_26__10 : decode jdk_38_method_26_code 10 = .ok (.iconst 1, 1) := by decide +kernel
theorem jd_38_26__11 : decode jdk_38_method_26_code 11 = .ok (.iadd, 1) := by decide +kernel
theorem jd_38_26__12 : decode jdk_38_method_26_code 12 = .ok (.putfield 63, 3) := by decide +kernel
theorem jd_38_26__15 : decode jdk_38_method_26_code 15 = .ok (.aload_n 0, 1) := by decide +kernel
theorem jd_38_26__16 : decode jdk_38_method_26_code 16 = .ok (.getfield 48, 3) := by decide +kernel
theorem jd_38_26__19 : decode jdk_38_method_26_code 19 = .ok (.dup, 1) := by decide +kernel
theorem jd_38_26__20 : decode jdk_38_method_26_code 20 = .ok (.istore_n 3, 1) := by decide +kernel
theorem jd_38_26__21 : decode jdk_38_method_26_code 21 = .ok (.aload_n 0, 1) := by decide +kernel
theorem jd_38_26__22 : decode jdk_38_method_26_code 22 = .ok (.getfield 9, 3) := by decide +kernel
theorem jd_38_26__25 : decode jdk_38_method_26_code 25 = .ok (.dup, 1) := by decide +kernel
theorem jd_38_26__26 : decode jdk_38_method_26_code 26 = .ok (.astore 4, 2) := by decide +kernel
theorem jd_38_26__28 : decode jdk_38_method_26_code 28 = .ok (.arraylength, 1) := by decide +kernel
theorem jd_38_26__29 : decode jdk_38_method_26_code 29 = .ok (.if_icmp .ne 9, 3) := by decide +kernel
theorem jd_38_26__38 : decode jdk_38_method_26_code 38 = .ok (.aload 4, 2) := by decide +kernel
theorem jd_38_26__40 : decode jdk_38_method_26_code 40 = .ok (.iload_n 1, 1) := by decide +kernel
theorem jd_38_26__41 : decode jdk_38_method_26_code 41 = .ok (.aload 4, 2) := by decide +kernel
theorem jd_38_26__43 : decode jdk_38_method_26_code 43 = .ok (.iload_n 1, 1) := by decide +kernel
theorem jd_38_26__44 : decode jdk_38_method_26_code 44 = .ok (.iconst 1, 1) := by decide +kernel
theorem jd_38_26__45 : decode jdk_38_method_26_code 45 = .ok (.iadd, 1) := by decide +kernel
theorem jd_38_26__46 : decode jdk_38_method_26_code 46 = .ok (.iload_n 3, 1) := by decide +kernel
theorem jd_38_26__47 : decode jdk_38_method_26_code 47 = .ok (.iload_n 1, 1) := by decide +kernel
theorem jd_38_26__48 : decode jdk_38_method_26_code 48 = .ok (.isub, 1) := by decide +kernel
theorem jd_38_26__49 : decode jdk_38_method_26_code 49 = .ok (.invokestatic 112, 3) := by decide +kernel
theorem jd_38_26__52 : decode jdk_38_method_26_code 52 = .ok (.aload 4, 2) := by decide +kernel
theorem jd_38_26__54 : decode jdk_38_method_26_code 54 = .ok (.iload_n 1, 1) := by decide +kernel
theorem jd_38_26__55 : decode jdk_38_method_26_code 55 = .ok (.aload_n 2, 1) := by decide +kernel
theorem jd_38_26__56 : decode jdk_38_method_26_code 56 = .ok (.aastore, 1) := by decide +kernel
theorem jd_38_26__57 : decode jdk_38_method_26_code 57 = .ok (.aload_n 0, 1) := by decide +kernel
theorem jd_38_26__58 : decode jdk_38_method_26_code 58 = .ok (.iload_n 3, 1) := by decide +kernel
theorem jd_38_26__59 : decode jdk_38_method_26_code 59 = .ok (.iconst 1, 1) := by decide +kernel
theorem jd_38_26__60 : decode jdk_38_method_26_code 60 = .ok (.iadd, 1) := by decide +kernel
theorem jd_38_26__61 : decode jdk_38_method_26_code 61 = .ok (.putfield 48, 3) := by decide +kernel
theorem jd_38_26__64 : decode jdk_38_method_26_code 64 = .ok (.return_, 1) := by decide +kernel
set_option maxRecDepth 65536 in
set_option maxHeartbeats 40000000 in
theorem rmAt11 (l : Launch) (Z : State) (a0 : Array Value) (hw : ∀ d ∈ tables_1, d.before a0 Z = true) (a es x r0 : Addr) (mc : Int32) (n0 : Nat) (h0 : Heap) (n0_a : n0 ≤ a) (n0_es : n0 ≤ es) (ne_a_es : a ≠ es) (E : Exa Z h0 a "java/util/ArrayList") (F1 : Fld Z h0 a "java/util/AbstractList" "modCount" "I" (.int mc)) (F2 : Fld Z h0 a "java/util/ArrayList" "elementData" "[Ljava/lang/Object;" (.ref es)) (F3 : Fld Z h0 a "java/util/ArrayList" "size" "I" (.int (1 : Int32))) (V : AV Z h0 es (.object "java/lang/Object") [(.ref r0), .null, .null, .null, .null, .null, .null, .null, .null, .null]) (Y : CM Z h0 es "java/lang/Object") (Ex : Exa Z h0 x "[I") (Er0 : Exa Z h0 r0 "[I") : Con l Z (⟨"java/util/ArrayList", "add", "(ILjava/lang/Object;)V"⟩ : MethodName) jdk_38_method_26_code 5 none [] ({ frames := 2, cells := 0, slots := 0, locals := 40 } : Room) #[(.ref a), (.int (1 : Int32)), (.ref x)] h0 (fun v h L => v = none ∧ Fr n0 L ∧ Keep h0 h [a, es] ∧ Fld Z h a "java/util/AbstractList" "modCount" "I" (.int (mc + (1 : Int32))) ∧ Fld Z h a "java/util/ArrayList" "elementData" "[Ljava/lang/Object;" (.ref es) ∧ Fld Z h a "java/util/ArrayList" "size" "I" (.int (2 : Int32)) ∧ AV Z h es (.object "java/lang/Object") [(.ref r0), (.ref x), .null, .null, .null, .null, .null, .null, .null, .null]) := by
  refine Con.of (plainFor_of_name pn_java_util_ArrayList) ?_
  intro p e s m below meth c T X hx hby hml hown hnm hret eT hZ hsh Φ fin
  replace hown : s.vm.findClass "java/util/ArrayList" = some m.cls := hown
  replace hml : 5 = c.maxLocals := hml.symm
  refine own_step (fun tq kq => castTop (ef_rmAt11 m a (1 : Int32) x) kq) ?_
  have N0 := Fr.nil n0
  have K0 : Keep h0 h0 [a, es] := Keep.refl h0 [a, es]
  refine own_aloadN X hx hby jd_38_26__0 rfl rfl (pc' := 1) rfl ?_
  refine own_iloadN X hx hby jd_38_26__1 rfl (pc' := 2) rfl ?_
  refine own_callP X hx hby hZ (by exact hml) hown (own_w hw 154 rfl) (own_w hw 156 rfl) (own_w hw 157 rfl) (own_w hw 155 rfl) (own_w hw 27 rfl) (own_w hw 158 rfl) (by decide) eT 0 (by decide) (by decide) (by decide) (by decide) (argsL := [(.int (1 : Int32))]) (rest := []) (lenOf pd__I_V rfl) rfl (Nat.le_of_eq rfl) E (rmRC11 l Z a0 hw a h0 F3) jd_38_26__2 (pc' := 5) rfl ?_
  intro v1 T1 L1 X1 hQ1
  obtain ⟨rfl, rfl, e1⟩ := hQ1
  rw [List.append_nil] at X1
  replace e1 : T1.heap = h0 := e1
  show GoP p e below Φ (T1.setTop (mkF m 5 #[.val (.ref a), .val (.int (1 : Int32)), .val (.ref x), .unset, .unset] []))
  refine own_aloadN X1 hx hby jd_38_26__5 rfl rfl (pc' := 6) rfl ?_
  refine own_dup X1 hx hby jd_38_26__6 rfl (pc' := 7) rfl ?_
  refine own_getF X1 hx hby hZ hown (host := "") (Or.inl (own_w hw 71 rfl)) (Via.of (own_w hw 72 rfl)) e1 F1 jd_38_26__7 (pc' := 10) rfl ?_
  intro T2 X2 e2
  refine own_iconst X2 hx hby jd_38_26__10 (v := (1 : Int32)) rfl (pc' := 11) rfl ?_
  refine own_iadd X2 hx hby jd_38_26__11 (pc' := 12) rfl ?_
  refine own_putF X2 hx hby hZ hown (host := "") (Or.inl (own_w hw 71 rfl)) (Via.of (own_w hw 72 rfl)) e2 F1 E (Or.inl (own_w hw 45 rfl)) (own_w hw 26 rfl) (ty := .int) (by decide) rfl rfl jd_38_26__12 (pc' := 15) rfl ?_
  intro T3 h3 X3 e3 W3
  have E4_a := E.wr W3
  have F5_modCount := F1.same W3
  have F6_elementData := F2.other W3 (Or.inr (slot_ne (Or.inl (own_w hw 48 rfl)) (Or.inl (own_w hw 45 rfl)) (by decide) (t := (.array (.object "java/lang/Object"))) (t' := .int) (by decide) (by decide)))
  have F7_size := F3.other W3 (Or.inr (slot_ne (Or.inl (own_w hw 74 rfl)) (Or.inl (own_w hw 45 rfl)) (by decide) (t := .int) (t' := .int) (by decide) (by decide)))
  have V8_es := V.other W3 (Ne.symm ne_a_es)
  have Y9_es := Y.wr W3
  have E10_x := Ex.wr W3
  have E11_r0 := Er0.wr W3
  have N3 := Fr.snoc X3 N0 n0_a
  have K3 : Keep h0 h3 [a, es] := K0.wr W3 (Or.inl (List.mem_of_getElem? (i := 0) rfl))
  refine own_aloadN X3 hx hby jd_38_26__15 rfl rfl (pc' := 16) rfl ?_
  refine own_getF X3 hx hby hZ hown (host := "") (Or.inl (own_w hw 73 rfl)) Via.refl e3 F7_size jd_38_26__16 (pc' := 19) rfl ?_
  intro T12 X12 e12
  refine own_dup X12 hx hby jd_38_26__19 rfl (pc' := 20) rfl ?_
  refine own_istoreN X12 hx hby jd_38_26__20  (Ls' := #[.val (.ref a), .val (.int (1 : Int32)), .val (.ref x), .val (.int (1 : Int32)), .unset]) rfl (pc' := 21) rfl ?_
  refine own_aloadN X12 hx hby jd_38_26__21 rfl rfl (pc' := 22) rfl ?_
  refine own_getF X12 hx hby hZ hown (host := "") (Or.inl (own_w hw 47 rfl)) Via.refl e12 F6_elementData jd_38_26__22 (pc' := 25) rfl ?_
  intro T13 X13 e13
  refine own_dup X13 hx hby jd_38_26__25 rfl (pc' := 26) rfl ?_
  refine own_astore X13 hx hby jd_38_26__26 rfl (Ls' := #[.val (.ref a), .val (.int (1 : Int32)), .val (.ref x), .val (.int (1 : Int32)), .val (.ref es)]) rfl (pc' := 28) rfl ?_
  refine own_alen X13 hx hby hZ e13 (n := (10 : Int32)) V8_es rfl jd_38_26__28 (pc' := 29) rfl ?_
  refine own_icmpY X13 hx hby jd_38_26__29 (feq (by decide)).2 (by decide) (pc' := 38) (by decide) ?_
  refine own_aload X13 hx hby jd_38_26__38 rfl rfl (pc' := 40) rfl ?_
  refine own_iloadN X13 hx hby jd_38_26__40 rfl (pc' := 41) rfl ?_
  refine own_aload X13 hx hby jd_38_26__41 rfl rfl (pc' := 43) rfl ?_
  refine own_iloadN X13 hx hby jd_38_26__43 rfl (pc' := 44) rfl ?_
  refine own_iconst X13 hx hby jd_38_26__44 (v := (1 : Int32)) rfl (pc' := 45) rfl ?_
  refine own_iadd X13 hx hby jd_38_26__45 (pc' := 46) rfl ?_
  show GoP p e below Φ (T13.setTop (mkF m 46 #[.val (.ref a), .val (.int (1 : Int32)), .val (.ref x), .val (.int (1 : Int32)), .val (.ref es)] [(.int (2 : Int32)), (.ref es), (.int (1 : Int32)), (.ref es)]))
  refine own_iloadN X13 hx hby jd_38_26__46 rfl (pc' := 47) rfl ?_
  refine own_iloadN X13 hx hby jd_38_26__47 rfl (pc' := 48) rfl ?_
  refine own_isub X13 hx hby jd_38_26__48 (pc' := 49) rfl ?_
  show GoP p e below Φ (T13.setTop (mkF m 49 #[.val (.ref a), .val (.int (1 : Int32)), .val (.ref x), .val (.int (1 : Int32)), .val (.ref es)] [(.int (0 : Int32)), (.int (2 : Int32)), (.ref es), (.int (1 : Int32)), (.ref es)]))
  refine own_copyR X13 hx hby (dv := .null) hZ (by exact hml) hown (own_w hw 159 rfl) (own_w hw 117 rfl) (own_w hw 115 rfl) (own_w hw 116 rfl) e13 V8_es V8_es rfl rfl rfl trivial (by decide) (by decide) (by decide) (Nat.le_of_ble_eq_true rfl) (Nat.le_of_ble_eq_true rfl) N3 n0_es (by decide) 0 (Nat.le_of_eq rfl) (by decide) jd_38_26__49 (pc' := 52) rfl ?_
  intro T14 h14 L14 X14 e14 Nn14 K14 V14
  replace V14 : AV Z h14 es (.object "java/lang/Object") [(.ref r0), .null, .null, .null, .null, .null, .null, .null, .null, .null] := V14
  have E15_a := E4_a.keep K14 
  have F16_modCount := F5_modCount.keep K14 (ninS ne_a_es nin0)
  have F17_elementData := F6_elementData.keep K14 (ninS ne_a_es nin0)
  have F18_size := F7_size.keep K14 (ninS ne_a_es nin0)
  have Y19_es := Y9_es.keep K14 
  have E20_x := E10_x.keep K14 
  have E21_r0 := E11_r0.keep K14 
  have KC14 : Keep h0 h14 [a, es] := K3.trans K14 (allS (Or.inl (List.mem_of_getElem? (i := 1) rfl)) all0)
  refine own_aload X14 hx hby jd_38_26__52 rfl rfl (pc' := 54) rfl ?_
  refine own_iloadN X14 hx hby jd_38_26__54 rfl (pc' := 55) rfl ?_
  refine own_aloadN X14 hx hby jd_38_26__55 rfl rfl (pc' := 56) rfl ?_
  refine own_aastore X14 hx hby hZ e14 V14 rfl (own_sto V14 Y19_es (Ins.of_exa E20_x (own_w hw 96 rfl))) (by decide) (Nat.le_of_ble_eq_true rfl) jd_38_26__56 (pc' := 57) rfl ?_
  intro T22 h22 X22 e22 W22 V22
  replace V22 : AV Z h22 es (.object "java/lang/Object") [(.ref r0), (.ref x), .null, .null, .null, .null, .null, .null, .null, .null] := V22
  have E23_a := E15_a.wr W22
  have F24_modCount := F16_modCount.other W22 (Or.inl ne_a_es)
  have F25_elementData := F17_elementData.other W22 (Or.inl ne_a_es)
  have F26_size := F18_size.other W22 (Or.inl ne_a_es)
  have Y28_es := Y19_es.wr W22
  have E29_x := E20_x.wr W22
  have E30_r0 := E21_r0.wr W22
  have N22 := Fr.snoc X22 Nn14 n0_es
  have K22 : Keep h0 h22 [a, es] := KC14.wr W22 (Or.inl (List.mem_of_getElem? (i := 1) rfl))
  refine own_aloadN X22 hx hby jd_38_26__57 rfl rfl (pc' := 58) rfl ?_
  refine own_iloadN X22 hx hby jd_38_26__58 rfl (pc' := 59) rfl ?_
  refine own_iconst X22 hx hby jd_38_26__59 (v := (1 : Int32)) rfl (pc' := 60) rfl ?_
  refine own_iadd X22 hx hby jd_38_26__60 (pc' := 61) rfl ?_
  show GoP p e below Φ (T22.setTop (mkF m 61 #[.val (.ref a), .val (.int (1 : Int32)), .val (.ref x), .val (.int (1 : Int32)), .val (.ref es)] [(.int (2 : Int32)), (.ref a)]))
  refine own_putF X22 hx hby hZ hown (host := "") (Or.inl (own_w hw 73 rfl)) Via.refl e22 F26_size E23_a (Or.inl (own_w hw 74 rfl)) (own_w hw 26 rfl) (ty := .int) (by decide) rfl rfl jd_38_26__61 (pc' := 64) rfl ?_
  intro T31 h31 X31 e31 W31
  have E32_a := E23_a.wr W31
  have F33_modCount := F24_modCount.other W31 (Or.inr (slot_ne (Or.inl (own_w hw 45 rfl)) (Or.inl (own_w hw 74 rfl)) (by decide) (t := .int) (t' := .int) (by decide) (by decide)))
  have F34_elementData := F25_elementData.other W31 (Or.inr (slot_ne (Or.inl (own_w hw 48 rfl)) (Or.inl (own_w hw 74 rfl)) (by decide) (t := (.array (.object "java/lang/Object"))) (t' := .int) (by decide) (by decide)))
  have F35_size := F26_size.same W31
  have V36_es := V22.other W31 (Ne.symm ne_a_es)
  have Y37_es := Y28_es.wr W31
  have E38_x := E29_x.wr W31
  have E39_r0 := E30_r0.wr W31
  have N31 := Fr.snoc X31 N22 n0_a
  have K31 : Keep h0 h31 [a, es] := K22.wr W31 (Or.inl (List.mem_of_getElem? (i := 0) rfl))
  exact own_ret0 X31 hx hby fin hret jd_38_26__64 (by decide) (by decide) (by rw [e31]; exact ⟨rfl, N31, K31, F33_modCount, F34_elementData, F35_size, V36_es⟩)
theorem ef_rmAt21 (m : MethodId) (x0 : Addr) (x1 : Int32) (x2 : Addr) : entryFrame m #[(.ref x0), (.int x1), (.ref x2)] 5 = mkF m 0 #[.val (.ref x0), .val (.int x1), .val (.ref x2), .unset, .unset] [] := by first | (simp [entryFrame, mkF, argsToLocals, Value.category]; done) | rfl
set_option maxRecDepth 65536 in
set_option maxHeartbeats 40000000 in
theorem rmAt21 (l : Launch) (Z : State) (a0 : Array Value) (hw : ∀ d ∈ tables_1, d.before a0 Z = true) (a es x r0 r1 : Addr) (mc : Int32) (n0 : Nat) (h0 : Heap) (n0_a : n0 ≤ a) (n0_es : n0 ≤ es) (ne_a_es : a ≠ es) (E : Exa Z h0 a "java/util/ArrayList") (F1 : Fld Z h0 a "java/util/AbstractList" "modCount" "I" (.int mc)) (F2 : Fld Z h0 a "java/util/ArrayList" "elementData" "[Ljava/lang/Object;" (.ref es)) (F3 : Fld Z h0 a "java/util/ArrayList" "size" "I" (.int (2 : Int32))) (V : AV Z h0 es (.object "java/lang/Object") [(.ref r0), (.ref r1), .null, .null, .null, .null, .null, .null, .null, .null]) (Y : CM Z h0 es "java/lang/Object") (Ex : Exa Z h0 x "[I") (Er0 : Exa Z h0 r0 "[I") (Er1 : Exa Z h0 r1 "[I") : Con l Z (⟨"java/util/ArrayList", "add", "(ILjava/lang/Object;)V"⟩ : MethodName) jdk_38_method_26_code 5 none [] ({ frames := 2, cells := 0, slots := 0, locals := 40 } : Room) #[(.ref a), (.int (1 : Int32)), (.ref x)] h0 (fun v h L => v = none ∧ Fr n0 L ∧ Keep h0 h [a, es] ∧ Fld Z h a "java/util/AbstractList" "modCount" "I" (.int (mc + (1 : Int32))) ∧ Fld Z h a "java/util/ArrayList" "elementData" "[Ljava/lang/Object;" (.ref es) ∧ Fld Z h a "java/util/ArrayList" "size" "I" (.int (3 : Int32)) ∧ AV Z h es (.object "java/lang/Object") [(.ref r0), (.ref x), (.ref r1), .null, .null, .null, .null, .null, .null, .null]) := by
  refine Con.of (plainFor_of_name pn_java_util_ArrayList) ?_
  intro p e s m below meth c T X hx hby hml hown hnm hret eT hZ hsh Φ fin
  replace hown : s.vm.findClass "java/util/ArrayList" = some m.cls := hown
  replace hml : 5 = c.maxLocals := hml.symm
  refine own_step (fun tq kq => castTop (ef_rmAt21 m a (1 : Int32) x) kq) ?_
  have N0 := Fr.nil n0
  have K0 : Keep h0 h0 [a, es] := Keep.refl h0 [a, es]
  refine own_aloadN X hx hby jd_38_26__0 rfl rfl (pc' := 1) rfl ?_
  refine own_iloadN X hx hby jd_38_26__1 rfl (pc' := 2) rfl ?_
  refine own_callP X hx hby hZ (by exact hml) hown (own_w hw 154 rfl) (own_w hw 156 rfl) (own_w hw 157 rfl) (own_w hw 155 rfl) (own_w hw 27 rfl) (own_w hw 158 rfl) (by decide) eT 0 (by decide) (by decide) (by decide) (by decide) (argsL := [(.int (1 : Int32))]) (rest := []) (lenOf pd__I_V rfl) rfl (Nat.le_of_eq rfl) E (rmRC21 l Z a0 hw a h0 F3) jd_38_26__2 (pc' := 5) rfl ?_
  intro v1 T1 L1 X1 hQ1
  obtain ⟨rfl, rfl, e1⟩ := hQ1
  rw [List.append_nil] at X1
  replace e1 : T1.heap = h0 := e1
  show GoP p e below Φ (T1.setTop (mkF m 5 #[.val (.ref a), .val (.int (1 : Int32)), .val (.ref x), .unset, .unset] []))
  refine own_aloadN X1 hx hby jd_38_26__5 rfl rfl (pc' := 6) rfl ?_
  refine own_dup X1 hx hby jd_38_26__6 rfl (pc' := 7) rfl ?_
  refine own_getF X1 hx hby hZ hown (host := "") (Or.inl (own_w hw 71 rfl)) (Via.of (own_w hw 72 rfl)) e1 F1 jd_38_26__7 (pc' := 10) rfl ?_
  intro T2 X2 e2
  refine own_iconst X2 hx hby jd_38_26__10 (v := (1 : Int32)) rfl (pc' := 11) rfl ?_
  refine own_iadd X2 hx hby jd_38_26__11 (pc' := 12) rfl ?_
  refine own_putF X2 hx hby hZ hown (host := "") (Or.inl (own_w hw 71 rfl)) (Via.of (own_w hw 72 rfl)) e2 F1 E (Or.inl (own_w hw 45 rfl)) (own_w hw 26 rfl) (ty := .int) (by decide) rfl rfl jd_38_26__12 (pc' := 15) rfl ?_
  intro T3 h3 X3 e3 W3
  have E4_a := E.wr W3
  have F5_modCount := F1.same W3
  have F6_elementData := F2.other W3 (Or.inr (slot_ne (Or.inl (own_w hw 48 rfl)) (Or.inl (own_w hw 45 rfl)) (by decide) (t := (.array (.object "java/lang/Object"))) (t' := .int) (by decide) (by decide)))
  have F7_size := F3.other W3 (Or.inr (slot_ne (Or.inl (own_w hw 74 rfl)) (Or.inl (own_w hw 45 rfl)) (by decide) (t := .int) (t' := .int) (by decide) (by decide)))
  have V8_es := V.other W3 (Ne.symm ne_a_es)
  have Y9_es := Y.wr W3
  have E10_x := Ex.wr W3
  have E11_r0 := Er0.wr W3
  have E12_r1 := Er1.wr W3
  have N3 := Fr.snoc X3 N0 n0_a
  have K3 : Keep h0 h3 [a, es] := K0.wr W3 (Or.inl (List.mem_of_getElem? (i := 0) rfl))
  refine own_aloadN X3 hx hby jd_38_26__15 rfl rfl (pc' := 16) rfl ?_
  refine own_getF X3 hx hby hZ hown (host := "") (Or.inl (own_w hw 73 rfl)) Via.refl e3 F7_size jd_38_26__16 (pc' := 19) rfl ?_
  intro T13 X13 e13
  refine own_dup X13 hx hby jd_38_26__19 rfl (pc' := 20) rfl ?_
  refine own_istoreN X13 hx hby jd_38_26__20  (Ls' := #[.val (.ref a), .val (.int (1 : Int32)), .val (.ref x), .val (.int (2 : Int32)), .unset]) rfl (pc' := 21) rfl ?_
  refine own_aloadN X13 hx hby jd_38_26__21 rfl rfl (pc' := 22) rfl ?_
  refine own_getF X13 hx hby hZ hown (host := "") (Or.inl (own_w hw 47 rfl)) Via.refl e13 F6_elementData jd_38_26__22 (pc' := 25) rfl ?_
  intro T14 X14 e14
  refine own_dup X14 hx hby jd_38_26__25 rfl (pc' := 26) rfl ?_
  refine own_astore X14 hx hby jd_38_26__26 rfl (Ls' := #[.val (.ref a), .val (.int (1 : Int32)), .val (.ref x), .val (.int (2 : Int32)), .val (.ref es)]) rfl (pc' := 28) rfl ?_
  refine own_alen X14 hx hby hZ e14 (n := (10 : Int32)) V8_es rfl jd_38_26__28 (pc' := 29) rfl ?_
  refine own_icmpY X14 hx hby jd_38_26__29 (feq (by decide)).2 (by decide) (pc' := 38) (by decide) ?_
  refine own_aload X14 hx hby jd_38_26__38 rfl rfl (pc' := 40) rfl ?_
  refine own_iloadN X14 hx hby jd_38_26__40 rfl (pc' := 41) rfl ?_
  refine own_aload X14 hx hby jd_38_26__41 rfl rfl (pc' := 43) rfl ?_
  refine own_iloadN X14 hx hby jd_38_26__43 rfl (pc' := 44) rfl ?_
  refine own_iconst X14 hx hby jd_38_26__44 (v := (1 : Int32)) rfl (pc' := 45) rfl ?_
  refine own_iadd X14 hx hby jd_38_26__45 (pc' := 46) rfl ?_
  show GoP p e below Φ (T14.setTop (mkF m 46 #[.val (.ref a), .val (.int (1 : Int32)), .val (.ref x), .val (.int (2 : Int32)), .val (.ref es)] [(.int (2 : Int32)), (.ref es), (.int (1 : Int32)), (.ref es)]))
  refine own_iloadN X14 hx hby jd_38_26__46 rfl (pc' := 47) rfl ?_
  refine own_iloadN X14 hx hby jd_38_26__47 rfl (pc' := 48) rfl ?_
  refine own_isub X14 hx hby jd_38_26__48 (pc' := 49) rfl ?_
  show GoP p e below Φ (T14.setTop (mkF m 49 #[.val (.ref a), .val (.int (1 : Int32)), .val (.ref x), .val (.int (2 : Int32)), .val (.ref es)] [(.int (1 : Int32)), (.int (2 : Int32)), (.ref es), (.int (1 : Int32)), (.ref es)]))
  refine own_copyR X14 hx hby (dv := .null) hZ (by exact hml) hown (own_w hw 159 rfl) (own_w hw 117 rfl) (own_w hw 115 rfl) (own_w hw 116 rfl) e14 V8_es V8_es rfl rfl rfl ⟨(own_sto V8_es Y9_es (Ins.of_exa E12_r1 (own_w hw 96 rfl))), trivial⟩ (by decide) (by decide) (by decide) (Nat.le_of_ble_eq_true rfl) (Nat.le_of_ble_eq_true rfl) N3 n0_es (by decide) 0 (Nat.le_of_eq rfl) (by decide) jd_38_26__49 (pc' := 52) rfl ?_
  intro T15 h15 L15 X15 e15 Nn15 K15 V15
  replace V15 : AV Z h15 es (.object "java/lang/Object") [(.ref r0), (.ref r1), (.ref r1), .null, .null, .null, .null, .null, .null, .null] := V15
  have E16_a := E4_a.keep K15 
  have F17_modCount := F5_modCount.keep K15 (ninS ne_a_es nin0)
  have F18_elementData := F6_elementData.keep K15 (ninS ne_a_es nin0)
  have F19_size := F7_size.keep K15 (ninS ne_a_es nin0)
  have Y20_es := Y9_es.keep K15 
  have E21_x := E10_x.keep K15 
  have E22_r0 := E11_r0.keep K15 
  have E23_r1 := E12_r1.keep K15 
  have KC15 : Keep h0 h15 [a, es] := K3.trans K15 (allS (Or.inl (List.mem_of_getElem? (i := 1) rfl)) all0)
  refine own_aload X15 hx hby jd_38_26__52 rfl rfl (pc' := 54) rfl ?_
  refine own_iloadN X15 hx hby jd_38_26__54 rfl (pc' := 55) rfl ?_
  refine own_aloadN X15 hx hby jd_38_26__55 rfl rfl (pc' := 56) rfl ?_
  refine own_aastore X15 hx hby hZ e15 V15 rfl (own_sto V15 Y20_es (Ins.of_exa E21_x (own_w hw 96 rfl))) (by decide) (Nat.le_of_ble_eq_true rfl) jd_38_26__56 (pc' := 57) rfl ?_
  intro T24 h24 X24 e24 W24 V24
  replace V24 : AV Z h24 es (.object "java/lang/Object") [(.ref r0), (.ref x), (.ref r1), .null, .null, .null, .null, .null, .null, .null] := V24
  have E25_a := E16_a.wr W24
  have F26_modCount := F17_modCount.other W24 (Or.inl ne_a_es)
  have F27_elementData := F18_elementData.other W24 (Or.inl ne_a_es)
  have F28_size := F19_size.other W24 (Or.inl ne_a_es)
  have Y30_es := Y20_es.wr W24
  have E31_x := E21_x.wr W24
  have E32_r0 := E22_r0.wr W24
  have E33_r1 := E23_r1.wr W24
  have N24 := Fr.snoc X24 Nn15 n0_es
  have K24 : Keep h0 h24 [a, es] := KC15.wr W24 (Or.inl (List.mem_of_getElem? (i := 1) rfl))
  refine own_aloadN X24 hx hby jd_38_26__57 rfl rfl (pc' := 58) rfl ?_
  refine own_iloadN X24 hx hby jd_38_26__58 rfl (pc' := 59) rfl ?_
  refine own_iconst X24 hx hby jd_38_26__59 (v := (1 : Int32)) rfl (pc' := 60) rfl ?_
  refine own_iadd X24 hx hby jd_38_26__60 (pc' := 61) rfl ?_
  show GoP p e below Φ (T24.setTop (mkF m 61 #[.val (.ref a), .val (.int (1 : Int32)), .val (.ref x), .val (.int (2 : Int32)), .val (.ref es)] [(.int (3 : Int32)), (.ref a)]))
  refine own_putF X24 hx hby hZ hown (host := "") (Or.inl (own_w hw 73 rfl)) Via.refl e24 F28_size E25_a (Or.inl (own_w hw 74 rfl)) (own_w hw 26 rfl) (ty := .int) (by decide) rfl rfl jd_38_26__61 (pc' := 64) rfl ?_
  intro T34 h34 X34 e34 W34
  have E35_a := E25_a.wr W34
  have F36_modCount := F26_modCount.other W34 (Or.inr (slot_ne (Or.inl (own_w hw 45 rfl)) (Or.inl (own_w hw 74 rfl)) (by decide) (t := .int) (t' := .int) (by decide) (by decide)))
  have F37_elementData := F27_elementData.other W34 (Or.inr (slot_ne (Or.inl (own_w hw 48 rfl)) (Or.inl (own_w hw 74 rfl)) (by decide) (t := (.array (.object "java/lang/Object"))) (t' := .int) (by decide) (by decide)))
  have F38_size := F28_size.same W34
  have V39_es := V24.other W34 (Ne.symm ne_a_es)
  have Y40_es := Y30_es.wr W34
  have E41_x := E31_x.wr W34
  have E42_r0 := E32_r0.wr W34
  have E43_r1 := E33_r1.wr W34
  have N34 := Fr.snoc X34 N24 n0_a
  have K34 : Keep h0 h34 [a, es] := K24.wr W34 (Or.inl (List.mem_of_getElem? (i := 0) rfl))
  exact own_ret0 X34 hx hby fin hret jd_38_26__64 (by decide) (by decide) (by rw [e34]; exact ⟨rfl, N34, K34, F36_modCount, F37_elementData, F38_size, V39_es⟩)
theorem ef_rmAt22 (m : MethodId) (x0 : Addr) (x1 : Int32) (x2 : Addr) : entryFrame m #[(.ref x0), (.int x1), (.ref x2)] 5 = mkF m 0 #[.val (.ref x0), .val (.int x1), .val (.ref x2), .unset, .unset] [] := by first | (simp [entryFrame, mkF, argsToLocals, Value.category]; done) | rfl
set_option maxRecDepth 65536 in
set_option maxHeartbeats 40000000 in
theorem rmAt22 (l : Launch) (Z : State) (a0 : Array Value) (hw : ∀ d ∈ tables_1, d.before a0 Z = true) (a es x r0 r1 : Addr) (mc : Int32) (n0 : Nat) (h0 : Heap) (n0_a : n0 ≤ a) (n0_es : n0 ≤ es) (ne_a_es : a ≠ es) (E : Exa Z h0 a "java/util/ArrayList") (F1 : Fld Z h0 a "java/util/AbstractList" "modCount" "I" (.int mc)) (F2 : Fld Z h0 a "java/util/ArrayList" "elementData" "[Ljava/lang/Object;" (.ref es)) (F3 : Fld Z h0 a "java/util/ArrayList" "size" "I" (.int (2 : Int32))) (V : AV Z h0 es (.object "java/lang/Object") [(.ref r0), (.ref r1), .null, .null, .null, .null, .null, .null, .null, .null]) (Y : CM Z h0 es "java/lang/Object") (Ex : Exa Z h0 x "[I") (Er0 : Exa Z h0 r0 "[I") (Er1 : Exa Z h0 r1 "[I") : Con l Z (⟨"java/util/ArrayList", "add", "(ILjava/lang/Object;)V"⟩ : MethodName) jdk_38_method_26_code 5 none [] ({ frames := 2, cells := 0, slots := 0, locals := 40 } : Room) #[(.ref a), (.int (2 : Int32)), (.ref x)] h0 (fun v h L => v = none ∧ Fr n0 L ∧ Keep h0 h [a, es] ∧ Fld Z h a "java/util/AbstractList" "modCount" "I" (.int (mc + (1 : Int32))) ∧ Fld Z h a "java/util/ArrayList" "elementData" "[Ljava/lang/Object;" (.ref es) ∧ Fld Z h a "java/util/ArrayList" "size" "I" (.int (3 : Int32)) ∧ AV Z h es (.object "java/lang/Object") [(.ref r0), (.ref r1), (.ref x), .null, .null, .null, .null, .null, .null, .null]) := by
  refine Con.of (plainFor_of_name pn_java_util_ArrayList) ?_
  intro p e s m below meth c T X hx hby hml hown hnm hret eT hZ hsh Φ fin
  replace hown : s.vm.findClass "java/util/ArrayList" = some m.cls := hown
  replace hml : 5 = c.maxLocals := hml.symm
  refine own_step (fun tq kq => castTop (ef_rmAt22 m a (2 : Int32) x) kq) ?_
  have N0 := Fr.nil n0
  have K0 : Keep h0 h0 [a, es] := Keep.refl h0 [a, es]
  refine own_aloadN X hx hby jd_38_26__0 rfl rfl (pc' := 1) rfl ?_
  refine own_iloadN X hx hby jd_38_26__1 rfl (pc' := 2) rfl ?_
  refine own_callP X hx hby hZ (by exact hml) hown (own_w hw 154 rfl) (own_w hw 156 rfl) (own_w hw 157 rfl) (own_w hw 155 rfl) (own_w hw 27 rfl) (own_w hw 158 rfl) (by decide) eT 0 (by decide) (by decide) (by decide) (by decide) (argsL := [(.int (2 : Int32))]) (rest := []) (lenOf pd__I_V rfl) rfl (Nat.le_of_eq rfl) E (rmRC22 l Z a0 hw a h0 F3) jd_38_26__2 (pc' := 5) rfl ?_
  intro v1 T1 L1 X1 hQ1
  obtain ⟨rfl, rfl, e1⟩ := hQ1
  rw [List.append_nil] at X1
  replace e1 : T1.heap = h0 := e1
  show GoP p e below Φ (T1.setTop (mkF m 5 #[.val (.ref a), .val (.int (2 : Int32)), .val (.ref x), .unset, .unset] []))
  refine own_aloadN X1 hx hby jd_38_26__5 rfl rfl (pc' := 6) rfl ?_
  refine own_dup X1 hx hby jd_38_26__6 rfl (pc' := 7) rfl ?_
  refine own_getF X1 hx hby hZ hown (host := "") (Or.inl (own_w hw 71 rfl)) (Via.of (own_w hw 72 rfl)) e1 F1 jd_38_26__7 (pc' := 10) rfl ?_
  intro T2 X2 e2
  refine own_iconst X2 hx hby jd_38_26__10 (v := (1 : Int32)) rfl (pc' := 11) rfl ?_
  refine own_iadd X2 hx hby jd_38_26__11 (pc' := 12) rfl ?_
  refine own_putF X2 hx hby hZ hown (host := "") (Or.inl (own_w hw 71 rfl)) (Via.of (own_w hw 72 rfl)) e2 F1 E (Or.inl (own_w hw 45 rfl)) (own_w hw 26 rfl) (ty := .int) (by decide) rfl rfl jd_38_26__12 (pc' := 15) rfl ?_
  intro T3 h3 X3 e3 W3
  have E4_a := E.wr W3
  have F5_modCount := F1.same W3
  have F6_elementData := F2.other W3 (Or.inr (slot_ne (Or.inl (own_w hw 48 rfl)) (Or.inl (own_w hw 45 rfl)) (by decide) (t := (.array (.object "java/lang/Object"))) (t' := .int) (by decide) (by decide)))
  have F7_size := F3.other W3 (Or.inr (slot_ne (Or.inl (own_w hw 74 rfl)) (Or.inl (own_w hw 45 rfl)) (by decide) (t := .int) (t' := .int) (by decide) (by decide)))
  have V8_es := V.other W3 (Ne.symm ne_a_es)
  have Y9_es := Y.wr W3
  have E10_x := Ex.wr W3
  have E11_r0 := Er0.wr W3
  have E12_r1 := Er1.wr W3
  have N3 := Fr.snoc X3 N0 n0_a
  have K3 : Keep h0 h3 [a, es] := K0.wr W3 (Or.inl (List.mem_of_getElem? (i := 0) rfl))
  refine own_aloadN X3 hx hby jd_38_26__15 rfl rfl (pc' := 16) rfl ?_
  refine own_getF X3 hx hby hZ hown (host := "") (Or.inl (own_w hw 73 rfl)) Via.refl e3 F7_size jd_38_26__16 (pc' := 19) rfl ?_
  intro T13 X13 e13
  refine own_dup X13 hx hby jd_38_26__19 rfl (pc' := 20) rfl ?_
  refine own_istoreN X13 hx hby jd_38_26__20  (Ls' := #[.val (.ref a), .val (.int (2 : Int32)), .val (.ref x), .val (.int (2 : Int32)), .unset]) rfl (pc' := 21) rfl ?_
  refine own_aloadN X13 hx hby jd_38_26__21 rfl rfl (pc' := 22) rfl ?_
  refine own_getF X13 hx hby hZ hown (host := "") (Or.inl (own_w hw 47 rfl)) Via.refl e13 F6_elementData jd_38_26__22 (pc' := 25) rfl ?_
  intro T14 X14 e14
  refine own_dup X14 hx hby jd_38_26__25 rfl (pc' := 26) rfl ?_
  refine own_astore X14 hx hby jd_38_26__26 rfl (Ls' := #[.val (.ref a), .val (.int (2 : Int32)), .val (.ref x), .val (.int (2 : Int32)), .val (.ref es)]) rfl (pc' := 28) rfl ?_
  refine own_alen X14 hx hby hZ e14 (n := (10 : Int32)) V8_es rfl jd_38_26__28 (pc' := 29) rfl ?_
  refine own_icmpY X14 hx hby jd_38_26__29 (feq (by decide)).2 (by decide) (pc' := 38) (by decide) ?_
  refine own_aload X14 hx hby jd_38_26__38 rfl rfl (pc' := 40) rfl ?_
  refine own_iloadN X14 hx hby jd_38_26__40 rfl (pc' := 41) rfl ?_
  refine own_aload X14 hx hby jd_38_26__41 rfl rfl (pc' := 43) rfl ?_
  refine own_iloadN X14 hx hby jd_38_26__43 rfl (pc' := 44) rfl ?_
  refine own_iconst X14 hx hby jd_38_26__44 (v := (1 : Int32)) rfl (pc' := 45) rfl ?_
  refine own_iadd X14 hx hby jd_38_26__45 (pc' := 46) rfl ?_
  show GoP p e below Φ (T14.setTop (mkF m 46 #[.val (.ref a), .val (.int (2 : Int32)), .val (.ref x), .val (.int (2 : Int32)), .val (.ref es)] [(.int (3 : Int32)), (.ref es), (.int (2 : Int32)), (.ref es)]))
  refine own_iloadN X14 hx hby jd_38_26__46 rfl (pc' := 47) rfl ?_
  refine own_iloadN X14 hx hby jd_38_26__47 rfl (pc' := 48) rfl ?_
  refine own_isub X14 hx hby jd_38_26__48 (pc' := 49) rfl ?_
  show GoP p e below Φ (T14.setTop (mkF m 49 #[.val (.ref a), .val (.int (2 : Int32)), .val (.ref x), .val (.int (2 : Int32)), .val (.ref es)] [(.int (0 : Int32)), (.int (3 : Int32)), (.ref es), (.int (2 : Int32)), (.ref es)]))
  refine own_copyR X14 hx hby (dv := .null) hZ (by exact hml) hown (own_w hw 159 rfl) (own_w hw 117 rfl) (own_w hw 115 rfl) (own_w hw 116 rfl) e14 V8_es V8_es rfl rfl rfl trivial (by decide) (by decide) (by decide) (Nat.le_of_ble_eq_true rfl) (Nat.le_of_ble_eq_true rfl) N3 n0_es (by decide) 0 (Nat.le_of_eq rfl) (by decide) jd_38_26__49 (pc' := 52) rfl ?_
  intro T15 h15 L15 X15 e15 Nn15 K15 V15
  replace V15 : AV Z h15 es (.object "java/lang/Object") [(.ref r0), (.ref r1), .null, .null, .null, .null, .null, .null, .null, .null] := V15
  have E16_a := E4_a.keep K15 
  have F17_modCount := F5_modCount.keep K15 (ninS ne_a_es nin0)
  have F18_elementData := F6_elementData.keep K15 (ninS ne_a_es nin0)
  have F19_size := F7_size.keep K15 (ninS ne_a_es nin0)
  have Y20_es := Y9_es.keep K15 
  have E21_x := E10_x.keep K15 
  have E22_r0 := E11_r0.keep K15 
  have E23_r1 := E12_r1.keep K15 
  have KC15 : Keep h0 h15 [a, es] := K3.trans K15 (allS (Or.inl (List.mem_of_getElem? (i := 1) rfl)) all0)
  refine own_aload X15 hx hby jd_38_26__52 rfl rfl (pc' := 54) rfl ?_
  refine own_iloadN X15 hx hby jd_38_26__54 rfl (pc' := 55) rfl ?_
  refine own_aloadN X15 hx hby jd_38_26__55 rfl rfl (pc' := 56) rfl ?_
  refine own_aastore X15 hx hby hZ e15 V15 rfl (own_sto V15 Y20_es (Ins.of_exa E21_x (own_w hw 96 rfl))) (by decide) (Nat.le_of_ble_eq_true rfl) jd_38_26__56 (pc' := 57) rfl ?_
  intro T24 h24 X24 e24 W24 V24
  replace V24 : AV Z h24 es (.object "java/lang/Object") [(.ref r0), (.ref r1), (.ref x), .null, .null, .null, .null, .null, .null, .null] := V24
  have E25_a := E16_a.wr W24
  have F26_modCount := F17_modCount.other W24 (Or.inl ne_a_es)
  have F27_elementData := F18_elementData.other W24 (Or.inl ne_a_es)
  have F28_size := F19_size.other W24 (Or.inl ne_a_es)
  have Y30_es := Y20_es.wr W24
  have E31_x := E21_x.wr W24
  have E32_r0 := E22_r0.wr W24
  have E33_r1 := E23_r1.wr W24
  have N24 := Fr.snoc X24 Nn15 n0_es
  have K24 : Keep h0 h24 [a, es] := KC15.wr W24 (Or.inl (List.mem_of_getElem? (i := 1) rfl))
  refine own_aloadN X24 hx hby jd_38_26__57 rfl rfl (pc' := 58) rfl ?_
  refine own_iloadN X24 hx hby jd_38_26__58 rfl (pc' := 59) rfl ?_
  refine own_iconst X24 hx hby jd_38_26__59 (v := (1 : Int32)) rfl (pc' := 60) rfl ?_
  refine own_iadd X24 hx hby jd_38_26__60 (pc' := 61) rfl ?_
  show GoP p e below Φ (T24.setTop (mkF m 61 #[.val (.ref a), .val (.int (2 : Int32)), .val (.ref x), .val (.int (2 : Int32)), .val (.ref es)] [(.int (3 : Int32)), (.ref a)]))
  refine own_putF X24 hx hby hZ hown (host := "") (Or.inl (own_w hw 73 rfl)) Via.refl e24 F28_size E25_a (Or.inl (own_w hw 74 rfl)) (own_w hw 26 rfl) (ty := .int) (by decide) rfl rfl jd_38_26__61 (pc' := 64) rfl ?_
  intro T34 h34 X34 e34 W34
  have E35_a := E25_a.wr W34
  have F36_modCount := F26_modCount.other W34 (Or.inr (slot_ne (Or.inl (own_w hw 45 rfl)) (Or.inl (own_w hw 74 rfl)) (by decide) (t := .int) (t' := .int) (by decide) (by decide)))
  have F37_elementData := F27_elementData.other W34 (Or.inr (slot_ne (Or.inl (own_w hw 48 rfl)) (Or.inl (own_w hw 74 rfl)) (by decide) (t := (.array (.object "java/lang/Object"))) (t' := .int) (by decide) (by decide)))
  have F38_size := F28_size.same W34
  have V39_es := V24.other W34 (Ne.symm ne_a_es)
  have Y40_es := Y30_es.wr W34
  have E41_x := E31_x.wr W34
  have E42_r0 := E32_r0.wr W34
  have E43_r1 := E33_r1.wr W34
  have N34 := Fr.snoc X34 N24 n0_a
  have K34 : Keep h0 h34 [a, es] := K24.wr W34 (Or.inl (List.mem_of_getElem? (i := 0) rfl))
  exact own_ret0 X34 hx hby fin hret jd_38_26__64 (by decide) (by decide) (by rw [e34]; exact ⟨rfl, N34, K34, F36_modCount, F37_elementData, F38_size, V39_es⟩)
theorem ef_rmB0_0 (m : MethodId) (x0 : Addr) (x1 : Int32) (x2 : Int32) (x3 : Int32) : entryFrame m #[(.ref x0), (.int x1), (.int x2), (.int x3)] 8 = mkF m 0 #[.val (.ref x0), .val (.int x1), .val (.int x2), .val (.int x3), .unset, .unset, .unset, .unset] [] := by first | (simp [entryFrame, mkF, argsToLocals, Value.category]; done) | rfl
theorem pn_java_util_Arrays : plainName "java/util/Arrays" = true := by first | (simp [plainName, overriddenIn]; done) | decide +kernel
theorem jd_65_59__0 : decode jdk_65_method_59_code 0 = .ok (.iload_n 1, 1) := by decide +kernel
theorem jd_65_59__1 : decode jdk_65_method_59_code 1 = .ok (.istore 4, 2) := by decide +kernel
theorem jd_65_59__3 : decode jdk_65_method_59_code 3 = .ok (.iload_n 2, 1) := by decide +kernel
theorem jd_65_59__4 : decode jdk_65_method_59_code 4 = .ok (.iconst 1, 1) := by decide +kernel
theorem jd_65_59__5 : decode jdk_65_method_59_code 5 = .ok (.isub, 1) := by decide +kernel
theorem jd_65_59__6 : decode jdk_65_method_59_code 6 = .ok (.istore 5, 2) := by decide +kernel
theorem jd_65_59__8 : decode jdk_65_method_59_code 8 = .ok (.iload 4, 2) := by decide +kernel
theorem jd_65_59__10 : decode jdk_65_method_59_code 10 = .ok (.iload 5, 2) := by decide +kernel
theorem jd_65_59__12 : decode jdk_65_method_59_code 12 = .ok (.if_icmp .gt 54, 3) := by decide +kernel
theorem jd_65_59__66 : decode jdk_65_method_59_code 66 = .ok (.iload 4, 2) := by decide +kernel
theorem jd_65_59__68 : decode jdk_65_method_59_code 68 = .ok (.iconst 1, 1) := by decide +kernel
theorem jd_65_59__69 : decode jdk_65_method_59_code 69 = .ok (.iadd, 1) := by decide +kernel
theorem jd_65_59__70 : decode jdk_65_method_59_code 70 = .ok (.ineg, 1) := by decide +kernel
theorem jd_65_59__71 : decode jdk_65_method_59_code 71 = .ok (.ireturn, 1) := by decide +kernel
set_option maxRecDepth 65536 in
set_option maxHeartbeats 40000000 in
theorem rmB0_0 (l : Launch) (Z : State) (a0 : Array Value) (hw : ∀ d ∈ tables_1, d.before a0 Z = true) (a : Addr)  (k : Int32) (h0 : Heap) (V : AV Z h0 a .int []) : Con l Z (⟨"java/util/Arrays", "binarySearch0", "([IIII)I"⟩ : MethodName) jdk_65_method_59_code 8 (some .int) [] ({ frames := 0, cells := 0, slots := 0, locals := 0 } : Room) #[(.ref a), (.int (0 : Int32)), (.int (0 : Int32)), (.int k)] h0 (fun v h L => v = some (.int (-1 : Int32)) ∧ L = [] ∧ h = h0) := by
  refine Con.of (plainFor_of_name pn_java_util_Arrays) ?_
  intro p e s m below meth c T X hx hby hml hown hnm hret eT hZ hsh Φ fin
  replace hown : s.vm.findClass "java/util/Arrays" = some m.cls := hown
  replace hml : 8 = c.maxLocals := hml.symm
  refine own_step (fun tq kq => castTop (ef_rmB0_0 m a (0 : Int32) (0 : Int32) k) kq) ?_
  refine own_iloadN X hx hby jd_65_59__0 rfl (pc' := 1) rfl ?_
  refine own_istore X hx hby jd_65_59__1  (Ls' := #[.val (.ref a), .val (.int (0 : Int32)), .val (.int (0 : Int32)), .val (.int k), .val (.int (0 : Int32)), .unset, .unset, .unset]) rfl (pc' := 3) rfl ?_
  refine own_iloadN X hx hby jd_65_59__3 rfl (pc' := 4) rfl ?_
  refine own_iconst X hx hby jd_65_59__4 (v := (1 : Int32)) rfl (pc' := 5) rfl ?_
  refine own_isub X hx hby jd_65_59__5 (pc' := 6) rfl ?_
  show GoP p e below Φ (T.setTop (mkF m 6 #[.val (.ref a), .val (.int (0 : Int32)), .val (.int (0 : Int32)), .val (.int k), .val (.int (0 : Int32)), .unset, .unset, .unset] [(.int (-1 : Int32))]))
  refine own_istore X hx hby jd_65_59__6  (Ls' := #[.val (.ref a), .val (.int (0 : Int32)), .val (.int (0 : Int32)), .val (.int k), .val (.int (0 : Int32)), .val (.int (-1 : Int32)), .unset, .unset]) rfl (pc' := 8) rfl ?_
  refine own_iload X hx hby jd_65_59__8 rfl (pc' := 10) rfl ?_
  refine own_iload X hx hby jd_65_59__10 rfl (pc' := 12) rfl ?_
  refine own_icmpY X hx hby jd_65_59__12 (tlt (by decide)).2.2.1 (by decide) (pc' := 66) (by decide) ?_
  refine own_iload X hx hby jd_65_59__66 rfl (pc' := 68) rfl ?_
  refine own_iconst X hx hby jd_65_59__68 (v := (1 : Int32)) rfl (pc' := 69) rfl ?_
  refine own_iadd X hx hby jd_65_59__69 (pc' := 70) rfl ?_
  show GoP p e below Φ (T.setTop (mkF m 70 #[.val (.ref a), .val (.int (0 : Int32)), .val (.int (0 : Int32)), .val (.int k), .val (.int (0 : Int32)), .val (.int (-1 : Int32)), .unset, .unset] [(.int (1 : Int32))]))
  refine own_ineg X hx hby jd_65_59__70 (pc' := 71) rfl ?_
  show GoP p e below Φ (T.setTop (mkF m 71 #[.val (.ref a), .val (.int (0 : Int32)), .val (.int (0 : Int32)), .val (.int k), .val (.int (0 : Int32)), .val (.int (-1 : Int32)), .unset, .unset] [(.int (-1 : Int32))]))
  exact own_retI X hx hby fin hret jd_65_59__71 (by decide) (by decide) ⟨rfl, rfl, eT⟩
theorem ef_rmB1_0 (m : MethodId) (x0 : Addr) (x1 : Int32) : entryFrame m #[(.ref x0), (.int x1)] 2 = mkF m 0 #[.val (.ref x0), .val (.int x1)] [] := by first | (simp [entryFrame, mkF, argsToLocals, Value.category]; done) | rfl
theorem jd_65_57__0 : decode jdk_65_method_57_code 0 = .ok (.aload_n 0, 1) := by decide +kernel
theorem jd_65_57__1 : decode jdk_65_method_57_code 1 = .ok (.iconst 0, 1) := by decide +kernel
theorem jd_65_57__2 : decode jdk_65_method_57_code 2 = .ok (.aload_n 0, 1) := by decide +kernel
theorem jd_65_57__3 : decode jdk_65_method_57_code 3 = .ok (.arraylength, 1) := by decide +kernel
theorem jd_65_57__4 : decode jdk_65_method_57_code 4 = .ok (.iload_n 1, 1) := by decide +kernel
theorem jd_65_57__5 : decode jdk_65_method_57_code 5 = .ok (.invokestatic 209, 3) := by decide +kernel
theorem pd___IIII_I : parseMethodDescriptor "([IIII)I" = some ⟨[(.array .int), .int, .int, .int], some .int⟩ := by decide +kernel
theorem jd_65_57__8 : decode jdk_65_method_57_code 8 = .ok (.ireturn, 1) := by decide +kernel
set_option maxRecDepth 65536 in
set_option maxHeartbeats 40000000 in
theorem rmB1_0 (l : Launch) (Z : State) (a0 : Array Value) (hw : ∀ d ∈ tables_1, d.before a0 Z = true) (a : Addr)  (k : Int32) (h0 : Heap) (V : AV Z h0 a .int []) : Con l Z (⟨"java/util/Arrays", "binarySearch", "([II)I"⟩ : MethodName) jdk_65_method_57_code 2 (some .int) [] ({ frames := 1, cells := 0, slots := 0, locals := 30 } : Room) #[(.ref a), (.int k)] h0 (fun v h L => v = some (.int (-1 : Int32)) ∧ L = [] ∧ h = h0) := by
  refine Con.of (plainFor_of_name pn_java_util_Arrays) ?_
  intro p e s m below meth c T X hx hby hml hown hnm hret eT hZ hsh Φ fin
  replace hown : s.vm.findClass "java/util/Arrays" = some m.cls := hown
  replace hml : 2 = c.maxLocals := hml.symm
  refine own_step (fun tq kq => castTop (ef_rmB1_0 m a k) kq) ?_
  refine own_aloadN X hx hby jd_65_57__0 rfl rfl (pc' := 1) rfl ?_
  refine own_iconst X hx hby jd_65_57__1 (v := (0 : Int32)) rfl (pc' := 2) rfl ?_
  refine own_aloadN X hx hby jd_65_57__2 rfl rfl (pc' := 3) rfl ?_
  refine own_alen X hx hby hZ eT (n := (0 : Int32)) V rfl jd_65_57__3 (pc' := 4) rfl ?_
  refine own_iloadN X hx hby jd_65_57__4 rfl (pc' := 5) rfl ?_
  refine own_callS X hx hby hZ (by exact hml) hown (own_w hw 111 rfl) (own_w hw 112 rfl) (own_w hw 109 rfl) (own_w hw 113 rfl) (by decide) eT 0 (by decide) (by decide) (by decide) (by decide) (argsL := [(.ref a), (.int (0 : Int32)), (.int (0 : Int32)), (.int k)]) (rest := []) (lenOf pd___IIII_I rfl) rfl (rmB0_0 l Z a0 hw a  k h0 V) (Nat.le_of_eq rfl) jd_65_57__5 (pc' := 8) rfl ?_
  intro v1 T1 L1 X1 hQ1
  obtain ⟨rfl, rfl, e1⟩ := hQ1
  rw [List.append_nil] at X1
  replace e1 : T1.heap = h0 := e1
  show GoP p e below Φ (T1.setTop (mkF m 8 #[.val (.ref a), .val (.int k)] [(.int (-1 : Int32))]))
  exact own_retI X1 hx hby fin hret jd_65_57__8 (by decide) (by decide) ⟨rfl, rfl, e1⟩
theorem ef_rmIv0_0 (m : MethodId) (x0 : Addr) (x1 : Addr) (x2 : Int32) : entryFrame m #[(.ref x0), (.ref x1), (.int x2)] 4 = mkF m 0 #[.val (.ref x0), .val (.ref x1), .val (.int x2), .unset] [] := by first | (simp [entryFrame, mkF, argsToLocals, Value.category]; done) | rfl
theorem pn_com_example_collectary_collectary_broker_Grid : plainName "com/example/collectary/collectary/broker/Grid" = true := by first | (simp [plainName, overriddenIn]; done) | decide +kernel
theorem d_14_7__0 : decode prog_14_method_7_code 0 = .ok (.aload_n 0, 1) := by decide +kernel
theorem d_14_7__1 : decode prog_14_method_7_code 1 = .ok (.getfield 14, 3) := by decide +kernel
theorem d_14_7__4 : decode prog_14_method_7_code 4 = .ok (.aload_n 1, 1) := by decide +kernel
theorem d_14_7__5 : decode prog_14_method_7_code 5 = .ok (.invokevirtual 31, 3) := by decide +kernel
theorem pd___I : parseMethodDescriptor "()I" = some ⟨[], some .int⟩ := by decide +kernel
theorem d_14_7__8 : decode prog_14_method_7_code 8 = .ok (.aaload, 1) := by decide +kernel
theorem d_14_7__9 : decode prog_14_method_7_code 9 = .ok (.iload_n 2, 1) := by decide +kernel
theorem d_14_7__10 : decode prog_14_method_7_code 10 = .ok (.invokestatic 96, 3) := by decide +kernel
theorem pd___II_I : parseMethodDescriptor "([II)I" = some ⟨[(.array .int), .int], some .int⟩ := by decide +kernel
theorem d_14_7__13 : decode prog_14_method_7_code 13 = .ok (.istore_n 3, 1) := by decide +kernel
theorem d_14_7__14 : decode prog_14_method_7_code 14 = .ok (.iload_n 3, 1) := by decide +kernel
theorem d_14_7__15 : decode prog_14_method_7_code 15 = .ok (.ifCond .lt 9, 3) := by decide +kernel
theorem d_14_7__24 : decode prog_14_method_7_code 24 = .ok (.iload_n 3, 1) := by decide +kernel
theorem d_14_7__25 : decode prog_14_method_7_code 25 = .ok (.ineg, 1) := by decide +kernel
theorem d_14_7__26 : decode prog_14_method_7_code 26 = .ok (.iconst 1, 1) := by decide +kernel
theorem d_14_7__27 : decode prog_14_method_7_code 27 = .ok (.isub, 1) := by decide +kernel
theorem d_14_7__28 : decode prog_14_method_7_code 28 = .ok (.ireturn, 1) := by decide +kernel
set_option maxRecDepth 65536 in
set_option maxHeartbeats 40000000 in
theorem rmIv0_0 (l : Launch) (Z : State) (a0 : Array Value) (hw : ∀ d ∈ tables_1, d.before a0 Z = true) (a x cu c0 c1 : Addr)  (k : Int32) (h0 : Heap) (E : Exa Z h0 x "com/example/collectary/collectary/broker/Grid$Axis") (Fo : Fld Z h0 x "java/lang/Enum" "ordinal" "I" (.int (0 : Int32))) (Fc : Fld Z h0 a "com/example/collectary/collectary/broker/Grid" "cuts" "[[I" (.ref cu)) (Vc : AV Z h0 cu (.array .int) [.ref c0, .ref c1]) (V : AV Z h0 c0 .int []) : Con l Z (⟨"com/example/collectary/collectary/broker/Grid", "interval", "(Lcom/example/collectary/collectary/broker/Grid$Axis;I)I"⟩ : MethodName) prog_14_method_7_code 4 (some .int) [] ({ frames := 2, cells := 0, slots := 0, locals := 50 } : Room) #[(.ref a), (.ref x), (.int k)] h0 (fun v h L => v = some (.int (0 : Int32)) ∧ L = [] ∧ h = h0) := by
  refine Con.of (plainFor_of_name pn_com_example_collectary_collectary_broker_Grid) ?_
  intro p e s m below meth c T X hx hby hml hown hnm hret eT hZ hsh Φ fin
  replace hown : s.vm.findClass "com/example/collectary/collectary/broker/Grid" = some m.cls := hown
  replace hml : 4 = c.maxLocals := hml.symm
  refine own_step (fun tq kq => castTop (ef_rmIv0_0 m a x k) kq) ?_
  refine own_aloadN X hx hby d_14_7__0 rfl rfl (pc' := 1) rfl ?_
  refine own_getF X hx hby hZ hown (host := "") (Or.inl (own_w hw 23 rfl)) Via.refl eT Fc d_14_7__1 (pc' := 4) rfl ?_
  intro T1 X1 e1
  refine own_aloadN X1 hx hby d_14_7__4 rfl rfl (pc' := 5) rfl ?_
  refine own_callU X1 hx hby hZ (by exact hml) hown (x0 := (⟨"com/example/collectary/collectary/broker/Grid$Axis", "ordinal", "()I"⟩ : MethodName)) (y := (⟨"java/lang/Enum", "ordinal", "()I"⟩ : MethodName)) (own_w hw 52 rfl) (own_w hw 53 rfl) (own_w hw 54 rfl) (own_w hw 56 rfl) (own_w hw 55 rfl) (own_w hw 57 rfl) (own_w hw 58 rfl) (by decide) e1 1 (by decide) (by decide) (by decide) (by decide) (argsL := []) (rest := [(.ref cu)]) (lenOf pd___I rfl) rfl (Nat.le_of_eq rfl) E (rmO l Z a0 hw x (0 : Int32) h0 Fo) d_14_7__5 (pc' := 8) rfl ?_
  intro v2 T2 L2 X2 hQ2
  obtain ⟨rfl, rfl, e2⟩ := hQ2
  rw [List.append_nil] at X2
  replace e2 : T2.heap = h0 := e2
  show GoP p e below Φ (T2.setTop (mkF m 8 #[.val (.ref a), .val (.ref x), .val (.int k), .unset] [(.int (0 : Int32)), (.ref cu)]))
  refine own_aaload X2 hx hby hZ e2 Vc rfl (by decide) (v := (.ref c0)) rfl d_14_7__8 (pc' := 9) rfl ?_
  refine own_iloadN X2 hx hby d_14_7__9 rfl (pc' := 10) rfl ?_
  refine own_callS X2 hx hby hZ (by exact hml) hown (own_w hw 107 rfl) (own_w hw 108 rfl) (own_w hw 109 rfl) (own_w hw 110 rfl) (by decide) e2 0 (by decide) (by decide) (by decide) (by decide) (argsL := [(.ref c0), (.int k)]) (rest := []) (lenOf pd___II_I rfl) rfl (rmB1_0 l Z a0 hw c0  k h0 V) (Nat.le_of_eq rfl) d_14_7__10 (pc' := 13) rfl ?_
  intro v3 T3 L3 X3 hQ3
  obtain ⟨rfl, rfl, e3⟩ := hQ3
  rw [List.append_nil] at X3
  replace e3 : T3.heap = h0 := e3
  show GoP p e below Φ (T3.setTop (mkF m 13 #[.val (.ref a), .val (.ref x), .val (.int k), .unset] [(.int (-1 : Int32))]))
  refine own_istoreN X3 hx hby d_14_7__13  (Ls' := #[.val (.ref a), .val (.ref x), .val (.int k), .val (.int (-1 : Int32))]) rfl (pc' := 14) rfl ?_
  refine own_iloadN X3 hx hby d_14_7__14 rfl (pc' := 15) rfl ?_
  refine own_ifY X3 hx hby d_14_7__15 ((if0 _ _).trans (tlt (by decide)).1) (by decide) (pc' := 24) (by decide) ?_
  refine own_iloadN X3 hx hby d_14_7__24 rfl (pc' := 25) rfl ?_
  refine own_ineg X3 hx hby d_14_7__25 (pc' := 26) rfl ?_
  show GoP p e below Φ (T3.setTop (mkF m 26 #[.val (.ref a), .val (.ref x), .val (.int k), .val (.int (-1 : Int32))] [(.int (1 : Int32))]))
  refine own_iconst X3 hx hby d_14_7__26 (v := (1 : Int32)) rfl (pc' := 27) rfl ?_
  refine own_isub X3 hx hby d_14_7__27 (pc' := 28) rfl ?_
  show GoP p e below Φ (T3.setTop (mkF m 28 #[.val (.ref a), .val (.ref x), .val (.int k), .val (.int (-1 : Int32))] [(.int (0 : Int32))]))
  exact own_retI X3 hx hby fin hret d_14_7__28 (by decide) (by decide) ⟨rfl, rfl, e3⟩
theorem ef_rmIv0_1 (m : MethodId) (x0 : Addr) (x1 : Addr) (x2 : Int32) : entryFrame m #[(.ref x0), (.ref x1), (.int x2)] 4 = mkF m 0 #[.val (.ref x0), .val (.ref x1), .val (.int x2), .unset] [] := by first | (simp [entryFrame, mkF, argsToLocals, Value.category]; done) | rfl
set_option maxRecDepth 65536 in
set_option maxHeartbeats 40000000 in
theorem rmIv0_1 (l : Launch) (Z : State) (a0 : Array Value) (hw : ∀ d ∈ tables_1, d.before a0 Z = true) (a x cu c0 c1 : Addr)  (k : Int32) (h0 : Heap) (E : Exa Z h0 x "com/example/collectary/collectary/broker/Grid$Axis") (Fo : Fld Z h0 x "java/lang/Enum" "ordinal" "I" (.int (1 : Int32))) (Fc : Fld Z h0 a "com/example/collectary/collectary/broker/Grid" "cuts" "[[I" (.ref cu)) (Vc : AV Z h0 cu (.array .int) [.ref c0, .ref c1]) (V : AV Z h0 c1 .int []) : Con l Z (⟨"com/example/collectary/collectary/broker/Grid", "interval", "(Lcom/example/collectary/collectary/broker/Grid$Axis;I)I"⟩ : MethodName) prog_14_method_7_code 4 (some .int) [] ({ frames := 2, cells := 0, slots := 0, locals := 50 } : Room) #[(.ref a), (.ref x), (.int k)] h0 (fun v h L => v = some (.int (0 : Int32)) ∧ L = [] ∧ h = h0) := by
  refine Con.of (plainFor_of_name pn_com_example_collectary_collectary_broker_Grid) ?_
  intro p e s m below meth c T X hx hby hml hown hnm hret eT hZ hsh Φ fin
  replace hown : s.vm.findClass "com/example/collectary/collectary/broker/Grid" = some m.cls := hown
  replace hml : 4 = c.maxLocals := hml.symm
  refine own_step (fun tq kq => castTop (ef_rmIv0_1 m a x k) kq) ?_
  refine own_aloadN X hx hby d_14_7__0 rfl rfl (pc' := 1) rfl ?_
  refine own_getF X hx hby hZ hown (host := "") (Or.inl (own_w hw 23 rfl)) Via.refl eT Fc d_14_7__1 (pc' := 4) rfl ?_
  intro T1 X1 e1
  refine own_aloadN X1 hx hby d_14_7__4 rfl rfl (pc' := 5) rfl ?_
  refine own_callU X1 hx hby hZ (by exact hml) hown (x0 := (⟨"com/example/collectary/collectary/broker/Grid$Axis", "ordinal", "()I"⟩ : MethodName)) (y := (⟨"java/lang/Enum", "ordinal", "()I"⟩ : MethodName)) (own_w hw 52 rfl) (own_w hw 53 rfl) (own_w hw 54 rfl) (own_w hw 56 rfl) (own_w hw 55 rfl) (own_w hw 57 rfl) (own_w hw 58 rfl) (by decide) e1 1 (by decide) (by decide) (by decide) (by decide) (argsL := []) (rest := [(.ref cu)]) (lenOf pd___I rfl) rfl (Nat.le_of_eq rfl) E (rmO l Z a0 hw x (1 : Int32) h0 Fo) d_14_7__5 (pc' := 8) rfl ?_
  intro v2 T2 L2 X2 hQ2
  obtain ⟨rfl, rfl, e2⟩ := hQ2
  rw [List.append_nil] at X2
  replace e2 : T2.heap = h0 := e2
  show GoP p e below Φ (T2.setTop (mkF m 8 #[.val (.ref a), .val (.ref x), .val (.int k), .unset] [(.int (1 : Int32)), (.ref cu)]))
  refine own_aaload X2 hx hby hZ e2 Vc rfl (by decide) (v := (.ref c1)) rfl d_14_7__8 (pc' := 9) rfl ?_
  refine own_iloadN X2 hx hby d_14_7__9 rfl (pc' := 10) rfl ?_
  refine own_callS X2 hx hby hZ (by exact hml) hown (own_w hw 107 rfl) (own_w hw 108 rfl) (own_w hw 109 rfl) (own_w hw 110 rfl) (by decide) e2 0 (by decide) (by decide) (by decide) (by decide) (argsL := [(.ref c1), (.int k)]) (rest := []) (lenOf pd___II_I rfl) rfl (rmB1_0 l Z a0 hw c1  k h0 V) (Nat.le_of_eq rfl) d_14_7__10 (pc' := 13) rfl ?_
  intro v3 T3 L3 X3 hQ3
  obtain ⟨rfl, rfl, e3⟩ := hQ3
  rw [List.append_nil] at X3
  replace e3 : T3.heap = h0 := e3
  show GoP p e below Φ (T3.setTop (mkF m 13 #[.val (.ref a), .val (.ref x), .val (.int k), .unset] [(.int (-1 : Int32))]))
  refine own_istoreN X3 hx hby d_14_7__13  (Ls' := #[.val (.ref a), .val (.ref x), .val (.int k), .val (.int (-1 : Int32))]) rfl (pc' := 14) rfl ?_
  refine own_iloadN X3 hx hby d_14_7__14 rfl (pc' := 15) rfl ?_
  refine own_ifY X3 hx hby d_14_7__15 ((if0 _ _).trans (tlt (by decide)).1) (by decide) (pc' := 24) (by decide) ?_
  refine own_iloadN X3 hx hby d_14_7__24 rfl (pc' := 25) rfl ?_
  refine own_ineg X3 hx hby d_14_7__25 (pc' := 26) rfl ?_
  show GoP p e below Φ (T3.setTop (mkF m 26 #[.val (.ref a), .val (.ref x), .val (.int k), .val (.int (-1 : Int32))] [(.int (1 : Int32))]))
  refine own_iconst X3 hx hby d_14_7__26 (v := (1 : Int32)) rfl (pc' := 27) rfl ?_
  refine own_isub X3 hx hby d_14_7__27 (pc' := 28) rfl ?_
  show GoP p e below Φ (T3.setTop (mkF m 28 #[.val (.ref a), .val (.ref x), .val (.int k), .val (.int (-1 : Int32))] [(.int (0 : Int32))]))
  exact own_retI X3 hx hby fin hret d_14_7__28 (by decide) (by decide) ⟨rfl, rfl, e3⟩
theorem ef_rmB0_1 (m : MethodId) (x0 : Addr) (x1 : Int32) (x2 : Int32) (x3 : Int32) : entryFrame m #[(.ref x0), (.int x1), (.int x2), (.int x3)] 8 = mkF m 0 #[.val (.ref x0), .val (.int x1), .val (.int x2), .val (.int x3), .unset, .unset, .unset, .unset] [] := by first | (simp [entryFrame, mkF, argsToLocals, Value.category]; done) | rfl
theorem jd_65_59__15 : decode jdk_65_method_59_code 15 = .ok (.iload 4, 2) := by decide +kernel
theorem jd_65_59__17 : decode jdk_65_method_59_code 17 = .ok (.iload 5, 2) := by decide +kernel
theorem jd_65_59__19 : decode jdk_65_method_59_code 19 = .ok (.iadd, 1) := by decide +kernel
theorem jd_65_59__20 : decode jdk_65_method_59_code 20 = .ok (.iconst 1, 1) := by decide +kernel
theorem jd_65_59__21 : decode jdk_65_method_59_code 21 = .ok (.iushr, 1) := by decide +kernel
theorem jd_65_59__22 : decode jdk_65_method_59_code 22 = .ok (.istore 6, 2) := by decide +kernel
theorem jd_65_59__24 : decode jdk_65_method_59_code 24 = .ok (.aload_n 0, 1) := by decide +kernel
theorem jd_65_59__25 : decode jdk_65_method_59_code 25 = .ok (.iload 6, 2) := by decide +kernel
theorem jd_65_59__27 : decode jdk_65_method_59_code 27 = .ok (.iaload, 1) := by decide +kernel
theorem jd_65_59__28 : decode jdk_65_method_59_code 28 = .ok (.istore 7, 2) := by decide +kernel
theorem jd_65_59__30 : decode jdk_65_method_59_code 30 = .ok (.iload 7, 2) := by decide +kernel
theorem jd_65_59__32 : decode jdk_65_method_59_code 32 = .ok (.iload_n 3, 1) := by decide +kernel
theorem jd_65_59__33 : decode jdk_65_method_59_code 33 = .ok (.if_icmp .ge 12, 3) := by decide +kernel
theorem jd_65_59__36 : decode jdk_65_method_59_code 36 = .ok (.iload 6, 2) := by decide +kernel
theorem jd_65_59__38 : decode jdk_65_method_59_code 38 = .ok (.iconst 1, 1) := by decide +kernel
theorem jd_65_59__39 : decode jdk_65_method_59_code 39 = .ok (.iadd, 1) := by decide +kernel
theorem jd_65_59__40 : decode jdk_65_method_59_code 40 = .ok (.istore 4, 2) := by decide +kernel
theorem jd_65_59__42 : decode jdk_65_method_59_code 42 = .ok (.goto 21, 3) := by decide +kernel
theorem jd_65_59__63 : decode jdk_65_method_59_code 63 = .ok (.goto (-55), 3) := by decide +kernel
theorem jd_65_59__45 : decode jdk_65_method_59_code 45 = .ok (.iload 7, 2) := by decide +kernel
theorem jd_65_59__47 : decode jdk_65_method_59_code 47 = .ok (.iload_n 3, 1) := by decide +kernel
theorem jd_65_59__48 : decode jdk_65_method_59_code 48 = .ok (.if_icmp .le 12, 3) := by decide +kernel
theorem jd_65_59__51 : decode jdk_65_method_59_code 51 = .ok (.iload 6, 2) := by decide +kernel
theorem jd_65_59__53 : decode jdk_65_method_59_code 53 = .ok (.iconst 1, 1) := by decide +kernel
theorem jd_65_59__54 : decode jdk_65_method_59_code 54 = .ok (.isub, 1) := by decide +kernel
theorem jd_65_59__55 : decode jdk_65_method_59_code 55 = .ok (.istore 5, 2) := by decide +kernel
theorem jd_65_59__57 : decode jdk_65_method_59_code 57 = .ok (.goto 6, 3) := by decide +kernel
theorem jd_65_59__60 : decode jdk_65_method_59_code 60 = .ok (.iload 6, 2) := by decide +kernel
theorem jd_65_59__62 : decode jdk_65_method_59_code 62 = .ok (.ireturn, 1) := by decide +kernel
set_option maxRecDepth 65536 in
set_option maxHeartbeats 40000000 in
theorem rmB0_1 (l : Launch) (Z : State) (a0 : Array Value) (hw : ∀ d ∈ tables_1, d.before a0 Z = true) (a : Addr) (q : Int32) (k : Int32) (h0 : Heap) (V : AV Z h0 a .int [(.int q)]) : Con l Z (⟨"java/util/Arrays", "binarySearch0", "([IIII)I"⟩ : MethodName) jdk_65_method_59_code 8 (some .int) [] ({ frames := 0, cells := 0, slots := 0, locals := 0 } : Room) #[(.ref a), (.int (0 : Int32)), (.int (1 : Int32)), (.int k)] h0 (fun v h L => v = some (.int (if q < k then (-2 : Int32) else if k < q then (-1 : Int32) else (0 : Int32))) ∧ L = [] ∧ h = h0) := by
  refine Con.of (plainFor_of_name pn_java_util_Arrays) ?_
  intro p e s m below meth c T X hx hby hml hown hnm hret eT hZ hsh Φ fin
  replace hown : s.vm.findClass "java/util/Arrays" = some m.cls := hown
  replace hml : 8 = c.maxLocals := hml.symm
  refine own_step (fun tq kq => castTop (ef_rmB0_1 m a (0 : Int32) (1 : Int32) k) kq) ?_
  refine own_iloadN X hx hby jd_65_59__0 rfl (pc' := 1) rfl ?_
  refine own_istore X hx hby jd_65_59__1  (Ls' := #[.val (.ref a), .val (.int (0 : Int32)), .val (.int (1 : Int32)), .val (.int k), .val (.int (0 : Int32)), .unset, .unset, .unset]) rfl (pc' := 3) rfl ?_
  refine own_iloadN X hx hby jd_65_59__3 rfl (pc' := 4) rfl ?_
  refine own_iconst X hx hby jd_65_59__4 (v := (1 : Int32)) rfl (pc' := 5) rfl ?_
  refine own_isub X hx hby jd_65_59__5 (pc' := 6) rfl ?_
  show GoP p e below Φ (T.setTop (mkF m 6 #[.val (.ref a), .val (.int (0 : Int32)), .val (.int (1 : Int32)), .val (.int k), .val (.int (0 : Int32)), .unset, .unset, .unset] [(.int (0 : Int32))]))
  refine own_istore X hx hby jd_65_59__6  (Ls' := #[.val (.ref a), .val (.int (0 : Int32)), .val (.int (1 : Int32)), .val (.int k), .val (.int (0 : Int32)), .val (.int (0 : Int32)), .unset, .unset]) rfl (pc' := 8) rfl ?_
  refine own_iload X hx hby jd_65_59__8 rfl (pc' := 10) rfl ?_
  refine own_iload X hx hby jd_65_59__10 rfl (pc' := 12) rfl ?_
  refine own_icmpN X hx hby jd_65_59__12 (flt (by decide)).2.2.1 (pc' := 15) rfl ?_
  refine own_iload X hx hby jd_65_59__15 rfl (pc' := 17) rfl ?_
  refine own_iload X hx hby jd_65_59__17 rfl (pc' := 19) rfl ?_
  refine own_iadd X hx hby jd_65_59__19 (pc' := 20) rfl ?_
  show GoP p e below Φ (T.setTop (mkF m 20 #[.val (.ref a), .val (.int (0 : Int32)), .val (.int (1 : Int32)), .val (.int k), .val (.int (0 : Int32)), .val (.int (0 : Int32)), .unset, .unset] [(.int (0 : Int32))]))
  refine own_iconst X hx hby jd_65_59__20 (v := (1 : Int32)) rfl (pc' := 21) rfl ?_
  refine own_iushr X hx hby jd_65_59__21 (pc' := 22) rfl ?_
  show GoP p e below Φ (T.setTop (mkF m 22 #[.val (.ref a), .val (.int (0 : Int32)), .val (.int (1 : Int32)), .val (.int k), .val (.int (0 : Int32)), .val (.int (0 : Int32)), .unset, .unset] [(.int (0 : Int32))]))
  refine own_istore X hx hby jd_65_59__22  (Ls' := #[.val (.ref a), .val (.int (0 : Int32)), .val (.int (1 : Int32)), .val (.int k), .val (.int (0 : Int32)), .val (.int (0 : Int32)), .val (.int (0 : Int32)), .unset]) rfl (pc' := 24) rfl ?_
  refine own_aloadN X hx hby jd_65_59__24 rfl rfl (pc' := 25) rfl ?_
  refine own_iload X hx hby jd_65_59__25 rfl (pc' := 27) rfl ?_
  refine own_iaload X hx hby hZ eT V (by decide) (v := (.int q)) rfl jd_65_59__27 (pc' := 28) rfl ?_
  refine own_istore X hx hby jd_65_59__28  (Ls' := #[.val (.ref a), .val (.int (0 : Int32)), .val (.int (1 : Int32)), .val (.int k), .val (.int (0 : Int32)), .val (.int (0 : Int32)), .val (.int (0 : Int32)), .val (.int q)]) rfl (pc' := 30) rfl ?_
  refine own_iload X hx hby jd_65_59__30 rfl (pc' := 32) rfl ?_
  refine own_iloadN X hx hby jd_65_59__32 rfl (pc' := 33) rfl ?_
  by_cases hc33_1 : q < k
  · refine own_icmpN X hx hby jd_65_59__33 (tlt hc33_1).2.1 (pc' := 36) rfl ?_
    refine own_iload X hx hby jd_65_59__36 rfl (pc' := 38) rfl ?_
    refine own_iconst X hx hby jd_65_59__38 (v := (1 : Int32)) rfl (pc' := 39) rfl ?_
    refine own_iadd X hx hby jd_65_59__39 (pc' := 40) rfl ?_
    show GoP p e below Φ (T.setTop (mkF m 40 #[.val (.ref a), .val (.int (0 : Int32)), .val (.int (1 : Int32)), .val (.int k), .val (.int (0 : Int32)), .val (.int (0 : Int32)), .val (.int (0 : Int32)), .val (.int q)] [(.int (1 : Int32))]))
    refine own_istore X hx hby jd_65_59__40  (Ls' := #[.val (.ref a), .val (.int (0 : Int32)), .val (.int (1 : Int32)), .val (.int k), .val (.int (1 : Int32)), .val (.int (0 : Int32)), .val (.int (0 : Int32)), .val (.int q)]) rfl (pc' := 42) rfl ?_
    refine own_goto X hx hby jd_65_59__42 (by decide) (pc' := 63) (by decide) ?_
    refine own_goto X hx hby jd_65_59__63 (by decide) (pc' := 8) (by decide) ?_
    refine own_iload X hx hby jd_65_59__8 rfl (pc' := 10) rfl ?_
    refine own_iload X hx hby jd_65_59__10 rfl (pc' := 12) rfl ?_
    refine own_icmpY X hx hby jd_65_59__12 (tlt (by decide)).2.2.1 (by decide) (pc' := 66) (by decide) ?_
    refine own_iload X hx hby jd_65_59__66 rfl (pc' := 68) rfl ?_
    refine own_iconst X hx hby jd_65_59__68 (v := (1 : Int32)) rfl (pc' := 69) rfl ?_
    refine own_iadd X hx hby jd_65_59__69 (pc' := 70) rfl ?_
    show GoP p e below Φ (T.setTop (mkF m 70 #[.val (.ref a), .val (.int (0 : Int32)), .val (.int (1 : Int32)), .val (.int k), .val (.int (1 : Int32)), .val (.int (0 : Int32)), .val (.int (0 : Int32)), .val (.int q)] [(.int (2 : Int32))]))
    refine own_ineg X hx hby jd_65_59__70 (pc' := 71) rfl ?_
    show GoP p e below Φ (T.setTop (mkF m 71 #[.val (.ref a), .val (.int (0 : Int32)), .val (.int (1 : Int32)), .val (.int k), .val (.int (1 : Int32)), .val (.int (0 : Int32)), .val (.int (0 : Int32)), .val (.int q)] [(.int (-2 : Int32))]))
    exact own_retI X hx hby fin hret jd_65_59__71 (by decide) (by decide) ⟨by simp [hc33_1], rfl, eT⟩
  · refine own_icmpY X hx hby jd_65_59__33 (flt hc33_1).2.1 (by decide) (pc' := 45) (by decide) ?_
    refine own_iload X hx hby jd_65_59__45 rfl (pc' := 47) rfl ?_
    refine own_iloadN X hx hby jd_65_59__47 rfl (pc' := 48) rfl ?_
    by_cases hc48_2 : k < q
    · refine own_icmpN X hx hby jd_65_59__48 (tlt hc48_2).2.2.2 (pc' := 51) rfl ?_
      refine own_iload X hx hby jd_65_59__51 rfl (pc' := 53) rfl ?_
      refine own_iconst X hx hby jd_65_59__53 (v := (1 : Int32)) rfl (pc' := 54) rfl ?_
      refine own_isub X hx hby jd_65_59__54 (pc' := 55) rfl ?_
      show GoP p e below Φ (T.setTop (mkF m 55 #[.val (.ref a), .val (.int (0 : Int32)), .val (.int (1 : Int32)), .val (.int k), .val (.int (0 : Int32)), .val (.int (0 : Int32)), .val (.int (0 : Int32)), .val (.int q)] [(.int (-1 : Int32))]))
      refine own_istore X hx hby jd_65_59__55  (Ls' := #[.val (.ref a), .val (.int (0 : Int32)), .val (.int (1 : Int32)), .val (.int k), .val (.int (0 : Int32)), .val (.int (-1 : Int32)), .val (.int (0 : Int32)), .val (.int q)]) rfl (pc' := 57) rfl ?_
      refine own_goto X hx hby jd_65_59__57 (by decide) (pc' := 63) (by decide) ?_
      refine own_goto X hx hby jd_65_59__63 (by decide) (pc' := 8) (by decide) ?_
      refine own_iload X hx hby jd_65_59__8 rfl (pc' := 10) rfl ?_
      refine own_iload X hx hby jd_65_59__10 rfl (pc' := 12) rfl ?_
      refine own_icmpY X hx hby jd_65_59__12 (tlt (by decide)).2.2.1 (by decide) (pc' := 66) (by decide) ?_
      refine own_iload X hx hby jd_65_59__66 rfl (pc' := 68) rfl ?_
      refine own_iconst X hx hby jd_65_59__68 (v := (1 : Int32)) rfl (pc' := 69) rfl ?_
      refine own_iadd X hx hby jd_65_59__69 (pc' := 70) rfl ?_
      show GoP p e below Φ (T.setTop (mkF m 70 #[.val (.ref a), .val (.int (0 : Int32)), .val (.int (1 : Int32)), .val (.int k), .val (.int (0 : Int32)), .val (.int (-1 : Int32)), .val (.int (0 : Int32)), .val (.int q)] [(.int (1 : Int32))]))
      refine own_ineg X hx hby jd_65_59__70 (pc' := 71) rfl ?_
      show GoP p e below Φ (T.setTop (mkF m 71 #[.val (.ref a), .val (.int (0 : Int32)), .val (.int (1 : Int32)), .val (.int k), .val (.int (0 : Int32)), .val (.int (-1 : Int32)), .val (.int (0 : Int32)), .val (.int q)] [(.int (-1 : Int32))]))
      exact own_retI X hx hby fin hret jd_65_59__71 (by decide) (by decide) ⟨by simp [hc33_1, hc48_2], rfl, eT⟩
    · refine own_icmpY X hx hby jd_65_59__48 (flt hc48_2).2.2.2 (by decide) (pc' := 60) (by decide) ?_
      refine own_iload X hx hby jd_65_59__60 rfl (pc' := 62) rfl ?_
      exact own_retI X hx hby fin hret jd_65_59__62 (by decide) (by decide) ⟨by simp [hc33_1, hc48_2], rfl, eT⟩
theorem ef_rmB1_1 (m : MethodId) (x0 : Addr) (x1 : Int32) : entryFrame m #[(.ref x0), (.int x1)] 2 = mkF m 0 #[.val (.ref x0), .val (.int x1)] [] := by first | (simp [entryFrame, mkF, argsToLocals, Value.category]; done) | rfl
set_option maxRecDepth 65536 in
set_option maxHeartbeats 40000000 in
theorem rmB1_1 (l : Launch) (Z : State) (a0 : Array Value) (hw : ∀ d ∈ tables_1, d.before a0 Z = true) (a : Addr) (q : Int32) (k : Int32) (h0 : Heap) (V : AV Z h0 a .int [(.int q)]) : Con l Z (⟨"java/util/Arrays", "binarySearch", "([II)I"⟩ : MethodName) jdk_65_method_57_code 2 (some .int) [] ({ frames := 1, cells := 0, slots := 0, locals := 30 } : Room) #[(.ref a), (.int k)] h0 (fun v h L => v = some (.int (if q < k then (-2 : Int32) else if k < q then (-1 : Int32) else (0 : Int32))) ∧ L = [] ∧ h = h0) := by
  refine Con.of (plainFor_of_name pn_java_util_Arrays) ?_
  intro p e s m below meth c T X hx hby hml hown hnm hret eT hZ hsh Φ fin
  replace hown : s.vm.findClass "java/util/Arrays" = some m.cls := hown
  replace hml : 2 = c.maxLocals := hml.symm
  refine own_step (fun tq kq => castTop (ef_rmB1_1 m a k) kq) ?_
  refine own_aloadN X hx hby jd_65_57__0 rfl rfl (pc' := 1) rfl ?_
  refine own_iconst X hx hby jd_65_57__1 (v := (0 : Int32)) rfl (pc' := 2) rfl ?_
  refine own_aloadN X hx hby jd_65_57__2 rfl rfl (pc' := 3) rfl ?_
  refine own_alen X hx hby hZ eT (n := (1 : Int32)) V rfl jd_65_57__3 (pc' := 4) rfl ?_
  refine own_iloadN X hx hby jd_65_57__4 rfl (pc' := 5) rfl ?_
  refine own_callS X hx hby hZ (by exact hml) hown (own_w hw 111 rfl) (own_w hw 112 rfl) (own_w hw 109 rfl) (own_w hw 113 rfl) (by decide) eT 0 (by decide) (by decide) (by decide) (by decide) (argsL := [(.ref a), (.int (0 : Int32)), (.int (1 : Int32)), (.int k)]) (rest := []) (lenOf pd___IIII_I rfl) rfl (rmB0_1 l Z a0 hw a q k h0 V) (Nat.le_of_eq rfl) jd_65_57__5 (pc' := 8) rfl ?_
  intro v1 T1 L1 X1 hQ1
  obtain ⟨rfl, rfl, e1⟩ := hQ1
  rw [List.append_nil] at X1
  replace e1 : T1.heap = h0 := e1
  show GoP p e below Φ (T1.setTop (mkF m 8 #[.val (.ref a), .val (.int k)] [(.int (if q < k then (-2 : Int32) else if k < q then (-1 : Int32) else (0 : Int32)))]))
  exact own_retI X1 hx hby fin hret jd_65_57__8 (by decide) (by decide) ⟨rfl, rfl, e1⟩
theorem ef_rmIv1_0 (m : MethodId) (x0 : Addr) (x1 : Addr) (x2 : Int32) : entryFrame m #[(.ref x0), (.ref x1), (.int x2)] 4 = mkF m 0 #[.val (.ref x0), .val (.ref x1), .val (.int x2), .unset] [] := by first | (simp [entryFrame, mkF, argsToLocals, Value.category]; done) | rfl
theorem d_14_7__18 : decode prog_14_method_7_code 18 = .ok (.iload_n 3, 1) := by decide +kernel
theorem d_14_7__19 : decode prog_14_method_7_code 19 = .ok (.iconst 1, 1) := by decide +kernel
theorem d_14_7__20 : decode prog_14_method_7_code 20 = .ok (.iadd, 1) := by decide +kernel
theorem d_14_7__21 : decode prog_14_method_7_code 21 = .ok (.goto 7, 3) := by decide +kernel
set_option maxRecDepth 65536 in
set_option maxHeartbeats 40000000 in
theorem rmIv1_0 (l : Launch) (Z : State) (a0 : Array Value) (hw : ∀ d ∈ tables_1, d.before a0 Z = true) (a x cu c0 c1 : Addr) (q : Int32) (k : Int32) (h0 : Heap) (E : Exa Z h0 x "com/example/collectary/collectary/broker/Grid$Axis") (Fo : Fld Z h0 x "java/lang/Enum" "ordinal" "I" (.int (0 : Int32))) (Fc : Fld Z h0 a "com/example/collectary/collectary/broker/Grid" "cuts" "[[I" (.ref cu)) (Vc : AV Z h0 cu (.array .int) [.ref c0, .ref c1]) (V : AV Z h0 c0 .int [(.int q)]) : Con l Z (⟨"com/example/collectary/collectary/broker/Grid", "interval", "(Lcom/example/collectary/collectary/broker/Grid$Axis;I)I"⟩ : MethodName) prog_14_method_7_code 4 (some .int) [] ({ frames := 2, cells := 0, slots := 0, locals := 50 } : Room) #[(.ref a), (.ref x), (.int k)] h0 (fun v h L => v = some (.int (if k < q then (0 : Int32) else (1 : Int32))) ∧ L = [] ∧ h = h0) := by
  refine Con.of (plainFor_of_name pn_com_example_collectary_collectary_broker_Grid) ?_
  intro p e s m below meth c T X hx hby hml hown hnm hret eT hZ hsh Φ fin
  replace hown : s.vm.findClass "com/example/collectary/collectary/broker/Grid" = some m.cls := hown
  replace hml : 4 = c.maxLocals := hml.symm
  refine own_step (fun tq kq => castTop (ef_rmIv1_0 m a x k) kq) ?_
  refine own_aloadN X hx hby d_14_7__0 rfl rfl (pc' := 1) rfl ?_
  refine own_getF X hx hby hZ hown (host := "") (Or.inl (own_w hw 23 rfl)) Via.refl eT Fc d_14_7__1 (pc' := 4) rfl ?_
  intro T1 X1 e1
  refine own_aloadN X1 hx hby d_14_7__4 rfl rfl (pc' := 5) rfl ?_
  refine own_callU X1 hx hby hZ (by exact hml) hown (x0 := (⟨"com/example/collectary/collectary/broker/Grid$Axis", "ordinal", "()I"⟩ : MethodName)) (y := (⟨"java/lang/Enum", "ordinal", "()I"⟩ : MethodName)) (own_w hw 52 rfl) (own_w hw 53 rfl) (own_w hw 54 rfl) (own_w hw 56 rfl) (own_w hw 55 rfl) (own_w hw 57 rfl) (own_w hw 58 rfl) (by decide) e1 1 (by decide) (by decide) (by decide) (by decide) (argsL := []) (rest := [(.ref cu)]) (lenOf pd___I rfl) rfl (Nat.le_of_eq rfl) E (rmO l Z a0 hw x (0 : Int32) h0 Fo) d_14_7__5 (pc' := 8) rfl ?_
  intro v2 T2 L2 X2 hQ2
  obtain ⟨rfl, rfl, e2⟩ := hQ2
  rw [List.append_nil] at X2
  replace e2 : T2.heap = h0 := e2
  show GoP p e below Φ (T2.setTop (mkF m 8 #[.val (.ref a), .val (.ref x), .val (.int k), .unset] [(.int (0 : Int32)), (.ref cu)]))
  refine own_aaload X2 hx hby hZ e2 Vc rfl (by decide) (v := (.ref c0)) rfl d_14_7__8 (pc' := 9) rfl ?_
  refine own_iloadN X2 hx hby d_14_7__9 rfl (pc' := 10) rfl ?_
  refine own_callS X2 hx hby hZ (by exact hml) hown (own_w hw 107 rfl) (own_w hw 108 rfl) (own_w hw 109 rfl) (own_w hw 110 rfl) (by decide) e2 0 (by decide) (by decide) (by decide) (by decide) (argsL := [(.ref c0), (.int k)]) (rest := []) (lenOf pd___II_I rfl) rfl (rmB1_1 l Z a0 hw c0 q k h0 V) (Nat.le_of_eq rfl) d_14_7__10 (pc' := 13) rfl ?_
  intro v3 T3 L3 X3 hQ3
  obtain ⟨rfl, rfl, e3⟩ := hQ3
  rw [List.append_nil] at X3
  replace e3 : T3.heap = h0 := e3
  show GoP p e below Φ (T3.setTop (mkF m 13 #[.val (.ref a), .val (.ref x), .val (.int k), .unset] [(.int (if q < k then (-2 : Int32) else if k < q then (-1 : Int32) else (0 : Int32)))]))
  by_cases g1 : q < k
  · rw [if_pos g1]
    refine own_istoreN X3 hx hby d_14_7__13  (Ls' := #[.val (.ref a), .val (.ref x), .val (.int k), .val (.int (-2 : Int32))]) rfl (pc' := 14) rfl ?_
    refine own_iloadN X3 hx hby d_14_7__14 rfl (pc' := 15) rfl ?_
    refine own_ifY X3 hx hby d_14_7__15 ((if0 _ _).trans (tlt (by decide)).1) (by decide) (pc' := 24) (by decide) ?_
    refine own_iloadN X3 hx hby d_14_7__24 rfl (pc' := 25) rfl ?_
    refine own_ineg X3 hx hby d_14_7__25 (pc' := 26) rfl ?_
    show GoP p e below Φ (T3.setTop (mkF m 26 #[.val (.ref a), .val (.ref x), .val (.int k), .val (.int (-2 : Int32))] [(.int (2 : Int32))]))
    refine own_iconst X3 hx hby d_14_7__26 (v := (1 : Int32)) rfl (pc' := 27) rfl ?_
    refine own_isub X3 hx hby d_14_7__27 (pc' := 28) rfl ?_
    show GoP p e below Φ (T3.setTop (mkF m 28 #[.val (.ref a), .val (.ref x), .val (.int k), .val (.int (-2 : Int32))] [(.int (1 : Int32))]))
    exact own_retI X3 hx hby fin hret d_14_7__28 (by decide) (by decide) ⟨congrArg (fun u => some (Value.int u)) (if_neg (fun u => Int32.lt_irrefl (Int32.lt_trans u g1))).symm, rfl, e3⟩
  · rw [if_neg g1]
    by_cases g2 : k < q
    · rw [if_pos g2]
      refine own_istoreN X3 hx hby d_14_7__13  (Ls' := #[.val (.ref a), .val (.ref x), .val (.int k), .val (.int (-1 : Int32))]) rfl (pc' := 14) rfl ?_
      refine own_iloadN X3 hx hby d_14_7__14 rfl (pc' := 15) rfl ?_
      refine own_ifY X3 hx hby d_14_7__15 ((if0 _ _).trans (tlt (by decide)).1) (by decide) (pc' := 24) (by decide) ?_
      refine own_iloadN X3 hx hby d_14_7__24 rfl (pc' := 25) rfl ?_
      refine own_ineg X3 hx hby d_14_7__25 (pc' := 26) rfl ?_
      show GoP p e below Φ (T3.setTop (mkF m 26 #[.val (.ref a), .val (.ref x), .val (.int k), .val (.int (-1 : Int32))] [(.int (1 : Int32))]))
      refine own_iconst X3 hx hby d_14_7__26 (v := (1 : Int32)) rfl (pc' := 27) rfl ?_
      refine own_isub X3 hx hby d_14_7__27 (pc' := 28) rfl ?_
      show GoP p e below Φ (T3.setTop (mkF m 28 #[.val (.ref a), .val (.ref x), .val (.int k), .val (.int (-1 : Int32))] [(.int (0 : Int32))]))
      exact own_retI X3 hx hby fin hret d_14_7__28 (by decide) (by decide) ⟨congrArg (fun u => some (Value.int u)) (if_pos g2).symm, rfl, e3⟩
    · rw [if_neg g2]
      refine own_istoreN X3 hx hby d_14_7__13  (Ls' := #[.val (.ref a), .val (.ref x), .val (.int k), .val (.int (0 : Int32))]) rfl (pc' := 14) rfl ?_
      refine own_iloadN X3 hx hby d_14_7__14 rfl (pc' := 15) rfl ?_
      refine own_ifN X3 hx hby d_14_7__15 ((if0 _ _).trans (flt (by decide)).1) (pc' := 18) rfl ?_
      refine own_iloadN X3 hx hby d_14_7__18 rfl (pc' := 19) rfl ?_
      refine own_iconst X3 hx hby d_14_7__19 (v := (1 : Int32)) rfl (pc' := 20) rfl ?_
      refine own_iadd X3 hx hby d_14_7__20 (pc' := 21) rfl ?_
      show GoP p e below Φ (T3.setTop (mkF m 21 #[.val (.ref a), .val (.ref x), .val (.int k), .val (.int (0 : Int32))] [(.int (1 : Int32))]))
      refine own_goto X3 hx hby d_14_7__21 (by decide) (pc' := 28) (by decide) ?_
      exact own_retI X3 hx hby fin hret d_14_7__28 (by decide) (by decide) ⟨congrArg (fun u => some (Value.int u)) (if_neg g2).symm, rfl, e3⟩
theorem ef_rmIv1_1 (m : MethodId) (x0 : Addr) (x1 : Addr) (x2 : Int32) : entryFrame m #[(.ref x0), (.ref x1), (.int x2)] 4 = mkF m 0 #[.val (.ref x0), .val (.ref x1), .val (.int x2), .unset] [] := by first | (simp [entryFrame, mkF, argsToLocals, Value.category]; done) | rfl
set_option maxRecDepth 65536 in
set_option maxHeartbeats 40000000 in
theorem rmIv1_1 (l : Launch) (Z : State) (a0 : Array Value) (hw : ∀ d ∈ tables_1, d.before a0 Z = true) (a x cu c0 c1 : Addr) (q : Int32) (k : Int32) (h0 : Heap) (E : Exa Z h0 x "com/example/collectary/collectary/broker/Grid$Axis") (Fo : Fld Z h0 x "java/lang/Enum" "ordinal" "I" (.int (1 : Int32))) (Fc : Fld Z h0 a "com/example/collectary/collectary/broker/Grid" "cuts" "[[I" (.ref cu)) (Vc : AV Z h0 cu (.array .int) [.ref c0, .ref c1]) (V : AV Z h0 c1 .int [(.int q)]) : Con l Z (⟨"com/example/collectary/collectary/broker/Grid", "interval", "(Lcom/example/collectary/collectary/broker/Grid$Axis;I)I"⟩ : MethodName) prog_14_method_7_code 4 (some .int) [] ({ frames := 2, cells := 0, slots := 0, locals := 50 } : Room) #[(.ref a), (.ref x), (.int k)] h0 (fun v h L => v = some (.int (if k < q then (0 : Int32) else (1 : Int32))) ∧ L = [] ∧ h = h0) := by
  refine Con.of (plainFor_of_name pn_com_example_collectary_collectary_broker_Grid) ?_
  intro p e s m below meth c T X hx hby hml hown hnm hret eT hZ hsh Φ fin
  replace hown : s.vm.findClass "com/example/collectary/collectary/broker/Grid" = some m.cls := hown
  replace hml : 4 = c.maxLocals := hml.symm
  refine own_step (fun tq kq => castTop (ef_rmIv1_1 m a x k) kq) ?_
  refine own_aloadN X hx hby d_14_7__0 rfl rfl (pc' := 1) rfl ?_
  refine own_getF X hx hby hZ hown (host := "") (Or.inl (own_w hw 23 rfl)) Via.refl eT Fc d_14_7__1 (pc' := 4) rfl ?_
  intro T1 X1 e1
  refine own_aloadN X1 hx hby d_14_7__4 rfl rfl (pc' := 5) rfl ?_
  refine own_callU X1 hx hby hZ (by exact hml) hown (x0 := (⟨"com/example/collectary/collectary/broker/Grid$Axis", "ordinal", "()I"⟩ : MethodName)) (y := (⟨"java/lang/Enum", "ordinal", "()I"⟩ : MethodName)) (own_w hw 52 rfl) (own_w hw 53 rfl) (own_w hw 54 rfl) (own_w hw 56 rfl) (own_w hw 55 rfl) (own_w hw 57 rfl) (own_w hw 58 rfl) (by decide) e1 1 (by decide) (by decide) (by decide) (by decide) (argsL := []) (rest := [(.ref cu)]) (lenOf pd___I rfl) rfl (Nat.le_of_eq rfl) E (rmO l Z a0 hw x (1 : Int32) h0 Fo) d_14_7__5 (pc' := 8) rfl ?_
  intro v2 T2 L2 X2 hQ2
  obtain ⟨rfl, rfl, e2⟩ := hQ2
  rw [List.append_nil] at X2
  replace e2 : T2.heap = h0 := e2
  show GoP p e below Φ (T2.setTop (mkF m 8 #[.val (.ref a), .val (.ref x), .val (.int k), .unset] [(.int (1 : Int32)), (.ref cu)]))
  refine own_aaload X2 hx hby hZ e2 Vc rfl (by decide) (v := (.ref c1)) rfl d_14_7__8 (pc' := 9) rfl ?_
  refine own_iloadN X2 hx hby d_14_7__9 rfl (pc' := 10) rfl ?_
  refine own_callS X2 hx hby hZ (by exact hml) hown (own_w hw 107 rfl) (own_w hw 108 rfl) (own_w hw 109 rfl) (own_w hw 110 rfl) (by decide) e2 0 (by decide) (by decide) (by decide) (by decide) (argsL := [(.ref c1), (.int k)]) (rest := []) (lenOf pd___II_I rfl) rfl (rmB1_1 l Z a0 hw c1 q k h0 V) (Nat.le_of_eq rfl) d_14_7__10 (pc' := 13) rfl ?_
  intro v3 T3 L3 X3 hQ3
  obtain ⟨rfl, rfl, e3⟩ := hQ3
  rw [List.append_nil] at X3
  replace e3 : T3.heap = h0 := e3
  show GoP p e below Φ (T3.setTop (mkF m 13 #[.val (.ref a), .val (.ref x), .val (.int k), .unset] [(.int (if q < k then (-2 : Int32) else if k < q then (-1 : Int32) else (0 : Int32)))]))
  by_cases g1 : q < k
  · rw [if_pos g1]
    refine own_istoreN X3 hx hby d_14_7__13  (Ls' := #[.val (.ref a), .val (.ref x), .val (.int k), .val (.int (-2 : Int32))]) rfl (pc' := 14) rfl ?_
    refine own_iloadN X3 hx hby d_14_7__14 rfl (pc' := 15) rfl ?_
    refine own_ifY X3 hx hby d_14_7__15 ((if0 _ _).trans (tlt (by decide)).1) (by decide) (pc' := 24) (by decide) ?_
    refine own_iloadN X3 hx hby d_14_7__24 rfl (pc' := 25) rfl ?_
    refine own_ineg X3 hx hby d_14_7__25 (pc' := 26) rfl ?_
    show GoP p e below Φ (T3.setTop (mkF m 26 #[.val (.ref a), .val (.ref x), .val (.int k), .val (.int (-2 : Int32))] [(.int (2 : Int32))]))
    refine own_iconst X3 hx hby d_14_7__26 (v := (1 : Int32)) rfl (pc' := 27) rfl ?_
    refine own_isub X3 hx hby d_14_7__27 (pc' := 28) rfl ?_
    show GoP p e below Φ (T3.setTop (mkF m 28 #[.val (.ref a), .val (.ref x), .val (.int k), .val (.int (-2 : Int32))] [(.int (1 : Int32))]))
    exact own_retI X3 hx hby fin hret d_14_7__28 (by decide) (by decide) ⟨congrArg (fun u => some (Value.int u)) (if_neg (fun u => Int32.lt_irrefl (Int32.lt_trans u g1))).symm, rfl, e3⟩
  · rw [if_neg g1]
    by_cases g2 : k < q
    · rw [if_pos g2]
      refine own_istoreN X3 hx hby d_14_7__13  (Ls' := #[.val (.ref a), .val (.ref x), .val (.int k), .val (.int (-1 : Int32))]) rfl (pc' := 14) rfl ?_
      refine own_iloadN X3 hx hby d_14_7__14 rfl (pc' := 15) rfl ?_
      refine own_ifY X3 hx hby d_14_7__15 ((if0 _ _).trans (tlt (by decide)).1) (by decide) (pc' := 24) (by decide) ?_
      refine own_iloadN X3 hx hby d_14_7__24 rfl (pc' := 25) rfl ?_
      refine own_ineg X3 hx hby d_14_7__25 (pc' := 26) rfl ?_
      show GoP p e below Φ (T3.setTop (mkF m 26 #[.val (.ref a), .val (.ref x), .val (.int k), .val (.int (-1 : Int32))] [(.int (1 : Int32))]))
      refine own_iconst X3 hx hby d_14_7__26 (v := (1 : Int32)) rfl (pc' := 27) rfl ?_
      refine own_isub X3 hx hby d_14_7__27 (pc' := 28) rfl ?_
      show GoP p e below Φ (T3.setTop (mkF m 28 #[.val (.ref a), .val (.ref x), .val (.int k), .val (.int (-1 : Int32))] [(.int (0 : Int32))]))
      exact own_retI X3 hx hby fin hret d_14_7__28 (by decide) (by decide) ⟨congrArg (fun u => some (Value.int u)) (if_pos g2).symm, rfl, e3⟩
    · rw [if_neg g2]
      refine own_istoreN X3 hx hby d_14_7__13  (Ls' := #[.val (.ref a), .val (.ref x), .val (.int k), .val (.int (0 : Int32))]) rfl (pc' := 14) rfl ?_
      refine own_iloadN X3 hx hby d_14_7__14 rfl (pc' := 15) rfl ?_
      refine own_ifN X3 hx hby d_14_7__15 ((if0 _ _).trans (flt (by decide)).1) (pc' := 18) rfl ?_
      refine own_iloadN X3 hx hby d_14_7__18 rfl (pc' := 19) rfl ?_
      refine own_iconst X3 hx hby d_14_7__19 (v := (1 : Int32)) rfl (pc' := 20) rfl ?_
      refine own_iadd X3 hx hby d_14_7__20 (pc' := 21) rfl ?_
      show GoP p e below Φ (T3.setTop (mkF m 21 #[.val (.ref a), .val (.ref x), .val (.int k), .val (.int (0 : Int32))] [(.int (1 : Int32))]))
      refine own_goto X3 hx hby d_14_7__21 (by decide) (pc' := 28) (by decide) ?_
      exact own_retI X3 hx hby fin hret d_14_7__28 (by decide) (by decide) ⟨congrArg (fun u => some (Value.int u)) (if_neg g2).symm, rfl, e3⟩
theorem ef_rmSt0_1_0 (m : MethodId) (x0 : Addr) (x1 : Addr) (x2 : Int32) : entryFrame m #[(.ref x0), (.ref x1), (.int x2)] 3 = mkF m 0 #[.val (.ref x0), .val (.ref x1), .val (.int x2)] [] := by first | (simp [entryFrame, mkF, argsToLocals, Value.category]; done) | rfl
theorem d_14_8__0 : decode prog_14_method_8_code 0 = .ok (.iload_n 2, 1) := by decide +kernel
theorem d_14_8__1 : decode prog_14_method_8_code 1 = .ok (.ifCond .ne 7, 3) := by decide +kernel
theorem d_14_8__4 : decode prog_14_method_8_code 4 = .ok (.iconst 0, 1) := by decide +kernel
theorem d_14_8__5 : decode prog_14_method_8_code 5 = .ok (.goto 16, 3) := by decide +kernel
theorem d_14_8__21 : decode prog_14_method_8_code 21 = .ok (.ireturn, 1) := by decide +kernel
set_option maxRecDepth 65536 in
set_option maxHeartbeats 40000000 in
theorem rmSt0_1_0 (l : Launch) (Z : State) (a0 : Array Value) (hw : ∀ d ∈ tables_1, d.before a0 Z = true) (a x cu c0 c1 : Addr) (q0 : Int32) (h0 : Heap) (E : Exa Z h0 x "com/example/collectary/collectary/broker/Grid$Axis") (Fo : Fld Z h0 x "java/lang/Enum" "ordinal" "I" (.int (0 : Int32))) (Fc : Fld Z h0 a "com/example/collectary/collectary/broker/Grid" "cuts" "[[I" (.ref cu)) (Vc : AV Z h0 cu (.array .int) [.ref c0, .ref c1]) (V : AV Z h0 c0 .int [(.int q0)]) : Con l Z (⟨"com/example/collectary/collectary/broker/Grid", "start", "(Lcom/example/collectary/collectary/broker/Grid$Axis;I)I"⟩ : MethodName) prog_14_method_8_code 3 (some .int) [] ({ frames := 1, cells := 0, slots := 0, locals := 20 } : Room) #[(.ref a), (.ref x), (.int (0 : Int32))] h0 (fun v h L => v = some (.int (0 : Int32)) ∧ L = [] ∧ h = h0) := by
  refine Con.of (plainFor_of_name pn_com_example_collectary_collectary_broker_Grid) ?_
  intro p e s m below meth c T X hx hby hml hown hnm hret eT hZ hsh Φ fin
  replace hown : s.vm.findClass "com/example/collectary/collectary/broker/Grid" = some m.cls := hown
  replace hml : 3 = c.maxLocals := hml.symm
  refine own_step (fun tq kq => castTop (ef_rmSt0_1_0 m a x (0 : Int32)) kq) ?_
  refine own_iloadN X hx hby d_14_8__0 rfl (pc' := 1) rfl ?_
  refine own_ifN X hx hby d_14_8__1 ((if0 _ _).trans (teq (by decide)).2) (pc' := 4) rfl ?_
  refine own_iconst X hx hby d_14_8__4 (v := (0 : Int32)) rfl (pc' := 5) rfl ?_
  refine own_goto X hx hby d_14_8__5 (by decide) (pc' := 21) (by decide) ?_
  exact own_retI X hx hby fin hret d_14_8__21 (by decide) (by decide) ⟨rfl, rfl, eT⟩
theorem ef_rmSt0_1_1 (m : MethodId) (x0 : Addr) (x1 : Addr) (x2 : Int32) : entryFrame m #[(.ref x0), (.ref x1), (.int x2)] 3 = mkF m 0 #[.val (.ref x0), .val (.ref x1), .val (.int x2)] [] := by first | (simp [entryFrame, mkF, argsToLocals, Value.category]; done) | rfl
theorem d_14_8__8 : decode prog_14_method_8_code 8 = .ok (.aload_n 0, 1) := by decide +kernel
theorem d_14_8__9 : decode prog_14_method_8_code 9 = .ok (.getfield 14, 3) := by decide +kernel
theorem d_14_8__12 : decode prog_14_method_8_code 12 = .ok (.aload_n 1, 1) := by decide +kernel
theorem d_14_8__13 : decode prog_14_method_8_code 13 = .ok (.invokevirtual 31, 3) := by decide +kernel
theorem d_14_8__16 : decode prog_14_method_8_code 16 = .ok (.aaload, 1) := by decide +kernel
theorem d_14_8__17 : decode prog_14_method_8_code 17 = .ok (.iload_n 2, 1) := by decide +kernel
theorem d_14_8__18 : decode prog_14_method_8_code 18 = .ok (.iconst 1, 1) := by decide +kernel
theorem d_14_8__19 : decode prog_14_method_8_code 19 = .ok (.isub, 1) := by decide +kernel
theorem d_14_8__20 : decode prog_14_method_8_code 20 = .ok (.iaload, 1) := by decide +kernel
set_option maxRecDepth 65536 in
set_option maxHeartbeats 40000000 in
theorem rmSt0_1_1 (l : Launch) (Z : State) (a0 : Array Value) (hw : ∀ d ∈ tables_1, d.before a0 Z = true) (a x cu c0 c1 : Addr) (q0 : Int32) (h0 : Heap) (E : Exa Z h0 x "com/example/collectary/collectary/broker/Grid$Axis") (Fo : Fld Z h0 x "java/lang/Enum" "ordinal" "I" (.int (0 : Int32))) (Fc : Fld Z h0 a "com/example/collectary/collectary/broker/Grid" "cuts" "[[I" (.ref cu)) (Vc : AV Z h0 cu (.array .int) [.ref c0, .ref c1]) (V : AV Z h0 c0 .int [(.int q0)]) : Con l Z (⟨"com/example/collectary/collectary/broker/Grid", "start", "(Lcom/example/collectary/collectary/broker/Grid$Axis;I)I"⟩ : MethodName) prog_14_method_8_code 3 (some .int) [] ({ frames := 1, cells := 0, slots := 0, locals := 20 } : Room) #[(.ref a), (.ref x), (.int (1 : Int32))] h0 (fun v h L => v = some (.int q0) ∧ L = [] ∧ h = h0) := by
  refine Con.of (plainFor_of_name pn_com_example_collectary_collectary_broker_Grid) ?_
  intro p e s m below meth c T X hx hby hml hown hnm hret eT hZ hsh Φ fin
  replace hown : s.vm.findClass "com/example/collectary/collectary/broker/Grid" = some m.cls := hown
  replace hml : 3 = c.maxLocals := hml.symm
  refine own_step (fun tq kq => castTop (ef_rmSt0_1_1 m a x (1 : Int32)) kq) ?_
  refine own_iloadN X hx hby d_14_8__0 rfl (pc' := 1) rfl ?_
  refine own_ifY X hx hby d_14_8__1 ((if0 _ _).trans (feq (by decide)).2) (by decide) (pc' := 8) (by decide) ?_
  refine own_aloadN X hx hby d_14_8__8 rfl rfl (pc' := 9) rfl ?_
  refine own_getF X hx hby hZ hown (host := "") (Or.inl (own_w hw 23 rfl)) Via.refl eT Fc d_14_8__9 (pc' := 12) rfl ?_
  intro T1 X1 e1
  refine own_aloadN X1 hx hby d_14_8__12 rfl rfl (pc' := 13) rfl ?_
  refine own_callU X1 hx hby hZ (by exact hml) hown (x0 := (⟨"com/example/collectary/collectary/broker/Grid$Axis", "ordinal", "()I"⟩ : MethodName)) (y := (⟨"java/lang/Enum", "ordinal", "()I"⟩ : MethodName)) (own_w hw 52 rfl) (own_w hw 53 rfl) (own_w hw 54 rfl) (own_w hw 56 rfl) (own_w hw 55 rfl) (own_w hw 57 rfl) (own_w hw 58 rfl) (by decide) e1 1 (by decide) (by decide) (by decide) (by decide) (argsL := []) (rest := [(.ref cu)]) (lenOf pd___I rfl) rfl (Nat.le_of_eq rfl) E (rmO l Z a0 hw x (0 : Int32) h0 Fo) d_14_8__13 (pc' := 16) rfl ?_
  intro v2 T2 L2 X2 hQ2
  obtain ⟨rfl, rfl, e2⟩ := hQ2
  rw [List.append_nil] at X2
  replace e2 : T2.heap = h0 := e2
  show GoP p e below Φ (T2.setTop (mkF m 16 #[.val (.ref a), .val (.ref x), .val (.int (1 : Int32))] [(.int (0 : Int32)), (.ref cu)]))
  refine own_aaload X2 hx hby hZ e2 Vc rfl (by decide) (v := (.ref c0)) rfl d_14_8__16 (pc' := 17) rfl ?_
  refine own_iloadN X2 hx hby d_14_8__17 rfl (pc' := 18) rfl ?_
  refine own_iconst X2 hx hby d_14_8__18 (v := (1 : Int32)) rfl (pc' := 19) rfl ?_
  refine own_isub X2 hx hby d_14_8__19 (pc' := 20) rfl ?_
  show GoP p e below Φ (T2.setTop (mkF m 20 #[.val (.ref a), .val (.ref x), .val (.int (1 : Int32))] [(.int (0 : Int32)), (.ref c0)]))
  refine own_iaload X2 hx hby hZ e2 V (by decide) (v := (.int q0)) rfl d_14_8__20 (pc' := 21) rfl ?_
  exact own_retI X2 hx hby fin hret d_14_8__21 (by decide) (by decide) ⟨rfl, rfl, e2⟩
theorem ef_rmSt0_2_0 (m : MethodId) (x0 : Addr) (x1 : Addr) (x2 : Int32) : entryFrame m #[(.ref x0), (.ref x1), (.int x2)] 3 = mkF m 0 #[.val (.ref x0), .val (.ref x1), .val (.int x2)] [] := by first | (simp [entryFrame, mkF, argsToLocals, Value.category]; done) | rfl
set_option maxRecDepth 65536 in
set_option maxHeartbeats 40000000 in
theorem rmSt0_2_0 (l : Launch) (Z : State) (a0 : Array Value) (hw : ∀ d ∈ tables_1, d.before a0 Z = true) (a x cu c0 c1 : Addr) (q0 q1 : Int32) (h0 : Heap) (E : Exa Z h0 x "com/example/collectary/collectary/broker/Grid$Axis") (Fo : Fld Z h0 x "java/lang/Enum" "ordinal" "I" (.int (0 : Int32))) (Fc : Fld Z h0 a "com/example/collectary/collectary/broker/Grid" "cuts" "[[I" (.ref cu)) (Vc : AV Z h0 cu (.array .int) [.ref c0, .ref c1]) (V : AV Z h0 c0 .int [(.int q0), (.int q1)]) : Con l Z (⟨"com/example/collectary/collectary/broker/Grid", "start", "(Lcom/example/collectary/collectary/broker/Grid$Axis;I)I"⟩ : MethodName) prog_14_method_8_code 3 (some .int) [] ({ frames := 1, cells := 0, slots := 0, locals := 20 } : Room) #[(.ref a), (.ref x), (.int (0 : Int32))] h0 (fun v h L => v = some (.int (0 : Int32)) ∧ L = [] ∧ h = h0) := by
  refine Con.of (plainFor_of_name pn_com_example_collectary_collectary_broker_Grid) ?_
  intro p e s m below meth c T X hx hby hml hown hnm hret eT hZ hsh Φ fin
  replace hown : s.vm.findClass "com/example/collectary/collectary/broker/Grid" = some m.cls := hown
  replace hml : 3 = c.maxLocals := hml.symm
  refine own_step (fun tq kq => castTop (ef_rmSt0_2_0 m a x (0 : Int32)) kq) ?_
  refine own_iloadN X hx hby d_14_8__0 rfl (pc' := 1) rfl ?_
  refine own_ifN X hx hby d_14_8__1 ((if0 _ _).trans (teq (by decide)).2) (pc' := 4) rfl ?_
  refine own_iconst X hx hby d_14_8__4 (v := (0 : Int32)) rfl (pc' := 5) rfl ?_
  refine own_goto X hx hby d_14_8__5 (by decide) (pc' := 21) (by decide) ?_
  exact own_retI X hx hby fin hret d_14_8__21 (by decide) (by decide) ⟨rfl, rfl, eT⟩
theorem ef_rmSt0_2_1 (m : MethodId) (x0 : Addr) (x1 : Addr) (x2 : Int32) : entryFrame m #[(.ref x0), (.ref x1), (.int x2)] 3 = mkF m 0 #[.val (.ref x0), .val (.ref x1), .val (.int x2)] [] := by first | (simp [entryFrame, mkF, argsToLocals, Value.category]; done) | rfl
set_option maxRecDepth 65536 in
set_option maxHeartbeats 40000000 in
theorem rmSt0_2_1 (l : Launch) (Z : State) (a0 : Array Value) (hw : ∀ d ∈ tables_1, d.before a0 Z = true) (a x cu c0 c1 : Addr) (q0 q1 : Int32) (h0 : Heap) (E : Exa Z h0 x "com/example/collectary/collectary/broker/Grid$Axis") (Fo : Fld Z h0 x "java/lang/Enum" "ordinal" "I" (.int (0 : Int32))) (Fc : Fld Z h0 a "com/example/collectary/collectary/broker/Grid" "cuts" "[[I" (.ref cu)) (Vc : AV Z h0 cu (.array .int) [.ref c0, .ref c1]) (V : AV Z h0 c0 .int [(.int q0), (.int q1)]) : Con l Z (⟨"com/example/collectary/collectary/broker/Grid", "start", "(Lcom/example/collectary/collectary/broker/Grid$Axis;I)I"⟩ : MethodName) prog_14_method_8_code 3 (some .int) [] ({ frames := 1, cells := 0, slots := 0, locals := 20 } : Room) #[(.ref a), (.ref x), (.int (1 : Int32))] h0 (fun v h L => v = some (.int q0) ∧ L = [] ∧ h = h0) := by
  refine Con.of (plainFor_of_name pn_com_example_collectary_collectary_broker_Grid) ?_
  intro p e s m below meth c T X hx hby hml hown hnm hret eT hZ hsh Φ fin
  replace hown : s.vm.findClass "com/example/collectary/collectary/broker/Grid" = some m.cls := hown
  replace hml : 3 = c.maxLocals := hml.symm
  refine own_step (fun tq kq => castTop (ef_rmSt0_2_1 m a x (1 : Int32)) kq) ?_
  refine own_iloadN X hx hby d_14_8__0 rfl (pc' := 1) rfl ?_
  refine own_ifY X hx hby d_14_8__1 ((if0 _ _).trans (feq (by decide)).2) (by decide) (pc' := 8) (by decide) ?_
  refine own_aloadN X hx hby d_14_8__8 rfl rfl (pc' := 9) rfl ?_
  refine own_getF X hx hby hZ hown (host := "") (Or.inl (own_w hw 23 rfl)) Via.refl eT Fc d_14_8__9 (pc' := 12) rfl ?_
  intro T1 X1 e1
  refine own_aloadN X1 hx hby d_14_8__12 rfl rfl (pc' := 13) rfl ?_
  refine own_callU X1 hx hby hZ (by exact hml) hown (x0 := (⟨"com/example/collectary/collectary/broker/Grid$Axis", "ordinal", "()I"⟩ : MethodName)) (y := (⟨"java/lang/Enum", "ordinal", "()I"⟩ : MethodName)) (own_w hw 52 rfl) (own_w hw 53 rfl) (own_w hw 54 rfl) (own_w hw 56 rfl) (own_w hw 55 rfl) (own_w hw 57 rfl) (own_w hw 58 rfl) (by decide) e1 1 (by decide) (by decide) (by decide) (by decide) (argsL := []) (rest := [(.ref cu)]) (lenOf pd___I rfl) rfl (Nat.le_of_eq rfl) E (rmO l Z a0 hw x (0 : Int32) h0 Fo) d_14_8__13 (pc' := 16) rfl ?_
  intro v2 T2 L2 X2 hQ2
  obtain ⟨rfl, rfl, e2⟩ := hQ2
  rw [List.append_nil] at X2
  replace e2 : T2.heap = h0 := e2
  show GoP p e below Φ (T2.setTop (mkF m 16 #[.val (.ref a), .val (.ref x), .val (.int (1 : Int32))] [(.int (0 : Int32)), (.ref cu)]))
  refine own_aaload X2 hx hby hZ e2 Vc rfl (by decide) (v := (.ref c0)) rfl d_14_8__16 (pc' := 17) rfl ?_
  refine own_iloadN X2 hx hby d_14_8__17 rfl (pc' := 18) rfl ?_
  refine own_iconst X2 hx hby d_14_8__18 (v := (1 : Int32)) rfl (pc' := 19) rfl ?_
  refine own_isub X2 hx hby d_14_8__19 (pc' := 20) rfl ?_
  show GoP p e below Φ (T2.setTop (mkF m 20 #[.val (.ref a), .val (.ref x), .val (.int (1 : Int32))] [(.int (0 : Int32)), (.ref c0)]))
  refine own_iaload X2 hx hby hZ e2 V (by decide) (v := (.int q0)) rfl d_14_8__20 (pc' := 21) rfl ?_
  exact own_retI X2 hx hby fin hret d_14_8__21 (by decide) (by decide) ⟨rfl, rfl, e2⟩
theorem ef_rmSt0_2_2 (m : MethodId) (x0 : Addr) (x1 : Addr) (x2 : Int32) : entryFrame m #[(.ref x0), (.ref x1), (.int x2)] 3 = mkF m 0 #[.val (.ref x0), .val (.ref x1), .val (.int x2)] [] := by first | (simp [entryFrame, mkF, argsToLocals, Value.category]; done) | rfl
set_option maxRecDepth 65536 in
set_option maxHeartbeats 40000000 in
theorem rmSt0_2_2 (l : Launch) (Z : State) (a0 : Array Value) (hw : ∀ d ∈ tables_1, d.before a0 Z = true) (a x cu c0 c1 : Addr) (q0 q1 : Int32) (h0 : Heap) (E : Exa Z h0 x "com/example/collectary/collectary/broker/Grid$Axis") (Fo : Fld Z h0 x "java/lang/Enum" "ordinal" "I" (.int (0 : Int32))) (Fc : Fld Z h0 a "com/example/collectary/collectary/broker/Grid" "cuts" "[[I" (.ref cu)) (Vc : AV Z h0 cu (.array .int) [.ref c0, .ref c1]) (V : AV Z h0 c0 .int [(.int q0), (.int q1)]) : Con l Z (⟨"com/example/collectary/collectary/broker/Grid", "start", "(Lcom/example/collectary/collectary/broker/Grid$Axis;I)I"⟩ : MethodName) prog_14_method_8_code 3 (some .int) [] ({ frames := 1, cells := 0, slots := 0, locals := 20 } : Room) #[(.ref a), (.ref x), (.int (2 : Int32))] h0 (fun v h L => v = some (.int q1) ∧ L = [] ∧ h = h0) := by
  refine Con.of (plainFor_of_name pn_com_example_collectary_collectary_broker_Grid) ?_
  intro p e s m below meth c T X hx hby hml hown hnm hret eT hZ hsh Φ fin
  replace hown : s.vm.findClass "com/example/collectary/collectary/broker/Grid" = some m.cls := hown
  replace hml : 3 = c.maxLocals := hml.symm
  refine own_step (fun tq kq => castTop (ef_rmSt0_2_2 m a x (2 : Int32)) kq) ?_
  refine own_iloadN X hx hby d_14_8__0 rfl (pc' := 1) rfl ?_
  refine own_ifY X hx hby d_14_8__1 ((if0 _ _).trans (feq (by decide)).2) (by decide) (pc' := 8) (by decide) ?_
  refine own_aloadN X hx hby d_14_8__8 rfl rfl (pc' := 9) rfl ?_
  refine own_getF X hx hby hZ hown (host := "") (Or.inl (own_w hw 23 rfl)) Via.refl eT Fc d_14_8__9 (pc' := 12) rfl ?_
  intro T1 X1 e1
  refine own_aloadN X1 hx hby d_14_8__12 rfl rfl (pc' := 13) rfl ?_
  refine own_callU X1 hx hby hZ (by exact hml) hown (x0 := (⟨"com/example/collectary/collectary/broker/Grid$Axis", "ordinal", "()I"⟩ : MethodName)) (y := (⟨"java/lang/Enum", "ordinal", "()I"⟩ : MethodName)) (own_w hw 52 rfl) (own_w hw 53 rfl) (own_w hw 54 rfl) (own_w hw 56 rfl) (own_w hw 55 rfl) (own_w hw 57 rfl) (own_w hw 58 rfl) (by decide) e1 1 (by decide) (by decide) (by decide) (by decide) (argsL := []) (rest := [(.ref cu)]) (lenOf pd___I rfl) rfl (Nat.le_of_eq rfl) E (rmO l Z a0 hw x (0 : Int32) h0 Fo) d_14_8__13 (pc' := 16) rfl ?_
  intro v2 T2 L2 X2 hQ2
  obtain ⟨rfl, rfl, e2⟩ := hQ2
  rw [List.append_nil] at X2
  replace e2 : T2.heap = h0 := e2
  show GoP p e below Φ (T2.setTop (mkF m 16 #[.val (.ref a), .val (.ref x), .val (.int (2 : Int32))] [(.int (0 : Int32)), (.ref cu)]))
  refine own_aaload X2 hx hby hZ e2 Vc rfl (by decide) (v := (.ref c0)) rfl d_14_8__16 (pc' := 17) rfl ?_
  refine own_iloadN X2 hx hby d_14_8__17 rfl (pc' := 18) rfl ?_
  refine own_iconst X2 hx hby d_14_8__18 (v := (1 : Int32)) rfl (pc' := 19) rfl ?_
  refine own_isub X2 hx hby d_14_8__19 (pc' := 20) rfl ?_
  show GoP p e below Φ (T2.setTop (mkF m 20 #[.val (.ref a), .val (.ref x), .val (.int (2 : Int32))] [(.int (1 : Int32)), (.ref c0)]))
  refine own_iaload X2 hx hby hZ e2 V (by decide) (v := (.int q1)) rfl d_14_8__20 (pc' := 21) rfl ?_
  exact own_retI X2 hx hby fin hret d_14_8__21 (by decide) (by decide) ⟨rfl, rfl, e2⟩
theorem ef_rmSt1_1_0 (m : MethodId) (x0 : Addr) (x1 : Addr) (x2 : Int32) : entryFrame m #[(.ref x0), (.ref x1), (.int x2)] 3 = mkF m 0 #[.val (.ref x0), .val (.ref x1), .val (.int x2)] [] := by first | (simp [entryFrame, mkF, argsToLocals, Value.category]; done) | rfl
set_option maxRecDepth 65536 in
set_option maxHeartbeats 40000000 in
theorem rmSt1_1_0 (l : Launch) (Z : State) (a0 : Array Value) (hw : ∀ d ∈ tables_1, d.before a0 Z = true) (a x cu c0 c1 : Addr) (q0 : Int32) (h0 : Heap) (E : Exa Z h0 x "com/example/collectary/collectary/broker/Grid$Axis") (Fo : Fld Z h0 x "java/lang/Enum" "ordinal" "I" (.int (1 : Int32))) (Fc : Fld Z h0 a "com/example/collectary/collectary/broker/Grid" "cuts" "[[I" (.ref cu)) (Vc : AV Z h0 cu (.array .int) [.ref c0, .ref c1]) (V : AV Z h0 c1 .int [(.int q0)]) : Con l Z (⟨"com/example/collectary/collectary/broker/Grid", "start", "(Lcom/example/collectary/collectary/broker/Grid$Axis;I)I"⟩ : MethodName) prog_14_method_8_code 3 (some .int) [] ({ frames := 1, cells := 0, slots := 0, locals := 20 } : Room) #[(.ref a), (.ref x), (.int (0 : Int32))] h0 (fun v h L => v = some (.int (0 : Int32)) ∧ L = [] ∧ h = h0) := by
  refine Con.of (plainFor_of_name pn_com_example_collectary_collectary_broker_Grid) ?_
  intro p e s m below meth c T X hx hby hml hown hnm hret eT hZ hsh Φ fin
  replace hown : s.vm.findClass "com/example/collectary/collectary/broker/Grid" = some m.cls := hown
  replace hml : 3 = c.maxLocals := hml.symm
  refine own_step (fun tq kq => castTop (ef_rmSt1_1_0 m a x (0 : Int32)) kq) ?_
  refine own_iloadN X hx hby d_14_8__0 rfl (pc' := 1) rfl ?_
  refine own_ifN X hx hby d_14_8__1 ((if0 _ _).trans (teq (by decide)).2) (pc' := 4) rfl ?_
  refine own_iconst X hx hby d_14_8__4 (v := (0 : Int32)) rfl (pc' := 5) rfl ?_
  refine own_goto X hx hby d_14_8__5 (by decide) (pc' := 21) (by decide) ?_
  exact own_retI X hx hby fin hret d_14_8__21 (by decide) (by decide) ⟨rfl, rfl, eT⟩
theorem ef_rmSt1_1_1 (m : MethodId) (x0 : Addr) (x1 : Addr) (x2 : Int32) : entryFrame m #[(.ref x0), (.ref x1), (.int x2)] 3 = mkF m 0 #[.val (.ref x0), .val (.ref x1), .val (.int x2)] [] := by first | (simp [entryFrame, mkF, argsToLocals, Value.category]; done) | rfl
set_option maxRecDepth 65536 in
set_option maxHeartbeats 40000000 in
theorem rmSt1_1_1 (l : Launch) (Z : State) (a0 : Array Value) (hw : ∀ d ∈ tables_1, d.before a0 Z = true) (a x cu c0 c1 : Addr) (q0 : Int32) (h0 : Heap) (E : Exa Z h0 x "com/example/collectary/collectary/broker/Grid$Axis") (Fo : Fld Z h0 x "java/lang/Enum" "ordinal" "I" (.int (1 : Int32))) (Fc : Fld Z h0 a "com/example/collectary/collectary/broker/Grid" "cuts" "[[I" (.ref cu)) (Vc : AV Z h0 cu (.array .int) [.ref c0, .ref c1]) (V : AV Z h0 c1 .int [(.int q0)]) : Con l Z (⟨"com/example/collectary/collectary/broker/Grid", "start", "(Lcom/example/collectary/collectary/broker/Grid$Axis;I)I"⟩ : MethodName) prog_14_method_8_code 3 (some .int) [] ({ frames := 1, cells := 0, slots := 0, locals := 20 } : Room) #[(.ref a), (.ref x), (.int (1 : Int32))] h0 (fun v h L => v = some (.int q0) ∧ L = [] ∧ h = h0) := by
  refine Con.of (plainFor_of_name pn_com_example_collectary_collectary_broker_Grid) ?_
  intro p e s m below meth c T X hx hby hml hown hnm hret eT hZ hsh Φ fin
  replace hown : s.vm.findClass "com/example/collectary/collectary/broker/Grid" = some m.cls := hown
  replace hml : 3 = c.maxLocals := hml.symm
  refine own_step (fun tq kq => castTop (ef_rmSt1_1_1 m a x (1 : Int32)) kq) ?_
  refine own_iloadN X hx hby d_14_8__0 rfl (pc' := 1) rfl ?_
  refine own_ifY X hx hby d_14_8__1 ((if0 _ _).trans (feq (by decide)).2) (by decide) (pc' := 8) (by decide) ?_
  refine own_aloadN X hx hby d_14_8__8 rfl rfl (pc' := 9) rfl ?_
  refine own_getF X hx hby hZ hown (host := "") (Or.inl (own_w hw 23 rfl)) Via.refl eT Fc d_14_8__9 (pc' := 12) rfl ?_
  intro T1 X1 e1
  refine own_aloadN X1 hx hby d_14_8__12 rfl rfl (pc' := 13) rfl ?_
  refine own_callU X1 hx hby hZ (by exact hml) hown (x0 := (⟨"com/example/collectary/collectary/broker/Grid$Axis", "ordinal", "()I"⟩ : MethodName)) (y := (⟨"java/lang/Enum", "ordinal", "()I"⟩ : MethodName)) (own_w hw 52 rfl) (own_w hw 53 rfl) (own_w hw 54 rfl) (own_w hw 56 rfl) (own_w hw 55 rfl) (own_w hw 57 rfl) (own_w hw 58 rfl) (by decide) e1 1 (by decide) (by decide) (by decide) (by decide) (argsL := []) (rest := [(.ref cu)]) (lenOf pd___I rfl) rfl (Nat.le_of_eq rfl) E (rmO l Z a0 hw x (1 : Int32) h0 Fo) d_14_8__13 (pc' := 16) rfl ?_
  intro v2 T2 L2 X2 hQ2
  obtain ⟨rfl, rfl, e2⟩ := hQ2
  rw [List.append_nil] at X2
  replace e2 : T2.heap = h0 := e2
  show GoP p e below Φ (T2.setTop (mkF m 16 #[.val (.ref a), .val (.ref x), .val (.int (1 : Int32))] [(.int (1 : Int32)), (.ref cu)]))
  refine own_aaload X2 hx hby hZ e2 Vc rfl (by decide) (v := (.ref c1)) rfl d_14_8__16 (pc' := 17) rfl ?_
  refine own_iloadN X2 hx hby d_14_8__17 rfl (pc' := 18) rfl ?_
  refine own_iconst X2 hx hby d_14_8__18 (v := (1 : Int32)) rfl (pc' := 19) rfl ?_
  refine own_isub X2 hx hby d_14_8__19 (pc' := 20) rfl ?_
  show GoP p e below Φ (T2.setTop (mkF m 20 #[.val (.ref a), .val (.ref x), .val (.int (1 : Int32))] [(.int (0 : Int32)), (.ref c1)]))
  refine own_iaload X2 hx hby hZ e2 V (by decide) (v := (.int q0)) rfl d_14_8__20 (pc' := 21) rfl ?_
  exact own_retI X2 hx hby fin hret d_14_8__21 (by decide) (by decide) ⟨rfl, rfl, e2⟩
theorem ef_rmSt1_2_0 (m : MethodId) (x0 : Addr) (x1 : Addr) (x2 : Int32) : entryFrame m #[(.ref x0), (.ref x1), (.int x2)] 3 = mkF m 0 #[.val (.ref x0), .val (.ref x1), .val (.int x2)] [] := by first | (simp [entryFrame, mkF, argsToLocals, Value.category]; done) | rfl
set_option maxRecDepth 65536 in
set_option maxHeartbeats 40000000 in
theorem rmSt1_2_0 (l : Launch) (Z : State) (a0 : Array Value) (hw : ∀ d ∈ tables_1, d.before a0 Z = true) (a x cu c0 c1 : Addr) (q0 q1 : Int32) (h0 : Heap) (E : Exa Z h0 x "com/example/collectary/collectary/broker/Grid$Axis") (Fo : Fld Z h0 x "java/lang/Enum" "ordinal" "I" (.int (1 : Int32))) (Fc : Fld Z h0 a "com/example/collectary/collectary/broker/Grid" "cuts" "[[I" (.ref cu)) (Vc : AV Z h0 cu (.array .int) [.ref c0, .ref c1]) (V : AV Z h0 c1 .int [(.int q0), (.int q1)]) : Con l Z (⟨"com/example/collectary/collectary/broker/Grid", "start", "(Lcom/example/collectary/collectary/broker/Grid$Axis;I)I"⟩ : MethodName) prog_14_method_8_code 3 (some .int) [] ({ frames := 1, cells := 0, slots := 0, locals := 20 } : Room) #[(.ref a), (.ref x), (.int (0 : Int32))] h0 (fun v h L => v = some (.int (0 : Int32)) ∧ L = [] ∧ h = h0) := by
  refine Con.of (plainFor_of_name pn_com_example_collectary_collectary_broker_Grid) ?_
  intro p e s m below meth c T X hx hby hml hown hnm hret eT hZ hsh Φ fin
  replace hown : s.vm.findClass "com/example/collectary/collectary/broker/Grid" = some m.cls := hown
  replace hml : 3 = c.maxLocals := hml.symm
  refine own_step (fun tq kq => castTop (ef_rmSt1_2_0 m a x (0 : Int32)) kq) ?_
  refine own_iloadN X hx hby d_14_8__0 rfl (pc' := 1) rfl ?_
  refine own_ifN X hx hby d_14_8__1 ((if0 _ _).trans (teq (by decide)).2) (pc' := 4) rfl ?_
  refine own_iconst X hx hby d_14_8__4 (v := (0 : Int32)) rfl (pc' := 5) rfl ?_
  refine own_goto X hx hby d_14_8__5 (by decide) (pc' := 21) (by decide) ?_
  exact own_retI X hx hby fin hret d_14_8__21 (by decide) (by decide) ⟨rfl, rfl, eT⟩
theorem ef_rmSt1_2_1 (m : MethodId) (x0 : Addr) (x1 : Addr) (x2 : Int32) : entryFrame m #[(.ref x0), (.ref x1), (.int x2)] 3 = mkF m 0 #[.val (.ref x0), .val (.ref x1), .val (.int x2)] [] := by first | (simp [entryFrame, mkF, argsToLocals, Value.category]; done) | rfl
set_option maxRecDepth 65536 in
set_option maxHeartbeats 40000000 in
theorem rmSt1_2_1 (l : Launch) (Z : State) (a0 : Array Value) (hw : ∀ d ∈ tables_1, d.before a0 Z = true) (a x cu c0 c1 : Addr) (q0 q1 : Int32) (h0 : Heap) (E : Exa Z h0 x "com/example/collectary/collectary/broker/Grid$Axis") (Fo : Fld Z h0 x "java/lang/Enum" "ordinal" "I" (.int (1 : Int32))) (Fc : Fld Z h0 a "com/example/collectary/collectary/broker/Grid" "cuts" "[[I" (.ref cu)) (Vc : AV Z h0 cu (.array .int) [.ref c0, .ref c1]) (V : AV Z h0 c1 .int [(.int q0), (.int q1)]) : Con l Z (⟨"com/example/collectary/collectary/broker/Grid", "start", "(Lcom/example/collectary/collectary/broker/Grid$Axis;I)I"⟩ : MethodName) prog_14_method_8_code 3 (some .int) [] ({ frames := 1, cells := 0, slots := 0, locals := 20 } : Room) #[(.ref a), (.ref x), (.int (1 : Int32))] h0 (fun v h L => v = some (.int q0) ∧ L = [] ∧ h = h0) := by
  refine Con.of (plainFor_of_name pn_com_example_collectary_collectary_broker_Grid) ?_
  intro p e s m below meth c T X hx hby hml hown hnm hret eT hZ hsh Φ fin
  replace hown : s.vm.findClass "com/example/collectary/collectary/broker/Grid" = some m.cls := hown
  replace hml : 3 = c.maxLocals := hml.symm
  refine own_step (fun tq kq => castTop (ef_rmSt1_2_1 m a x (1 : Int32)) kq) ?_
  refine own_iloadN X hx hby d_14_8__0 rfl (pc' := 1) rfl ?_
  refine own_ifY X hx hby d_14_8__1 ((if0 _ _).trans (feq (by decide)).2) (by decide) (pc' := 8) (by decide) ?_
  refine own_aloadN X hx hby d_14_8__8 rfl rfl (pc' := 9) rfl ?_
  refine own_getF X hx hby hZ hown (host := "") (Or.inl (own_w hw 23 rfl)) Via.refl eT Fc d_14_8__9 (pc' := 12) rfl ?_
  intro T1 X1 e1
  refine own_aloadN X1 hx hby d_14_8__12 rfl rfl (pc' := 13) rfl ?_
  refine own_callU X1 hx hby hZ (by exact hml) hown (x0 := (⟨"com/example/collectary/collectary/broker/Grid$Axis", "ordinal", "()I"⟩ : MethodName)) (y := (⟨"java/lang/Enum", "ordinal", "()I"⟩ : MethodName)) (own_w hw 52 rfl) (own_w hw 53 rfl) (own_w hw 54 rfl) (own_w hw 56 rfl) (own_w hw 55 rfl) (own_w hw 57 rfl) (own_w hw 58 rfl) (by decide) e1 1 (by decide) (by decide) (by decide) (by decide) (argsL := []) (rest := [(.ref cu)]) (lenOf pd___I rfl) rfl (Nat.le_of_eq rfl) E (rmO l Z a0 hw x (1 : Int32) h0 Fo) d_14_8__13 (pc' := 16) rfl ?_
  intro v2 T2 L2 X2 hQ2
  obtain ⟨rfl, rfl, e2⟩ := hQ2
  rw [List.append_nil] at X2
  replace e2 : T2.heap = h0 := e2
  show GoP p e below Φ (T2.setTop (mkF m 16 #[.val (.ref a), .val (.ref x), .val (.int (1 : Int32))] [(.int (1 : Int32)), (.ref cu)]))
  refine own_aaload X2 hx hby hZ e2 Vc rfl (by decide) (v := (.ref c1)) rfl d_14_8__16 (pc' := 17) rfl ?_
  refine own_iloadN X2 hx hby d_14_8__17 rfl (pc' := 18) rfl ?_
  refine own_iconst X2 hx hby d_14_8__18 (v := (1 : Int32)) rfl (pc' := 19) rfl ?_
  refine own_isub X2 hx hby d_14_8__19 (pc' := 20) rfl ?_
  show GoP p e below Φ (T2.setTop (mkF m 20 #[.val (.ref a), .val (.ref x), .val (.int (1 : Int32))] [(.int (0 : Int32)), (.ref c1)]))
  refine own_iaload X2 hx hby hZ e2 V (by decide) (v := (.int q0)) rfl d_14_8__20 (pc' := 21) rfl ?_
  exact own_retI X2 hx hby fin hret d_14_8__21 (by decide) (by decide) ⟨rfl, rfl, e2⟩
theorem ef_rmSt1_2_2 (m : MethodId) (x0 : Addr) (x1 : Addr) (x2 : Int32) : entryFrame m #[(.ref x0), (.ref x1), (.int x2)] 3 = mkF m 0 #[.val (.ref x0), .val (.ref x1), .val (.int x2)] [] := by first | (simp [entryFrame, mkF, argsToLocals, Value.category]; done) | rfl
set_option maxRecDepth 65536 in
set_option maxHeartbeats 40000000 in
theorem rmSt1_2_2 (l : Launch) (Z : State) (a0 : Array Value) (hw : ∀ d ∈ tables_1, d.before a0 Z = true) (a x cu c0 c1 : Addr) (q0 q1 : Int32) (h0 : Heap) (E : Exa Z h0 x "com/example/collectary/collectary/broker/Grid$Axis") (Fo : Fld Z h0 x "java/lang/Enum" "ordinal" "I" (.int (1 : Int32))) (Fc : Fld Z h0 a "com/example/collectary/collectary/broker/Grid" "cuts" "[[I" (.ref cu)) (Vc : AV Z h0 cu (.array .int) [.ref c0, .ref c1]) (V : AV Z h0 c1 .int [(.int q0), (.int q1)]) : Con l Z (⟨"com/example/collectary/collectary/broker/Grid", "start", "(Lcom/example/collectary/collectary/broker/Grid$Axis;I)I"⟩ : MethodName) prog_14_method_8_code 3 (some .int) [] ({ frames := 1, cells := 0, slots := 0, locals := 20 } : Room) #[(.ref a), (.ref x), (.int (2 : Int32))] h0 (fun v h L => v = some (.int q1) ∧ L = [] ∧ h = h0) := by
  refine Con.of (plainFor_of_name pn_com_example_collectary_collectary_broker_Grid) ?_
  intro p e s m below meth c T X hx hby hml hown hnm hret eT hZ hsh Φ fin
  replace hown : s.vm.findClass "com/example/collectary/collectary/broker/Grid" = some m.cls := hown
  replace hml : 3 = c.maxLocals := hml.symm
  refine own_step (fun tq kq => castTop (ef_rmSt1_2_2 m a x (2 : Int32)) kq) ?_
  refine own_iloadN X hx hby d_14_8__0 rfl (pc' := 1) rfl ?_
  refine own_ifY X hx hby d_14_8__1 ((if0 _ _).trans (feq (by decide)).2) (by decide) (pc' := 8) (by decide) ?_
  refine own_aloadN X hx hby d_14_8__8 rfl rfl (pc' := 9) rfl ?_
  refine own_getF X hx hby hZ hown (host := "") (Or.inl (own_w hw 23 rfl)) Via.refl eT Fc d_14_8__9 (pc' := 12) rfl ?_
  intro T1 X1 e1
  refine own_aloadN X1 hx hby d_14_8__12 rfl rfl (pc' := 13) rfl ?_
  refine own_callU X1 hx hby hZ (by exact hml) hown (x0 := (⟨"com/example/collectary/collectary/broker/Grid$Axis", "ordinal", "()I"⟩ : MethodName)) (y := (⟨"java/lang/Enum", "ordinal", "()I"⟩ : MethodName)) (own_w hw 52 rfl) (own_w hw 53 rfl) (own_w hw 54 rfl) (own_w hw 56 rfl) (own_w hw 55 rfl) (own_w hw 57 rfl) (own_w hw 58 rfl) (by decide) e1 1 (by decide) (by decide) (by decide) (by decide) (argsL := []) (rest := [(.ref cu)]) (lenOf pd___I rfl) rfl (Nat.le_of_eq rfl) E (rmO l Z a0 hw x (1 : Int32) h0 Fo) d_14_8__13 (pc' := 16) rfl ?_
  intro v2 T2 L2 X2 hQ2
  obtain ⟨rfl, rfl, e2⟩ := hQ2
  rw [List.append_nil] at X2
  replace e2 : T2.heap = h0 := e2
  show GoP p e below Φ (T2.setTop (mkF m 16 #[.val (.ref a), .val (.ref x), .val (.int (2 : Int32))] [(.int (1 : Int32)), (.ref cu)]))
  refine own_aaload X2 hx hby hZ e2 Vc rfl (by decide) (v := (.ref c1)) rfl d_14_8__16 (pc' := 17) rfl ?_
  refine own_iloadN X2 hx hby d_14_8__17 rfl (pc' := 18) rfl ?_
  refine own_iconst X2 hx hby d_14_8__18 (v := (1 : Int32)) rfl (pc' := 19) rfl ?_
  refine own_isub X2 hx hby d_14_8__19 (pc' := 20) rfl ?_
  show GoP p e below Φ (T2.setTop (mkF m 20 #[.val (.ref a), .val (.ref x), .val (.int (2 : Int32))] [(.int (1 : Int32)), (.ref c1)]))
  refine own_iaload X2 hx hby hZ e2 V (by decide) (v := (.int q1)) rfl d_14_8__20 (pc' := 21) rfl ?_
  exact own_retI X2 hx hby fin hret d_14_8__21 (by decide) (by decide) ⟨rfl, rfl, e2⟩
theorem ef_rmGI (m : MethodId) (x0 : Addr) (x1 : Int32) (x2 : Int32) : entryFrame m #[(.ref x0), (.int x1), (.int x2)] 3 = mkF m 0 #[.val (.ref x0), .val (.int x1), .val (.int x2)] [] := by first | (simp [entryFrame, mkF, argsToLocals, Value.category]; done) | rfl
theorem d_14_1__0 : decode prog_14_method_1_code 0 = .ok (.aload_n 0, 1) := by decide +kernel
theorem d_14_1__1 : decode prog_14_method_1_code 1 = .ok (.invokespecial 1, 3) := by decide +kernel
theorem d_14_1__4 : decode prog_14_method_1_code 4 = .ok (.aload_n 0, 1) := by decide +kernel
theorem d_14_1__5 : decode prog_14_method_1_code 5 = .ok (.iconst 2, 1) := by decide +kernel
theorem d_14_1__6 : decode prog_14_method_1_code 6 = .ok (.newarray .int, 2) := by decide +kernel
theorem d_14_1__8 : decode prog_14_method_1_code 8 = .ok (.putfield 7, 3) := by decide +kernel
theorem d_14_1__11 : decode prog_14_method_1_code 11 = .ok (.aload_n 0, 1) := by decide +kernel
theorem d_14_1__12 : decode prog_14_method_1_code 12 = .ok (.iconst 2, 1) := by decide +kernel
theorem d_14_1__13 : decode prog_14_method_1_code 13 = .ok (.anewarray 13, 3) := by decide +kernel
theorem d_14_1__16 : decode prog_14_method_1_code 16 = .ok (.dup, 1) := by decide +kernel
theorem d_14_1__17 : decode prog_14_method_1_code 17 = .ok (.iconst 0, 1) := by decide +kernel
theorem d_14_1__18 : decode prog_14_method_1_code 18 = .ok (.iconst 0, 1) := by decide +kernel
theorem d_14_1__19 : decode prog_14_method_1_code 19 = .ok (.newarray .int, 2) := by decide +kernel
theorem d_14_1__21 : decode prog_14_method_1_code 21 = .ok (.aastore, 1) := by decide +kernel
theorem d_14_1__22 : decode prog_14_method_1_code 22 = .ok (.dup, 1) := by decide +kernel
theorem d_14_1__23 : decode prog_14_method_1_code 23 = .ok (.iconst 1, 1) := by decide +kernel
theorem d_14_1__24 : decode prog_14_method_1_code 24 = .ok (.iconst 0, 1) := by decide +kernel
theorem d_14_1__25 : decode prog_14_method_1_code 25 = .ok (.newarray .int, 2) := by decide +kernel
theorem d_14_1__27 : decode prog_14_method_1_code 27 = .ok (.aastore, 1) := by decide +kernel
theorem d_14_1__28 : decode prog_14_method_1_code 28 = .ok (.putfield 14, 3) := by decide +kernel
theorem d_14_1__31 : decode prog_14_method_1_code 31 = .ok (.aload_n 0, 1) := by decide +kernel
theorem d_14_1__32 : decode prog_14_method_1_code 32 = .ok (.new 18, 3) := by decide +kernel
theorem d_14_1__35 : decode prog_14_method_1_code 35 = .ok (.dup, 1) := by decide +kernel
theorem d_14_1__36 : decode prog_14_method_1_code 36 = .ok (.invokespecial 20, 3) := by decide +kernel
theorem d_14_1__39 : decode prog_14_method_1_code 39 = .ok (.putfield 21, 3) := by decide +kernel
theorem d_14_1__42 : decode prog_14_method_1_code 42 = .ok (.aload_n 0, 1) := by decide +kernel
theorem d_14_1__43 : decode prog_14_method_1_code 43 = .ok (.getfield 7, 3) := by decide +kernel
theorem d_14_1__46 : decode prog_14_method_1_code 46 = .ok (.getstatic 25, 3) := by decide +kernel
theorem d_14_1__49 : decode prog_14_method_1_code 49 = .ok (.invokevirtual 31, 3) := by decide +kernel
theorem d_14_1__52 : decode prog_14_method_1_code 52 = .ok (.iload_n 1, 1) := by decide +kernel
theorem d_14_1__53 : decode prog_14_method_1_code 53 = .ok (.iastore, 1) := by decide +kernel
theorem d_14_1__54 : decode prog_14_method_1_code 54 = .ok (.aload_n 0, 1) := by decide +kernel
theorem d_14_1__55 : decode prog_14_method_1_code 55 = .ok (.getfield 7, 3) := by decide +kernel
theorem d_14_1__58 : decode prog_14_method_1_code 58 = .ok (.getstatic 35, 3) := by decide +kernel
theorem d_14_1__61 : decode prog_14_method_1_code 61 = .ok (.invokevirtual 31, 3) := by decide +kernel
theorem d_14_1__64 : decode prog_14_method_1_code 64 = .ok (.iload_n 2, 1) := by decide +kernel
theorem d_14_1__65 : decode prog_14_method_1_code 65 = .ok (.iastore, 1) := by decide +kernel
theorem d_14_1__66 : decode prog_14_method_1_code 66 = .ok (.aload_n 0, 1) := by decide +kernel
theorem d_14_1__67 : decode prog_14_method_1_code 67 = .ok (.getfield 21, 3) := by decide +kernel
theorem d_14_1__70 : decode prog_14_method_1_code 70 = .ok (.iconst 1, 1) := by decide +kernel
theorem d_14_1__71 : decode prog_14_method_1_code 71 = .ok (.newarray .int, 2) := by decide +kernel
theorem d_14_1__73 : decode prog_14_method_1_code 73 = .ok (.dup, 1) := by decide +kernel
theorem d_14_1__74 : decode prog_14_method_1_code 74 = .ok (.iconst 0, 1) := by decide +kernel
theorem d_14_1__75 : decode prog_14_method_1_code 75 = .ok (.iconst 0, 1) := by decide +kernel
theorem d_14_1__76 : decode prog_14_method_1_code 76 = .ok (.iastore, 1) := by decide +kernel
theorem d_14_1__77 : decode prog_14_method_1_code 77 = .ok (.invokeinterface 38 2, 5) := by decide +kernel
theorem pd__Ljava_lang_Object__Z : parseMethodDescriptor "(Ljava/lang/Object;)Z" = some ⟨[(.object "java/lang/Object")], some .boolean⟩ := by decide +kernel
theorem d_14_1__82 : decode prog_14_method_1_code 82 = .ok (.pop, 1) := by decide +kernel
theorem d_14_1__83 : decode prog_14_method_1_code 83 = .ok (.return_, 1) := by decide +kernel
set_option maxRecDepth 65536 in
set_option maxHeartbeats 40000000 in
theorem rmGI (l : Launch) (Z : State) (a0 : Array Value) (hw : ∀ d ∈ tables_1, d.before a0 Z = true) (g aW aC aD : Addr) (p1 p2 : Int32) (n0 : Nat) (h0 : Heap) (n0_g : n0 ≤ g) (Z0 : n0 ≤ h0.size) (oW : aW < n0) (oC : aC < n0) (oD : aD < n0) (E : Exa Z h0 g "com/example/collectary/collectary/broker/Grid") (F_ids : Fld Z h0 g "com/example/collectary/collectary/broker/Grid" "ids" "[I" .null) (F_cuts : Fld Z h0 g "com/example/collectary/collectary/broker/Grid" "cuts" "[[I" .null) (F_rows : Fld Z h0 g "com/example/collectary/collectary/broker/Grid" "rows" "Ljava/util/List;" .null) (EW : Exa Z h0 aW "com/example/collectary/collectary/broker/Grid$Axis") (EC : Exa Z h0 aC "com/example/collectary/collectary/broker/Grid$Axis") (OW : Fld Z h0 aW "java/lang/Enum" "ordinal" "I" (.int (0 : Int32))) (OC : Fld Z h0 aC "java/lang/Enum" "ordinal" "I" (.int (1 : Int32))) (SW : Sta Z h0 "com/example/collectary/collectary/broker/Grid$Axis" "WORD" "Lcom/example/collectary/collectary/broker/Grid$Axis;" (.ref aW)) (SC : Sta Z h0 "com/example/collectary/collectary/broker/Grid$Axis" "COLLECTION" "Lcom/example/collectary/collectary/broker/Grid$Axis;" (.ref aC)) (S : Sta Z h0 "java/util/ArrayList" "DEFAULTCAPACITY_EMPTY_ELEMENTDATA" "[Ljava/lang/Object;" (.ref aD)) (VD : AV Z h0 aD (.object "java/lang/Object") []) : Con l Z (⟨"com/example/collectary/collectary/broker/Grid", "<init>", "(II)V"⟩ : MethodName) prog_14_method_1_code 3 none [] ({ frames := 5, cells := 8, slots := 24, locals := 130 } : Room) #[(.ref g), (.int p1), (.int p2)] h0 (fun v h L => v = none ∧ Fr n0 L ∧ Keep h0 h [g] ∧ Exa Z h g "com/example/collectary/collectary/broker/Grid" ∧ ∃ cu c0 c1 rl es r0 : Addr, n0 ≤ cu ∧ n0 ≤ rl ∧ n0 ≤ es ∧ Fld Z h g "com/example/collectary/collectary/broker/Grid" "cuts" "[[I" (.ref cu) ∧ Fld Z h g "com/example/collectary/collectary/broker/Grid" "rows" "Ljava/util/List;" (.ref rl) ∧ AV Z h cu (.array .int) [.ref c0, .ref c1] ∧ CM Z h cu "[I" ∧ AV Z h c0 .int [] ∧ AV Z h c1 .int [] ∧ Exa Z h rl "java/util/ArrayList" ∧ Fld Z h rl "java/util/AbstractList" "modCount" "I" (.int (1 : Int32)) ∧ Fld Z h rl "java/util/ArrayList" "elementData" "[Ljava/lang/Object;" (.ref es) ∧ Fld Z h rl "java/util/ArrayList" "size" "I" (.int (1 : Int32)) ∧ AV Z h es (.object "java/lang/Object") [(.ref r0), .null, .null, .null, .null, .null, .null, .null, .null, .null] ∧ CM Z h es "java/lang/Object" ∧ AV Z h r0 .int [(.int (0 : Int32))] ∧ Exa Z h r0 "[I") := by
  refine Con.of (plainFor_of_name pn_com_example_collectary_collectary_broker_Grid) ?_
  intro p e s m below meth c T X hx hby hml hown hnm hret eT hZ hsh Φ fin
  replace hown : s.vm.findClass "com/example/collectary/collectary/broker/Grid" = some m.cls := hown
  replace hml : 3 = c.maxLocals := hml.symm
  refine own_step (fun tq kq => castTop (ef_rmGI m g p1 p2) kq) ?_
  have N0 := Fr.nil n0
  have K0 : Keep h0 h0 [g] := Keep.refl h0 [g]
  have ne_aW_g : aW ≠ g := Nat.ne_of_lt (Nat.lt_of_lt_of_le oW n0_g)
  have ne_aC_g : aC ≠ g := Nat.ne_of_lt (Nat.lt_of_lt_of_le oC n0_g)
  have ne_aD_g : aD ≠ g := Nat.ne_of_lt (Nat.lt_of_lt_of_le oD n0_g)
  refine own_aloadN X hx hby d_14_1__0 rfl rfl (pc' := 1) rfl ?_
  obtain ⟨T1, X1, e1, st1⟩ := initO X hx hZ hown (own_w hw 14 rfl) (own_w hw 15 rfl) (own_w hw 16 rfl) eT (g := (mkF m 1 #[.val (.ref g), .val (.int p1), .val (.int p2)] [(.ref g)])) rfl hml rfl (hb hby d_14_1__1) (by decide) (W := 0) (by show 2 * 0 + _ ≤ _; exact Nat.le_of_eq rfl) (by decide)
  refine own_step st1 ?_
  show GoP p e below Φ (T1.setTop (mkF m 4 #[.val (.ref g), .val (.int p1), .val (.int p2)] []))
  refine own_aloadN X1 hx hby d_14_1__4 rfl rfl (pc' := 5) rfl ?_
  refine own_iconst X1 hx hby d_14_1__5 (v := (2 : Int32)) rfl (pc' := 6) rfl ?_
  refine own_newI X1 hx hby hZ (own_w hw 17 rfl) e1 (by decide) 2 (by decide) (by decide) (by decide) (by decide) d_14_1__6 (pc' := 8) rfl ?_
  intro T2 h2 b2 X2 e2 E2 g2 V2 I2 A2
  have ne_aW_b2 : aW ≠ b2 := Nat.ne_of_lt (g2 ▸ EW.lt)
  have ne_aC_b2 : aC ≠ b2 := Nat.ne_of_lt (g2 ▸ EC.lt)
  have ne_g_b2 : g ≠ b2 := Nat.ne_of_lt (g2 ▸ E.lt)
  have ne_aD_b2 : aD ≠ b2 := Nat.ne_of_lt (g2 ▸ VD.lt)
  have E3_aW := EW.ext E2
  have E4_aC := EC.ext E2
  have F5_ordinal := OW.ext E2
  have F6_ordinal := OC.ext E2
  have S7_WORD := SW.ext E2
  have S8_COLLECTION := SC.ext E2
  have E9_g := E.ext E2
  have S10_DEFAULTCAPACITY_EMPTY_ELEMENTDATA := S.ext E2
  have V11_aD := VD.ext E2
  have F12_ids := F_ids.ext E2
  have F13_cuts := F_cuts.ext E2
  have F14_rows := F_rows.ext E2
  have Z2 : n0 ≤ h2.size := Nat.le_trans Z0 E2.1
  have n0_b2 : n0 ≤ b2 := g2 ▸ Z0
  have sz_b2 : h0.size ≤ b2 := g2 ▸ K0.1
  have K2 : Keep h0 h2 [g] := K0.ext E2
  replace V2 : AV Z h2 b2 .int [(.int (0 : Int32)), (.int (0 : Int32))] := V2
  show GoP p e below Φ (T2.setTop (mkF m 8 #[.val (.ref g), .val (.int p1), .val (.int p2)] [(.ref b2), (.ref g)]))
  refine own_putF X2 hx hby hZ hown (host := "") (Or.inl (own_w hw 18 rfl)) Via.refl e2 F12_ids E9_g (Or.inr ⟨(own_w hw 19 rfl), rfl, hnm⟩) (own_w hw 8 rfl) (ty := (.array .int)) (by decide) rfl rfl d_14_1__8 (pc' := 11) rfl ?_
  intro T15 h15 X15 e15 W15
  have E16_aW := E3_aW.wr W15
  have E17_aC := E4_aC.wr W15
  have F18_ordinal := F5_ordinal.other W15 (Or.inl ne_aW_g)
  have F19_ordinal := F6_ordinal.other W15 (Or.inl ne_aC_g)
  have S20_WORD := S7_WORD.wr W15
  have S21_COLLECTION := S8_COLLECTION.wr W15
  have E22_g := E9_g.wr W15
  have S23_DEFAULTCAPACITY_EMPTY_ELEMENTDATA := S10_DEFAULTCAPACITY_EMPTY_ELEMENTDATA.wr W15
  have V24_aD := V11_aD.other W15 ne_aD_g
  have F25_ids := F12_ids.same W15
  have F26_cuts := F13_cuts.other W15 (Or.inr (slot_ne (Or.inr (own_w hw 24 rfl)) (Or.inr (own_w hw 19 rfl)) (by decide) (t := (.array (.array .int))) (t' := (.array .int)) (by decide) (by decide)))
  have F27_rows := F14_rows.other W15 (Or.inr (slot_ne (Or.inr (own_w hw 50 rfl)) (Or.inr (own_w hw 19 rfl)) (by decide) (t := (.object "java/util/List")) (t' := (.array .int)) (by decide) (by decide)))
  have V28_b2 := V2.other W15 (Ne.symm ne_g_b2)
  have E29_b2 := A2.wr W15
  have Z15 : n0 ≤ h15.size := by rw [W15.size]; exact Z2
  have N15 := Fr.snoc X15 N0 n0_g
  have K15 : Keep h0 h15 [g] := K2.wr W15 (Or.inl (List.mem_of_getElem? (i := 0) rfl))
  refine own_aloadN X15 hx hby d_14_1__11 rfl rfl (pc' := 12) rfl ?_
  refine own_iconst X15 hx hby d_14_1__12 (v := (2 : Int32)) rfl (pc' := 13) rfl ?_
  refine own_newRA X15 hx hby hZ hown (ty := .int) rfl (own_w hw 20 rfl) (own_w hw 21 rfl) e15 (by decide) 2 (by decide) (by decide) (by decide) (by decide) d_14_1__13 (pc' := 16) rfl ?_
  intro T30 h30 b30 X30 e30 E30 g30 V30 Y30
  have ne_aW_b30 : aW ≠ b30 := Nat.ne_of_lt (g30 ▸ E16_aW.lt)
  have ne_aC_b30 : aC ≠ b30 := Nat.ne_of_lt (g30 ▸ E17_aC.lt)
  have ne_g_b30 : g ≠ b30 := Nat.ne_of_lt (g30 ▸ E22_g.lt)
  have ne_aD_b30 : aD ≠ b30 := Nat.ne_of_lt (g30 ▸ V24_aD.lt)
  have ne_b2_b30 : b2 ≠ b30 := Nat.ne_of_lt (g30 ▸ V28_b2.lt)
  have E31_aW := E16_aW.ext E30
  have E32_aC := E17_aC.ext E30
  have F33_ordinal := F18_ordinal.ext E30
  have F34_ordinal := F19_ordinal.ext E30
  have S35_WORD := S20_WORD.ext E30
  have S36_COLLECTION := S21_COLLECTION.ext E30
  have E37_g := E22_g.ext E30
  have S38_DEFAULTCAPACITY_EMPTY_ELEMENTDATA := S23_DEFAULTCAPACITY_EMPTY_ELEMENTDATA.ext E30
  have V39_aD := V24_aD.ext E30
  have F40_ids := F25_ids.ext E30
  have F41_cuts := F26_cuts.ext E30
  have F42_rows := F27_rows.ext E30
  have V43_b2 := V28_b2.ext E30
  have E44_b2 := E29_b2.ext E30
  have Z30 : n0 ≤ h30.size := Nat.le_trans Z15 E30.1
  have n0_b30 : n0 ≤ b30 := g30 ▸ Z15
  have sz_b30 : h0.size ≤ b30 := g30 ▸ K15.1
  have K30 : Keep h0 h30 [g] := K15.ext E30
  replace V30 : AV Z h30 b30 (.array .int) [.null, .null] := V30
  show GoP p e below Φ (T30.setTop (mkF m 16 #[.val (.ref g), .val (.int p1), .val (.int p2)] [(.ref b30), (.ref g)]))
  refine own_dup X30 hx hby d_14_1__16 rfl (pc' := 17) rfl ?_
  refine own_iconst X30 hx hby d_14_1__17 (v := (0 : Int32)) rfl (pc' := 18) rfl ?_
  refine own_iconst X30 hx hby d_14_1__18 (v := (0 : Int32)) rfl (pc' := 19) rfl ?_
  refine own_newI X30 hx hby hZ (own_w hw 17 rfl) e30 (by decide) 0 (by decide) (by decide) (by decide) (by decide) d_14_1__19 (pc' := 21) rfl ?_
  intro T45 h45 b45 X45 e45 E45 g45 V45 I45 A45
  have ne_aW_b45 : aW ≠ b45 := Nat.ne_of_lt (g45 ▸ E31_aW.lt)
  have ne_aC_b45 : aC ≠ b45 := Nat.ne_of_lt (g45 ▸ E32_aC.lt)
  have ne_g_b45 : g ≠ b45 := Nat.ne_of_lt (g45 ▸ E37_g.lt)
  have ne_aD_b45 : aD ≠ b45 := Nat.ne_of_lt (g45 ▸ V39_aD.lt)
  have ne_b2_b45 : b2 ≠ b45 := Nat.ne_of_lt (g45 ▸ V43_b2.lt)
  have ne_b30_b45 : b30 ≠ b45 := Nat.ne_of_lt (g45 ▸ V30.lt)
  have E46_aW := E31_aW.ext E45
  have E47_aC := E32_aC.ext E45
  have F48_ordinal := F33_ordinal.ext E45
  have F49_ordinal := F34_ordinal.ext E45
  have S50_WORD := S35_WORD.ext E45
  have S51_COLLECTION := S36_COLLECTION.ext E45
  have E52_g := E37_g.ext E45
  have S53_DEFAULTCAPACITY_EMPTY_ELEMENTDATA := S38_DEFAULTCAPACITY_EMPTY_ELEMENTDATA.ext E45
  have V54_aD := V39_aD.ext E45
  have F55_ids := F40_ids.ext E45
  have F56_cuts := F41_cuts.ext E45
  have F57_rows := F42_rows.ext E45
  have V58_b2 := V43_b2.ext E45
  have E59_b2 := E44_b2.ext E45
  have V60_b30 := V30.ext E45
  have Y61_b30 := Y30.ext E45
  have Z45 : n0 ≤ h45.size := Nat.le_trans Z30 E45.1
  have n0_b45 : n0 ≤ b45 := g45 ▸ Z30
  have sz_b45 : h0.size ≤ b45 := g45 ▸ K30.1
  have K45 : Keep h0 h45 [g] := K30.ext E45
  replace V45 : AV Z h45 b45 .int [] := V45
  show GoP p e below Φ (T45.setTop (mkF m 21 #[.val (.ref g), .val (.int p1), .val (.int p2)] [(.ref b45), (.int (0 : Int32)), (.ref b30), (.ref b30), (.ref g)]))
  refine own_aastore X45 hx hby hZ e45 V60_b30 rfl (own_sto V60_b30 Y61_b30 (Ins.self A45)) (by decide) (Nat.le_of_ble_eq_true rfl) d_14_1__21 (pc' := 22) rfl ?_
  intro T62 h62 X62 e62 W62 V62
  replace V62 : AV Z h62 b30 (.array .int) [(.ref b45), .null] := V62
  have E63_aW := E46_aW.wr W62
  have E64_aC := E47_aC.wr W62
  have F65_ordinal := F48_ordinal.other W62 (Or.inl ne_aW_b30)
  have F66_ordinal := F49_ordinal.other W62 (Or.inl ne_aC_b30)
  have S67_WORD := S50_WORD.wr W62
  have S68_COLLECTION := S51_COLLECTION.wr W62
  have E69_g := E52_g.wr W62
  have S70_DEFAULTCAPACITY_EMPTY_ELEMENTDATA := S53_DEFAULTCAPACITY_EMPTY_ELEMENTDATA.wr W62
  have V71_aD := V54_aD.other W62 ne_aD_b30
  have F72_ids := F55_ids.other W62 (Or.inl ne_g_b30)
  have F73_cuts := F56_cuts.other W62 (Or.inl ne_g_b30)
  have F74_rows := F57_rows.other W62 (Or.inl ne_g_b30)
  have V75_b2 := V58_b2.other W62 ne_b2_b30
  have E76_b2 := E59_b2.wr W62
  have Y78_b30 := Y61_b30.wr W62
  have V79_b45 := V45.other W62 (Ne.symm ne_b30_b45)
  have E80_b45 := A45.wr W62
  have Z62 : n0 ≤ h62.size := by rw [W62.size]; exact Z45
  have N62 := Fr.snoc X62 N15 n0_b30
  have K62 : Keep h0 h62 [g] := K45.wr W62 (Or.inr sz_b30)
  refine own_dup X62 hx hby d_14_1__22 rfl (pc' := 23) rfl ?_
  refine own_iconst X62 hx hby d_14_1__23 (v := (1 : Int32)) rfl (pc' := 24) rfl ?_
  refine own_iconst X62 hx hby d_14_1__24 (v := (0 : Int32)) rfl (pc' := 25) rfl ?_
  refine own_newI X62 hx hby hZ (own_w hw 17 rfl) e62 (by decide) 0 (by decide) (by decide) (by decide) (by decide) d_14_1__25 (pc' := 27) rfl ?_
  intro T81 h81 b81 X81 e81 E81 g81 V81 I81 A81
  have ne_aW_b81 : aW ≠ b81 := Nat.ne_of_lt (g81 ▸ E63_aW.lt)
  have ne_aC_b81 : aC ≠ b81 := Nat.ne_of_lt (g81 ▸ E64_aC.lt)
  have ne_g_b81 : g ≠ b81 := Nat.ne_of_lt (g81 ▸ E69_g.lt)
  have ne_aD_b81 : aD ≠ b81 := Nat.ne_of_lt (g81 ▸ V71_aD.lt)
  have ne_b2_b81 : b2 ≠ b81 := Nat.ne_of_lt (g81 ▸ V75_b2.lt)
  have ne_b30_b81 : b30 ≠ b81 := Nat.ne_of_lt (g81 ▸ V62.lt)
  have ne_b45_b81 : b45 ≠ b81 := Nat.ne_of_lt (g81 ▸ V79_b45.lt)
  have E82_aW := E63_aW.ext E81
  have E83_aC := E64_aC.ext E81
  have F84_ordinal := F65_ordinal.ext E81
  have F85_ordinal := F66_ordinal.ext E81
  have S86_WORD := S67_WORD.ext E81
  have S87_COLLECTION := S68_COLLECTION.ext E81
  have E88_g := E69_g.ext E81
  have S89_DEFAULTCAPACITY_EMPTY_ELEMENTDATA := S70_DEFAULTCAPACITY_EMPTY_ELEMENTDATA.ext E81
  have V90_aD := V71_aD.ext E81
  have F91_ids := F72_ids.ext E81
  have F92_cuts := F73_cuts.ext E81
  have F93_rows := F74_rows.ext E81
  have V94_b2 := V75_b2.ext E81
  have E95_b2 := E76_b2.ext E81
  have V96_b30 := V62.ext E81
  have Y97_b30 := Y78_b30.ext E81
  have V98_b45 := V79_b45.ext E81
  have E99_b45 := E80_b45.ext E81
  have Z81 : n0 ≤ h81.size := Nat.le_trans Z62 E81.1
  have n0_b81 : n0 ≤ b81 := g81 ▸ Z62
  have sz_b81 : h0.size ≤ b81 := g81 ▸ K62.1
  have K81 : Keep h0 h81 [g] := K62.ext E81
  replace V81 : AV Z h81 b81 .int [] := V81
  show GoP p e below Φ (T81.setTop (mkF m 27 #[.val (.ref g), .val (.int p1), .val (.int p2)] [(.ref b81), (.int (1 : Int32)), (.ref b30), (.ref b30), (.ref g)]))
  refine own_aastore X81 hx hby hZ e81 V96_b30 rfl (own_sto V96_b30 Y97_b30 (Ins.self A81)) (by decide) (Nat.le_of_ble_eq_true rfl) d_14_1__27 (pc' := 28) rfl ?_
  intro T100 h100 X100 e100 W100 V100
  replace V100 : AV Z h100 b30 (.array .int) [(.ref b45), (.ref b81)] := V100
  have E101_aW := E82_aW.wr W100
  have E102_aC := E83_aC.wr W100
  have F103_ordinal := F84_ordinal.other W100 (Or.inl ne_aW_b30)
  have F104_ordinal := F85_ordinal.other W100 (Or.inl ne_aC_b30)
  have S105_WORD := S86_WORD.wr W100
  have S106_COLLECTION := S87_COLLECTION.wr W100
  have E107_g := E88_g.wr W100
  have S108_DEFAULTCAPACITY_EMPTY_ELEMENTDATA := S89_DEFAULTCAPACITY_EMPTY_ELEMENTDATA.wr W100
  have V109_aD := V90_aD.other W100 ne_aD_b30
  have F110_ids := F91_ids.other W100 (Or.inl ne_g_b30)
  have F111_cuts := F92_cuts.other W100 (Or.inl ne_g_b30)
  have F112_rows := F93_rows.other W100 (Or.inl ne_g_b30)
  have V113_b2 := V94_b2.other W100 ne_b2_b30
  have E114_b2 := E95_b2.wr W100
  have Y116_b30 := Y97_b30.wr W100
  have V117_b45 := V98_b45.other W100 (Ne.symm ne_b30_b45)
  have E118_b45 := E99_b45.wr W100
  have V119_b81 := V81.other W100 (Ne.symm ne_b30_b81)
  have E120_b81 := A81.wr W100
  have Z100 : n0 ≤ h100.size := by rw [W100.size]; exact Z81
  have N100 := Fr.snoc X100 N62 n0_b30
  have K100 : Keep h0 h100 [g] := K81.wr W100 (Or.inr sz_b30)
  refine own_putF X100 hx hby hZ hown (host := "") (Or.inl (own_w hw 23 rfl)) Via.refl e100 F111_cuts E107_g (Or.inr ⟨(own_w hw 24 rfl), rfl, hnm⟩) (own_w hw 8 rfl) (ty := (.array (.array .int))) (by decide) rfl rfl d_14_1__28 (pc' := 31) rfl ?_
  intro T121 h121 X121 e121 W121
  have E122_aW := E101_aW.wr W121
  have E123_aC := E102_aC.wr W121
  have F124_ordinal := F103_ordinal.other W121 (Or.inl ne_aW_g)
  have F125_ordinal := F104_ordinal.other W121 (Or.inl ne_aC_g)
  have S126_WORD := S105_WORD.wr W121
  have S127_COLLECTION := S106_COLLECTION.wr W121
  have E128_g := E107_g.wr W121
  have S129_DEFAULTCAPACITY_EMPTY_ELEMENTDATA := S108_DEFAULTCAPACITY_EMPTY_ELEMENTDATA.wr W121
  have V130_aD := V109_aD.other W121 ne_aD_g
  have F131_ids := F110_ids.other W121 (Or.inr (slot_ne (Or.inr (own_w hw 19 rfl)) (Or.inr (own_w hw 24 rfl)) (by decide) (t := (.array .int)) (t' := (.array (.array .int))) (by decide) (by decide)))
  have F132_cuts := F111_cuts.same W121
  have F133_rows := F112_rows.other W121 (Or.inr (slot_ne (Or.inr (own_w hw 50 rfl)) (Or.inr (own_w hw 24 rfl)) (by decide) (t := (.object "java/util/List")) (t' := (.array (.array .int))) (by decide) (by decide)))
  have V134_b2 := V113_b2.other W121 (Ne.symm ne_g_b2)
  have E135_b2 := E114_b2.wr W121
  have V136_b30 := V100.other W121 (Ne.symm ne_g_b30)
  have Y137_b30 := Y116_b30.wr W121
  have V138_b45 := V117_b45.other W121 (Ne.symm ne_g_b45)
  have E139_b45 := E118_b45.wr W121
  have V140_b81 := V119_b81.other W121 (Ne.symm ne_g_b81)
  have E141_b81 := E120_b81.wr W121
  have Z121 : n0 ≤ h121.size := by rw [W121.size]; exact Z100
  have N121 := Fr.snoc X121 N100 n0_g
  have K121 : Keep h0 h121 [g] := K100.wr W121 (Or.inl (List.mem_of_getElem? (i := 0) rfl))
  refine own_aloadN X121 hx hby d_14_1__31 rfl rfl (pc' := 32) rfl ?_
  obtain ⟨T142, h142, X142, e142, E142, A142, D142, -, st142⟩ := newO X121 hx hZ hown (own_w hw 25 rfl) (own_w hw 26 rfl) (own_w hw 27 rfl) e121 (g := (mkF m 32 #[.val (.ref g), .val (.int p1), .val (.int p2)] [(.ref g)])) rfl (hb hby d_14_1__32) (by decide) (by decide)
  obtain ⟨b142, g142⟩ : ∃ z, z = h121.size := ⟨_, rfl⟩
  have ne_aW_b142 : aW ≠ b142 := Nat.ne_of_lt (g142 ▸ E122_aW.lt)
  have ne_aC_b142 : aC ≠ b142 := Nat.ne_of_lt (g142 ▸ E123_aC.lt)
  have ne_g_b142 : g ≠ b142 := Nat.ne_of_lt (g142 ▸ E128_g.lt)
  have ne_aD_b142 : aD ≠ b142 := Nat.ne_of_lt (g142 ▸ V130_aD.lt)
  have ne_b2_b142 : b2 ≠ b142 := Nat.ne_of_lt (g142 ▸ V134_b2.lt)
  have ne_b30_b142 : b30 ≠ b142 := Nat.ne_of_lt (g142 ▸ V136_b30.lt)
  have ne_b45_b142 : b45 ≠ b142 := Nat.ne_of_lt (g142 ▸ V138_b45.lt)
  have ne_b81_b142 : b81 ≠ b142 := Nat.ne_of_lt (g142 ▸ V140_b81.lt)
  have E143_aW := E122_aW.ext E142
  have E144_aC := E123_aC.ext E142
  have F145_ordinal := F124_ordinal.ext E142
  have F146_ordinal := F125_ordinal.ext E142
  have S147_WORD := S126_WORD.ext E142
  have S148_COLLECTION := S127_COLLECTION.ext E142
  have E149_g := E128_g.ext E142
  have S150_DEFAULTCAPACITY_EMPTY_ELEMENTDATA := S129_DEFAULTCAPACITY_EMPTY_ELEMENTDATA.ext E142
  have V151_aD := V130_aD.ext E142
  have F152_ids := F131_ids.ext E142
  have F153_cuts := F132_cuts.ext E142
  have F154_rows := F133_rows.ext E142
  have V155_b2 := V134_b2.ext E142
  have E156_b2 := E135_b2.ext E142
  have V157_b30 := V136_b30.ext E142
  have Y158_b30 := Y137_b30.ext E142
  have V159_b45 := V138_b45.ext E142
  have E160_b45 := E139_b45.ext E142
  have V161_b81 := V140_b81.ext E142
  have E162_b81 := E141_b81.ext E142
  have Z142 : n0 ≤ h142.size := Nat.le_trans Z121 E142.1
  have n0_b142 : n0 ≤ b142 := g142 ▸ Z121
  have sz_b142 : h0.size ≤ b142 := g142 ▸ K121.1
  have K142 : Keep h0 h142 [g] := K121.ext E142
  rw [← g142] at A142 D142 st142
  refine own_step st142 ?_
  have F142_modCount : Fld Z h142 b142 "java/util/AbstractList" "modCount" "I" (.int (0 : Int32)) := D142 (Or.inl (own_w hw 45 rfl)) (ty := .int) (by decide)
  have F142_elementData : Fld Z h142 b142 "java/util/ArrayList" "elementData" "[Ljava/lang/Object;" .null := D142 (Or.inl (own_w hw 48 rfl)) (ty := (.array (.object "java/lang/Object"))) (by decide)
  have F142_size : Fld Z h142 b142 "java/util/ArrayList" "size" "I" (.int (0 : Int32)) := D142 (Or.inl (own_w hw 74 rfl)) (ty := .int) (by decide)
  show GoP p e below Φ (T142.setTop (mkF m 35 #[.val (.ref g), .val (.int p1), .val (.int p2)] [(.ref b142), (.ref g)]))
  refine own_dup X142 hx hby d_14_1__35 rfl (pc' := 36) rfl ?_
  refine own_callI X142 hx hby hZ (by exact hml) hown rfl (own_w hw 28 rfl) (own_w hw 29 rfl) (own_w hw 27 rfl) (own_w hw 30 rfl) (by decide) e142 2 (by decide) (by decide) (by decide) (by decide) (argsL := []) (rest := [(.ref b142), (.ref g)]) (lenOf pd___V rfl) rfl (Nat.le_of_eq rfl) (rmAI l Z a0 hw b142 aD n0 h142 n0_b142 A142 F142_modCount F142_elementData F142_size S150_DEFAULTCAPACITY_EMPTY_ELEMENTDATA) d_14_1__36 (pc' := 39) rfl ?_
  intro v163 T163 L163 X163 hQ163
  obtain ⟨rfl, Nq163, K163, E163, G1163, G2163, G3163, S163⟩ := hQ163
  have E164_aW := E143_aW.keep K163
  have E165_aC := E144_aC.keep K163
  have F166_ordinal := F145_ordinal.keep K163 (ninS ne_aW_b142 nin0)
  have F167_ordinal := F146_ordinal.keep K163 (ninS ne_aC_b142 nin0)
  have S168_WORD := own_stakeep S147_WORD K163 (allS (own_plainE A142) all0)
  have S169_COLLECTION := own_stakeep S148_COLLECTION K163 (allS (own_plainE A142) all0)
  have E170_g := E149_g.keep K163
  have V171_aD := V151_aD.keep K163 (ninS ne_aD_b142 nin0)
  have F172_ids := F152_ids.keep K163 (ninS ne_g_b142 nin0)
  have F173_cuts := F153_cuts.keep K163 (ninS ne_g_b142 nin0)
  have F174_rows := F154_rows.keep K163 (ninS ne_g_b142 nin0)
  have V175_b2 := V155_b2.keep K163 (ninS ne_b2_b142 nin0)
  have E176_b2 := E156_b2.keep K163
  have V177_b30 := V157_b30.keep K163 (ninS ne_b30_b142 nin0)
  have Y178_b30 := Y158_b30.keep K163
  have V179_b45 := V159_b45.keep K163 (ninS ne_b45_b142 nin0)
  have E180_b45 := E160_b45.keep K163
  have V181_b81 := V161_b81.keep K163 (ninS ne_b81_b142 nin0)
  have E182_b81 := E162_b81.keep K163
  have N163 := Fr.app N121 Nq163
  have Z163 : n0 ≤ T163.heap.size := Nat.le_trans Z142 K163.1
  have KK163 : Keep h0 T163.heap [g] := K142.trans K163 (allS (Or.inr sz_b142) all0)
  show GoP p e below Φ (T163.setTop (mkF m 39 #[.val (.ref g), .val (.int p1), .val (.int p2)] [(.ref b142), (.ref g)]))
  refine own_putF X163 hx hby hZ hown (host := "") (Or.inl (own_w hw 49 rfl)) Via.refl rfl F174_rows E170_g (Or.inr ⟨(own_w hw 50 rfl), rfl, hnm⟩) (own_w hw 8 rfl) (ty := (.object "java/util/List")) (by decide) rfl rfl d_14_1__39 (pc' := 42) rfl ?_
  intro T183 h183 X183 e183 W183
  have E184_aW := E164_aW.wr W183
  have E185_aC := E165_aC.wr W183
  have F186_ordinal := F166_ordinal.other W183 (Or.inl ne_aW_g)
  have F187_ordinal := F167_ordinal.other W183 (Or.inl ne_aC_g)
  have S188_WORD := S168_WORD.wr W183
  have S189_COLLECTION := S169_COLLECTION.wr W183
  have E190_g := E170_g.wr W183
  have S191_DEFAULTCAPACITY_EMPTY_ELEMENTDATA := S163.wr W183
  have V192_aD := V171_aD.other W183 ne_aD_g
  have F193_ids := F172_ids.other W183 (Or.inr (slot_ne (Or.inr (own_w hw 19 rfl)) (Or.inr (own_w hw 50 rfl)) (by decide) (t := (.array .int)) (t' := (.object "java/util/List")) (by decide) (by decide)))
  have F194_cuts := F173_cuts.other W183 (Or.inr (slot_ne (Or.inr (own_w hw 24 rfl)) (Or.inr (own_w hw 50 rfl)) (by decide) (t := (.array (.array .int))) (t' := (.object "java/util/List")) (by decide) (by decide)))
  have F195_rows := F174_rows.same W183
  have V196_b2 := V175_b2.other W183 (Ne.symm ne_g_b2)
  have E197_b2 := E176_b2.wr W183
  have V198_b30 := V177_b30.other W183 (Ne.symm ne_g_b30)
  have Y199_b30 := Y178_b30.wr W183
  have V200_b45 := V179_b45.other W183 (Ne.symm ne_g_b45)
  have E201_b45 := E180_b45.wr W183
  have V202_b81 := V181_b81.other W183 (Ne.symm ne_g_b81)
  have E203_b81 := E182_b81.wr W183
  have E204_b142 := E163.wr W183
  have F205_modCount := G1163.other W183 (Or.inl (Ne.symm ne_g_b142))
  have F206_elementData := G2163.other W183 (Or.inl (Ne.symm ne_g_b142))
  have F207_size := G3163.other W183 (Or.inl (Ne.symm ne_g_b142))
  have Z183 : n0 ≤ h183.size := by rw [W183.size]; exact Z163
  have N183 := Fr.snoc X183 N163 n0_g
  have K183 : Keep h0 h183 [g] := KK163.wr W183 (Or.inl (List.mem_of_getElem? (i := 0) rfl))
  refine own_aloadN X183 hx hby d_14_1__42 rfl rfl (pc' := 43) rfl ?_
  refine own_getF X183 hx hby hZ hown (host := "") (Or.inl (own_w hw 18 rfl)) Via.refl e183 F193_ids d_14_1__43 (pc' := 46) rfl ?_
  intro T208 X208 e208
  refine own_getS X208 hx hby hZ hown (host := "") (Or.inl (own_w hw 51 rfl)) Via.refl e208 S188_WORD d_14_1__46 (pc' := 49) rfl ?_
  intro T209 X209 e209
  refine own_callU X209 hx hby hZ (by exact hml) hown (x0 := (⟨"com/example/collectary/collectary/broker/Grid$Axis", "ordinal", "()I"⟩ : MethodName)) (y := (⟨"java/lang/Enum", "ordinal", "()I"⟩ : MethodName)) (own_w hw 52 rfl) (own_w hw 53 rfl) (own_w hw 54 rfl) (own_w hw 56 rfl) (own_w hw 55 rfl) (own_w hw 57 rfl) (own_w hw 58 rfl) (by decide) e209 1 (by decide) (by decide) (by decide) (by decide) (argsL := []) (rest := [(.ref b2)]) (lenOf pd___I rfl) rfl (Nat.le_of_eq rfl) E184_aW (rmO l Z a0 hw aW (0 : Int32) h183 F186_ordinal) d_14_1__49 (pc' := 52) rfl ?_
  intro v210 T210 L210 X210 hQ210
  obtain ⟨rfl, rfl, e210⟩ := hQ210
  rw [List.append_nil] at X210
  replace e210 : T210.heap = h183 := e210
  show GoP p e below Φ (T210.setTop (mkF m 52 #[.val (.ref g), .val (.int p1), .val (.int p2)] [(.int (0 : Int32)), (.ref b2)]))
  refine own_iloadN X210 hx hby d_14_1__52 rfl (pc' := 53) rfl ?_
  refine own_iastore X210 hx hby hZ e210 V196_b2 (by decide) (Nat.le_of_ble_eq_true rfl) d_14_1__53 (pc' := 54) rfl ?_
  intro T211 h211 X211 e211 W211 V211
  replace V211 : AV Z h211 b2 .int [(.int p1), (.int (0 : Int32))] := V211
  have E212_aW := E184_aW.wr W211
  have E213_aC := E185_aC.wr W211
  have F214_ordinal := F186_ordinal.other W211 (Or.inl ne_aW_b2)
  have F215_ordinal := F187_ordinal.other W211 (Or.inl ne_aC_b2)
  have S216_WORD := S188_WORD.wr W211
  have S217_COLLECTION := S189_COLLECTION.wr W211
  have E218_g := E190_g.wr W211
  have S219_DEFAULTCAPACITY_EMPTY_ELEMENTDATA := S191_DEFAULTCAPACITY_EMPTY_ELEMENTDATA.wr W211
  have V220_aD := V192_aD.other W211 ne_aD_b2
  have F221_ids := F193_ids.other W211 (Or.inl ne_g_b2)
  have F222_cuts := F194_cuts.other W211 (Or.inl ne_g_b2)
  have F223_rows := F195_rows.other W211 (Or.inl ne_g_b2)
  have E225_b2 := E197_b2.wr W211
  have V226_b30 := V198_b30.other W211 (Ne.symm ne_b2_b30)
  have Y227_b30 := Y199_b30.wr W211
  have V228_b45 := V200_b45.other W211 (Ne.symm ne_b2_b45)
  have E229_b45 := E201_b45.wr W211
  have V230_b81 := V202_b81.other W211 (Ne.symm ne_b2_b81)
  have E231_b81 := E203_b81.wr W211
  have E232_b142 := E204_b142.wr W211
  have F233_modCount := F205_modCount.other W211 (Or.inl (Ne.symm ne_b2_b142))
  have F234_elementData := F206_elementData.other W211 (Or.inl (Ne.symm ne_b2_b142))
  have F235_size := F207_size.other W211 (Or.inl (Ne.symm ne_b2_b142))
  have Z211 : n0 ≤ h211.size := by rw [W211.size]; exact Z183
  have N211 := Fr.snoc X211 N183 n0_b2
  have K211 : Keep h0 h211 [g] := K183.wr W211 (Or.inr sz_b2)
  refine own_aloadN X211 hx hby d_14_1__54 rfl rfl (pc' := 55) rfl ?_
  refine own_getF X211 hx hby hZ hown (host := "") (Or.inl (own_w hw 18 rfl)) Via.refl e211 F221_ids d_14_1__55 (pc' := 58) rfl ?_
  intro T236 X236 e236
  refine own_getS X236 hx hby hZ hown (host := "") (Or.inl (own_w hw 61 rfl)) Via.refl e236 S217_COLLECTION d_14_1__58 (pc' := 61) rfl ?_
  intro T237 X237 e237
  refine own_callU X237 hx hby hZ (by exact hml) hown (x0 := (⟨"com/example/collectary/collectary/broker/Grid$Axis", "ordinal", "()I"⟩ : MethodName)) (y := (⟨"java/lang/Enum", "ordinal", "()I"⟩ : MethodName)) (own_w hw 52 rfl) (own_w hw 53 rfl) (own_w hw 54 rfl) (own_w hw 56 rfl) (own_w hw 55 rfl) (own_w hw 57 rfl) (own_w hw 58 rfl) (by decide) e237 1 (by decide) (by decide) (by decide) (by decide) (argsL := []) (rest := [(.ref b2)]) (lenOf pd___I rfl) rfl (Nat.le_of_eq rfl) E213_aC (rmO l Z a0 hw aC (1 : Int32) h211 F215_ordinal) d_14_1__61 (pc' := 64) rfl ?_
  intro v238 T238 L238 X238 hQ238
  obtain ⟨rfl, rfl, e238⟩ := hQ238
  rw [List.append_nil] at X238
  replace e238 : T238.heap = h211 := e238
  show GoP p e below Φ (T238.setTop (mkF m 64 #[.val (.ref g), .val (.int p1), .val (.int p2)] [(.int (1 : Int32)), (.ref b2)]))
  refine own_iloadN X238 hx hby d_14_1__64 rfl (pc' := 65) rfl ?_
  refine own_iastore X238 hx hby hZ e238 V211 (by decide) (Nat.le_of_ble_eq_true rfl) d_14_1__65 (pc' := 66) rfl ?_
  intro T239 h239 X239 e239 W239 V239
  replace V239 : AV Z h239 b2 .int [(.int p1), (.int p2)] := V239
  have E240_aW := E212_aW.wr W239
  have E241_aC := E213_aC.wr W239
  have F242_ordinal := F214_ordinal.other W239 (Or.inl ne_aW_b2)
  have F243_ordinal := F215_ordinal.other W239 (Or.inl ne_aC_b2)
  have S244_WORD := S216_WORD.wr W239
  have S245_COLLECTION := S217_COLLECTION.wr W239
  have E246_g := E218_g.wr W239
  have S247_DEFAULTCAPACITY_EMPTY_ELEMENTDATA := S219_DEFAULTCAPACITY_EMPTY_ELEMENTDATA.wr W239
  have V248_aD := V220_aD.other W239 ne_aD_b2
  have F249_ids := F221_ids.other W239 (Or.inl ne_g_b2)
  have F250_cuts := F222_cuts.other W239 (Or.inl ne_g_b2)
  have F251_rows := F223_rows.other W239 (Or.inl ne_g_b2)
  have E253_b2 := E225_b2.wr W239
  have V254_b30 := V226_b30.other W239 (Ne.symm ne_b2_b30)
  have Y255_b30 := Y227_b30.wr W239
  have V256_b45 := V228_b45.other W239 (Ne.symm ne_b2_b45)
  have E257_b45 := E229_b45.wr W239
  have V258_b81 := V230_b81.other W239 (Ne.symm ne_b2_b81)
  have E259_b81 := E231_b81.wr W239
  have E260_b142 := E232_b142.wr W239
  have F261_modCount := F233_modCount.other W239 (Or.inl (Ne.symm ne_b2_b142))
  have F262_elementData := F234_elementData.other W239 (Or.inl (Ne.symm ne_b2_b142))
  have F263_size := F235_size.other W239 (Or.inl (Ne.symm ne_b2_b142))
  have Z239 : n0 ≤ h239.size := by rw [W239.size]; exact Z211
  have N239 := Fr.snoc X239 N211 n0_b2
  have K239 : Keep h0 h239 [g] := K211.wr W239 (Or.inr sz_b2)
  refine own_aloadN X239 hx hby d_14_1__66 rfl rfl (pc' := 67) rfl ?_
  refine own_getF X239 hx hby hZ hown (host := "") (Or.inl (own_w hw 49 rfl)) Via.refl e239 F251_rows d_14_1__67 (pc' := 70) rfl ?_
  intro T264 X264 e264
  refine own_iconst X264 hx hby d_14_1__70 (v := (1 : Int32)) rfl (pc' := 71) rfl ?_
  refine own_newI X264 hx hby hZ (own_w hw 17 rfl) e264 (by decide) 1 (by decide) (by decide) (by decide) (by decide) d_14_1__71 (pc' := 73) rfl ?_
  intro T265 h265 b265 X265 e265 E265 g265 V265 I265 A265
  have ne_aW_b265 : aW ≠ b265 := Nat.ne_of_lt (g265 ▸ E240_aW.lt)
  have ne_aC_b265 : aC ≠ b265 := Nat.ne_of_lt (g265 ▸ E241_aC.lt)
  have ne_g_b265 : g ≠ b265 := Nat.ne_of_lt (g265 ▸ E246_g.lt)
  have ne_aD_b265 : aD ≠ b265 := Nat.ne_of_lt (g265 ▸ V248_aD.lt)
  have ne_b2_b265 : b2 ≠ b265 := Nat.ne_of_lt (g265 ▸ V239.lt)
  have ne_b30_b265 : b30 ≠ b265 := Nat.ne_of_lt (g265 ▸ V254_b30.lt)
  have ne_b45_b265 : b45 ≠ b265 := Nat.ne_of_lt (g265 ▸ V256_b45.lt)
  have ne_b81_b265 : b81 ≠ b265 := Nat.ne_of_lt (g265 ▸ V258_b81.lt)
  have ne_b142_b265 : b142 ≠ b265 := Nat.ne_of_lt (g265 ▸ E260_b142.lt)
  have E266_aW := E240_aW.ext E265
  have E267_aC := E241_aC.ext E265
  have F268_ordinal := F242_ordinal.ext E265
  have F269_ordinal := F243_ordinal.ext E265
  have S270_WORD := S244_WORD.ext E265
  have S271_COLLECTION := S245_COLLECTION.ext E265
  have E272_g := E246_g.ext E265
  have S273_DEFAULTCAPACITY_EMPTY_ELEMENTDATA := S247_DEFAULTCAPACITY_EMPTY_ELEMENTDATA.ext E265
  have V274_aD := V248_aD.ext E265
  have F275_ids := F249_ids.ext E265
  have F276_cuts := F250_cuts.ext E265
  have F277_rows := F251_rows.ext E265
  have V278_b2 := V239.ext E265
  have E279_b2 := E253_b2.ext E265
  have V280_b30 := V254_b30.ext E265
  have Y281_b30 := Y255_b30.ext E265
  have V282_b45 := V256_b45.ext E265
  have E283_b45 := E257_b45.ext E265
  have V284_b81 := V258_b81.ext E265
  have E285_b81 := E259_b81.ext E265
  have E286_b142 := E260_b142.ext E265
  have F287_modCount := F261_modCount.ext E265
  have F288_elementData := F262_elementData.ext E265
  have F289_size := F263_size.ext E265
  have Z265 : n0 ≤ h265.size := Nat.le_trans Z239 E265.1
  have n0_b265 : n0 ≤ b265 := g265 ▸ Z239
  have sz_b265 : h0.size ≤ b265 := g265 ▸ K239.1
  have K265 : Keep h0 h265 [g] := K239.ext E265
  replace V265 : AV Z h265 b265 .int [(.int (0 : Int32))] := V265
  show GoP p e below Φ (T265.setTop (mkF m 73 #[.val (.ref g), .val (.int p1), .val (.int p2)] [(.ref b265), (.ref b142)]))
  refine own_dup X265 hx hby d_14_1__73 rfl (pc' := 74) rfl ?_
  refine own_iconst X265 hx hby d_14_1__74 (v := (0 : Int32)) rfl (pc' := 75) rfl ?_
  refine own_iconst X265 hx hby d_14_1__75 (v := (0 : Int32)) rfl (pc' := 76) rfl ?_
  refine own_iastore X265 hx hby hZ e265 V265 (by decide) (Nat.le_of_ble_eq_true rfl) d_14_1__76 (pc' := 77) rfl ?_
  intro T290 h290 X290 e290 W290 V290
  replace V290 : AV Z h290 b265 .int [(.int (0 : Int32))] := V290
  have E291_aW := E266_aW.wr W290
  have E292_aC := E267_aC.wr W290
  have F293_ordinal := F268_ordinal.other W290 (Or.inl ne_aW_b265)
  have F294_ordinal := F269_ordinal.other W290 (Or.inl ne_aC_b265)
  have S295_WORD := S270_WORD.wr W290
  have S296_COLLECTION := S271_COLLECTION.wr W290
  have E297_g := E272_g.wr W290
  have S298_DEFAULTCAPACITY_EMPTY_ELEMENTDATA := S273_DEFAULTCAPACITY_EMPTY_ELEMENTDATA.wr W290
  have V299_aD := V274_aD.other W290 ne_aD_b265
  have F300_ids := F275_ids.other W290 (Or.inl ne_g_b265)
  have F301_cuts := F276_cuts.other W290 (Or.inl ne_g_b265)
  have F302_rows := F277_rows.other W290 (Or.inl ne_g_b265)
  have V303_b2 := V278_b2.other W290 ne_b2_b265
  have E304_b2 := E279_b2.wr W290
  have V305_b30 := V280_b30.other W290 ne_b30_b265
  have Y306_b30 := Y281_b30.wr W290
  have V307_b45 := V282_b45.other W290 ne_b45_b265
  have E308_b45 := E283_b45.wr W290
  have V309_b81 := V284_b81.other W290 ne_b81_b265
  have E310_b81 := E285_b81.wr W290
  have E311_b142 := E286_b142.wr W290
  have F312_modCount := F287_modCount.other W290 (Or.inl ne_b142_b265)
  have F313_elementData := F288_elementData.other W290 (Or.inl ne_b142_b265)
  have F314_size := F289_size.other W290 (Or.inl ne_b142_b265)
  have E316_b265 := A265.wr W290
  have Z290 : n0 ≤ h290.size := by rw [W290.size]; exact Z265
  have N290 := Fr.snoc X290 N239 n0_b265
  have K290 : Keep h0 h290 [g] := K265.wr W290 (Or.inr sz_b265)
  refine own_callF X290 hx hby hZ (by exact hml) hown (x0 := (⟨"java/util/List", "add", "(Ljava/lang/Object;)Z"⟩ : MethodName)) (y := (⟨"java/util/ArrayList", "add", "(Ljava/lang/Object;)Z"⟩ : MethodName)) (own_w hw 62 rfl) (own_w hw 63 rfl) (own_w hw 64 rfl) (own_w hw 65 rfl) (own_w hw 66 rfl) (own_w hw 67 rfl) (own_w hw 68 rfl) (own_w hw 69 rfl) (own_w hw 27 rfl) rfl (own_w hw 70 rfl) (by decide) e290 0 (by decide) (by decide) (by decide) (by decide) (argsL := [(.ref b265)]) (rest := []) (lenOf pd__Ljava_lang_Object__Z rfl) rfl (Nat.le_of_eq rfl) E311_b142 (rmA1 l Z a0 hw b142 aD b265 n0 h290 n0_b142 Z290 (Ne.symm ne_aD_b142) E311_b142 F312_modCount F313_elementData F314_size S298_DEFAULTCAPACITY_EMPTY_ELEMENTDATA V299_aD ne_b142_b265 E316_b265) d_14_1__77 (pc' := 82) rfl ?_
  intro v317 T317 L317 X317 hQ317
  obtain ⟨es, rfl, Nq317, K317, se317, E317, G1317, G2317, G3317, V317, Y317⟩ := hQ317
  have ne_aW_es : aW ≠ es := Nat.ne_of_lt (Nat.lt_of_lt_of_le E291_aW.lt se317)
  have ne_aC_es : aC ≠ es := Nat.ne_of_lt (Nat.lt_of_lt_of_le E292_aC.lt se317)
  have ne_g_es : g ≠ es := Nat.ne_of_lt (Nat.lt_of_lt_of_le E297_g.lt se317)
  have ne_b2_es : b2 ≠ es := Nat.ne_of_lt (Nat.lt_of_lt_of_le V303_b2.lt se317)
  have ne_b30_es : b30 ≠ es := Nat.ne_of_lt (Nat.lt_of_lt_of_le V305_b30.lt se317)
  have ne_b45_es : b45 ≠ es := Nat.ne_of_lt (Nat.lt_of_lt_of_le V307_b45.lt se317)
  have ne_b81_es : b81 ≠ es := Nat.ne_of_lt (Nat.lt_of_lt_of_le V309_b81.lt se317)
  have ne_b142_es : b142 ≠ es := Nat.ne_of_lt (Nat.lt_of_lt_of_le E311_b142.lt se317)
  have ne_b265_es : b265 ≠ es := Nat.ne_of_lt (Nat.lt_of_lt_of_le V290.lt se317)
  have n0_es : n0 ≤ es := Nat.le_trans Z290 se317
  have E318_aW := E291_aW.keep K317
  have E319_aC := E292_aC.keep K317
  have F320_ordinal := F293_ordinal.keep K317 (ninS ne_aW_b142 nin0)
  have F321_ordinal := F294_ordinal.keep K317 (ninS ne_aC_b142 nin0)
  have E322_g := E297_g.keep K317
  have F323_ids := F300_ids.keep K317 (ninS ne_g_b142 nin0)
  have F324_cuts := F301_cuts.keep K317 (ninS ne_g_b142 nin0)
  have F325_rows := F302_rows.keep K317 (ninS ne_g_b142 nin0)
  have V326_b2 := V303_b2.keep K317 (ninS ne_b2_b142 nin0)
  have E327_b2 := E304_b2.keep K317
  have V328_b30 := V305_b30.keep K317 (ninS ne_b30_b142 nin0)
  have Y329_b30 := Y306_b30.keep K317
  have V330_b45 := V307_b45.keep K317 (ninS ne_b45_b142 nin0)
  have E331_b45 := E308_b45.keep K317
  have V332_b81 := V309_b81.keep K317 (ninS ne_b81_b142 nin0)
  have E333_b81 := E310_b81.keep K317
  have V334_b265 := V290.keep K317 (ninS (Ne.symm ne_b142_b265) nin0)
  have E335_b265 := E316_b265.keep K317
  have N317 := Fr.app N290 Nq317
  have Z317 : n0 ≤ T317.heap.size := Nat.le_trans Z290 K317.1
  have KK317 : Keep h0 T317.heap [g] := K290.trans K317 (allS (Or.inr sz_b142) all0)
  show GoP p e below Φ (T317.setTop (mkF m 82 #[.val (.ref g), .val (.int p1), .val (.int p2)] [(.int (1 : Int32))]))
  refine own_pop X317 hx hby d_14_1__82 rfl (pc' := 83) rfl ?_
  exact own_ret0 X317 hx hby fin hret d_14_1__83 (by decide) (by decide) ⟨rfl, N317, KK317, E322_g, b30, b45, b81, b142, es, b265, n0_b30, n0_b142, n0_es, F324_cuts, F325_rows, V328_b30, Y329_b30, V330_b45, V332_b81, E317, G1317, G2317, G3317, V317, Y317, V334_b265, E335_b265⟩
theorem ef_rmCut_0_0_0_0_0 (m : MethodId) (x0 : Addr) (x1 : Addr) (x2 : Int32) : entryFrame m #[(.ref x0), (.ref x1), (.int x2)] 9 = mkF m 0 #[.val (.ref x0), .val (.ref x1), .val (.int x2), .unset, .unset, .unset, .unset, .unset, .unset] [] := by first | (simp [entryFrame, mkF, argsToLocals, Value.category]; done) | rfl
theorem d_14_11__0 : decode prog_14_method_11_code 0 = .ok (.aload_n 0, 1) := by decide +kernel
theorem d_14_11__1 : decode prog_14_method_11_code 1 = .ok (.aload_n 1, 1) := by decide +kernel
theorem d_14_11__2 : decode prog_14_method_11_code 2 = .ok (.iload_n 2, 1) := by decide +kernel
theorem d_14_11__3 : decode prog_14_method_11_code 3 = .ok (.iconst 1, 1) := by decide +kernel
theorem d_14_11__4 : decode prog_14_method_11_code 4 = .ok (.isub, 1) := by decide +kernel
theorem d_14_11__5 : decode prog_14_method_11_code 5 = .ok (.invokevirtual 106, 3) := by decide +kernel
theorem pd__Lcom_example_collectary_collectary_broker_Grid_Axis_I_I : parseMethodDescriptor "(Lcom/example/collectary/collectary/broker/Grid$Axis;I)I" = some ⟨[(.object "com/example/collectary/collectary/broker/Grid$Axis"), .int], some .int⟩ := by decide +kernel
theorem d_14_11__8 : decode prog_14_method_11_code 8 = .ok (.istore_n 3, 1) := by decide +kernel
theorem d_14_11__9 : decode prog_14_method_11_code 9 = .ok (.aload_n 0, 1) := by decide +kernel
theorem d_14_11__10 : decode prog_14_method_11_code 10 = .ok (.getfield 14, 3) := by decide +kernel
theorem d_14_11__13 : decode prog_14_method_11_code 13 = .ok (.aload_n 1, 1) := by decide +kernel
theorem d_14_11__14 : decode prog_14_method_11_code 14 = .ok (.invokevirtual 31, 3) := by decide +kernel
theorem d_14_11__17 : decode prog_14_method_11_code 17 = .ok (.aaload, 1) := by decide +kernel
theorem d_14_11__18 : decode prog_14_method_11_code 18 = .ok (.astore 4, 2) := by decide +kernel
theorem d_14_11__20 : decode prog_14_method_11_code 20 = .ok (.aload 4, 2) := by decide +kernel
theorem d_14_11__22 : decode prog_14_method_11_code 22 = .ok (.arraylength, 1) := by decide +kernel
theorem d_14_11__23 : decode prog_14_method_11_code 23 = .ok (.iconst 1, 1) := by decide +kernel
theorem d_14_11__24 : decode prog_14_method_11_code 24 = .ok (.iadd, 1) := by decide +kernel
theorem d_14_11__25 : decode prog_14_method_11_code 25 = .ok (.newarray .int, 2) := by decide +kernel
theorem d_14_11__27 : decode prog_14_method_11_code 27 = .ok (.astore 5, 2) := by decide +kernel
theorem d_14_11__29 : decode prog_14_method_11_code 29 = .ok (.aload 4, 2) := by decide +kernel
theorem d_14_11__31 : decode prog_14_method_11_code 31 = .ok (.iconst 0, 1) := by decide +kernel
theorem d_14_11__32 : decode prog_14_method_11_code 32 = .ok (.aload 5, 2) := by decide +kernel
theorem d_14_11__34 : decode prog_14_method_11_code 34 = .ok (.iconst 0, 1) := by decide +kernel
theorem d_14_11__35 : decode prog_14_method_11_code 35 = .ok (.iload_n 3, 1) := by decide +kernel
theorem d_14_11__36 : decode prog_14_method_11_code 36 = .ok (.invokestatic 110, 3) := by decide +kernel
theorem d_14_11__39 : decode prog_14_method_11_code 39 = .ok (.aload 5, 2) := by decide +kernel
theorem d_14_11__41 : decode prog_14_method_11_code 41 = .ok (.iload_n 3, 1) := by decide +kernel
theorem d_14_11__42 : decode prog_14_method_11_code 42 = .ok (.iload_n 2, 1) := by decide +kernel
theorem d_14_11__43 : decode prog_14_method_11_code 43 = .ok (.iastore, 1) := by decide +kernel
theorem d_14_11__44 : decode prog_14_method_11_code 44 = .ok (.aload 4, 2) := by decide +kernel
theorem d_14_11__46 : decode prog_14_method_11_code 46 = .ok (.iload_n 3, 1) := by decide +kernel
theorem d_14_11__47 : decode prog_14_method_11_code 47 = .ok (.aload 5, 2) := by decide +kernel
theorem d_14_11__49 : decode prog_14_method_11_code 49 = .ok (.iload_n 3, 1) := by decide +kernel
theorem d_14_11__50 : decode prog_14_method_11_code 50 = .ok (.iconst 1, 1) := by decide +kernel
theorem d_14_11__51 : decode prog_14_method_11_code 51 = .ok (.iadd, 1) := by decide +kernel
theorem d_14_11__52 : decode prog_14_method_11_code 52 = .ok (.aload 4, 2) := by decide +kernel
theorem d_14_11__54 : decode prog_14_method_11_code 54 = .ok (.arraylength, 1) := by decide +kernel
theorem d_14_11__55 : decode prog_14_method_11_code 55 = .ok (.iload_n 3, 1) := by decide +kernel
theorem d_14_11__56 : decode prog_14_method_11_code 56 = .ok (.isub, 1) := by decide +kernel
theorem d_14_11__57 : decode prog_14_method_11_code 57 = .ok (.invokestatic 110, 3) := by decide +kernel
theorem d_14_11__60 : decode prog_14_method_11_code 60 = .ok (.aload_n 0, 1) := by decide +kernel
theorem d_14_11__61 : decode prog_14_method_11_code 61 = .ok (.getfield 14, 3) := by decide +kernel
theorem d_14_11__64 : decode prog_14_method_11_code 64 = .ok (.aload_n 1, 1) := by decide +kernel
theorem d_14_11__65 : decode prog_14_method_11_code 65 = .ok (.invokevirtual 31, 3) := by decide +kernel
theorem d_14_11__68 : decode prog_14_method_11_code 68 = .ok (.aload 5, 2) := by decide +kernel
theorem d_14_11__70 : decode prog_14_method_11_code 70 = .ok (.aastore, 1) := by decide +kernel
theorem d_14_11__71 : decode prog_14_method_11_code 71 = .ok (.aload_n 1, 1) := by decide +kernel
theorem d_14_11__72 : decode prog_14_method_11_code 72 = .ok (.getstatic 25, 3) := by decide +kernel
theorem d_14_11__75 : decode prog_14_method_11_code 75 = .ok (.if_acmp .ne 37, 3) := by decide +kernel
theorem d_14_11__78 : decode prog_14_method_11_code 78 = .ok (.aload_n 0, 1) := by decide +kernel
theorem d_14_11__79 : decode prog_14_method_11_code 79 = .ok (.getfield 21, 3) := by decide +kernel
theorem d_14_11__82 : decode prog_14_method_11_code 82 = .ok (.iload_n 3, 1) := by decide +kernel
theorem d_14_11__83 : decode prog_14_method_11_code 83 = .ok (.iconst 1, 1) := by decide +kernel
theorem d_14_11__84 : decode prog_14_method_11_code 84 = .ok (.iadd, 1) := by decide +kernel
theorem d_14_11__85 : decode prog_14_method_11_code 85 = .ok (.aload_n 0, 1) := by decide +kernel
theorem d_14_11__86 : decode prog_14_method_11_code 86 = .ok (.getfield 21, 3) := by decide +kernel
theorem d_14_11__89 : decode prog_14_method_11_code 89 = .ok (.iload_n 3, 1) := by decide +kernel
theorem d_14_11__90 : decode prog_14_method_11_code 90 = .ok (.invokeinterface 102 2, 5) := by decide +kernel
theorem d_14_11__95 : decode prog_14_method_11_code 95 = .ok (.checkcast 13, 3) := by decide +kernel
theorem d_14_11__98 : decode prog_14_method_11_code 98 = .ok (.invokevirtual 82, 3) := by decide +kernel
theorem d_14_11__101 : decode prog_14_method_11_code 101 = .ok (.checkcast 13, 3) := by decide +kernel
theorem d_14_11__104 : decode prog_14_method_11_code 104 = .ok (.invokeinterface 116 3, 5) := by decide +kernel
theorem pd__ILjava_lang_Object__V : parseMethodDescriptor "(ILjava/lang/Object;)V" = some ⟨[.int, (.object "java/lang/Object")], none⟩ := by decide +kernel
theorem d_14_11__109 : decode prog_14_method_11_code 109 = .ok (.goto 93, 3) := by decide +kernel
theorem d_14_11__202 : decode prog_14_method_11_code 202 = .ok (.return_, 1) := by decide +kernel
set_option maxRecDepth 65536 in
set_option maxHeartbeats 40000000 in
theorem rmCut_0_0_0_0_0 (l : Launch) (Z : State) (a0 : Array Value) (hw : ∀ d ∈ tables_1, d.before a0 Z = true) (g aW aC cu c0 c1 rl es r0 : Addr) (pt mc : Int32) (n0 : Nat) (h0 : Heap) (n0_cu : n0 ≤ cu) (n0_rl : n0 ≤ rl) (n0_es : n0 ≤ es) (Z0 : n0 ≤ h0.size) (ox : aW < n0)   (Eg : Exa Z h0 g "com/example/collectary/collectary/broker/Grid") (Exx : Exa Z h0 aW "com/example/collectary/collectary/broker/Grid$Axis") (Fo : Fld Z h0 aW "java/lang/Enum" "ordinal" "I" (.int (0 : Int32))) (SW : Sta Z h0 "com/example/collectary/collectary/broker/Grid$Axis" "WORD" "Lcom/example/collectary/collectary/broker/Grid$Axis;" (.ref aW)) (H0 : Fld Z h0 g "com/example/collectary/collectary/broker/Grid" "cuts" "[[I" (.ref cu)) (H1 : Fld Z h0 g "com/example/collectary/collectary/broker/Grid" "rows" "Ljava/util/List;" (.ref rl)) (H2 : AV Z h0 cu (.array .int) [.ref c0, .ref c1]) (H3 : CM Z h0 cu "[I") (H4 : AV Z h0 c0 .int []) (H5 : AV Z h0 c1 .int []) (H6 : Exa Z h0 rl "java/util/ArrayList") (H7 : Fld Z h0 rl "java/util/AbstractList" "modCount" "I" (.int mc)) (H8 : Fld Z h0 rl "java/util/ArrayList" "elementData" "[Ljava/lang/Object;" (.ref es)) (H9 : Fld Z h0 rl "java/util/ArrayList" "size" "I" (.int (1 : Int32))) (H10 : AV Z h0 es (.object "java/lang/Object") [(.ref r0), .null, .null, .null, .null, .null, .null, .null, .null, .null]) (H11 : CM Z h0 es "java/lang/Object") (H12 : AV Z h0 r0 .int [(.int (0 : Int32))]) (H13 : Exa Z h0 r0 "[I") : Con l Z (⟨"com/example/collectary/collectary/broker/Grid", "addCut", "(Lcom/example/collectary/collectary/broker/Grid$Axis;I)V"⟩ : MethodName) prog_14_method_11_code 9 none [] ({ frames := 3, cells := 2, slots := 2, locals := 90 } : Room) #[(.ref g), (.ref aW), (.int pt)] h0 (fun v h L => v = none ∧ Fr n0 L ∧ Keep h0 h [cu, rl, es] ∧ ∃ cn rn : Addr, Fld Z h g "com/example/collectary/collectary/broker/Grid" "cuts" "[[I" (.ref cu) ∧ Fld Z h g "com/example/collectary/collectary/broker/Grid" "rows" "Ljava/util/List;" (.ref rl) ∧ AV Z h cu (.array .int) [.ref cn, .ref c1] ∧ CM Z h cu "[I" ∧ AV Z h cn .int [(.int pt)] ∧ AV Z h c1 .int [] ∧ Exa Z h rl "java/util/ArrayList" ∧ Fld Z h rl "java/util/AbstractList" "modCount" "I" (.int (mc + (1 : Int32))) ∧ Fld Z h rl "java/util/ArrayList" "elementData" "[Ljava/lang/Object;" (.ref es) ∧ Fld Z h rl "java/util/ArrayList" "size" "I" (.int (2 : Int32)) ∧ AV Z h es (.object "java/lang/Object") [(.ref r0), (.ref rn), .null, .null, .null, .null, .null, .null, .null, .null] ∧ CM Z h es "java/lang/Object" ∧ AV Z h r0 .int [(.int (0 : Int32))] ∧ Exa Z h r0 "[I" ∧ AV Z h rn .int [(.int (0 : Int32))] ∧ Exa Z h rn "[I") := by
  refine Con.of (plainFor_of_name pn_com_example_collectary_collectary_broker_Grid) ?_
  intro p e s m below meth c T X hx hby hml hown hnm hret eT hZ hsh Φ fin
  replace hown : s.vm.findClass "com/example/collectary/collectary/broker/Grid" = some m.cls := hown
  replace hml : 9 = c.maxLocals := hml.symm
  refine own_step (fun tq kq => castTop (ef_rmCut_0_0_0_0_0 m g aW pt) kq) ?_
  have N0 := Fr.nil n0
  have K0 : Keep h0 h0 [cu, rl, es] := Keep.refl h0 [cu, rl, es]
  have ne1_g_cu : g ≠ cu := own_ne_ea Eg (own_w hw 8 rfl) H2
  have ne2_aW_cu : aW ≠ cu := Nat.ne_of_lt (Nat.lt_of_lt_of_le ox n0_cu)
  have ne3_c0_cu : c0 ≠ cu := own_ne_av2 H4 H2 (by decide)
  have ne4_c1_cu : c1 ≠ cu := own_ne_av2 H5 H2 (by decide)
  have ne5_rl_cu : rl ≠ cu := own_ne_ea H6 (own_w hw 26 rfl) H2
  have ne6_es_cu : es ≠ cu := own_ne_av2 H10 H2 (by decide)
  have ne7_r0_cu : r0 ≠ cu := own_ne_av2 H12 H2 (by decide)
  have ne8_g_rl : g ≠ rl := ne_exa Eg H6 (by decide)
  have ne9_aW_rl : aW ≠ rl := Nat.ne_of_lt (Nat.lt_of_lt_of_le ox n0_rl)
  have ne10_c0_rl : c0 ≠ rl := (own_ne_ea H6 (own_w hw 26 rfl) H4).symm
  have ne11_c1_rl : c1 ≠ rl := (own_ne_ea H6 (own_w hw 26 rfl) H5).symm
  have ne12_es_rl : es ≠ rl := (own_ne_ea H6 (own_w hw 26 rfl) H10).symm
  have ne13_r0_rl : r0 ≠ rl := (own_ne_ea H6 (own_w hw 26 rfl) H12).symm
  have ne14_g_es : g ≠ es := own_ne_ea Eg (own_w hw 8 rfl) H10
  have ne15_aW_es : aW ≠ es := Nat.ne_of_lt (Nat.lt_of_lt_of_le ox n0_es)
  have ne16_c0_es : c0 ≠ es := own_ne_av2 H4 H10 (by decide)
  have ne17_c1_es : c1 ≠ es := own_ne_av2 H5 H10 (by decide)
  have ne18_r0_es : r0 ≠ es := own_ne_av2 H12 H10 (by decide)
  have nin_g : g ∉ [cu, rl, es] := (ninS ne1_g_cu (ninS ne8_g_rl (ninS ne14_g_es nin0)))
  have lt0_g := Eg.lt
  have nin_aW : aW ∉ [cu, rl, es] := (ninS ne2_aW_cu (ninS ne9_aW_rl (ninS ne15_aW_es nin0)))
  have lt0_aW := Exx.lt
  have nin_c0 : c0 ∉ [cu, rl, es] := (ninS ne3_c0_cu (ninS ne10_c0_rl (ninS ne16_c0_es nin0)))
  have lt0_c0 := H4.lt
  have nin_c1 : c1 ∉ [cu, rl, es] := (ninS ne4_c1_cu (ninS ne11_c1_rl (ninS ne17_c1_es nin0)))
  have lt0_c1 := H5.lt
  have nin_r0 : r0 ∉ [cu, rl, es] := (ninS ne7_r0_cu (ninS ne13_r0_rl (ninS ne18_r0_es nin0)))
  have lt0_r0 := H12.lt
  have plain_ws : ∀ x ∈ [cu, rl, es], ∀ c : Cell, h0[x]? = some c → c.vm.isStatics = false := (allS H2.plain (allS (own_plainE H6) (allS H10.plain all0)))
  refine own_aloadN X hx hby d_14_11__0 rfl rfl (pc' := 1) rfl ?_
  refine own_aloadN X hx hby d_14_11__1 rfl rfl (pc' := 2) rfl ?_
  refine own_iloadN X hx hby d_14_11__2 rfl (pc' := 3) rfl ?_
  refine own_iconst X hx hby d_14_11__3 (v := (1 : Int32)) rfl (pc' := 4) rfl ?_
  refine own_isub X hx hby d_14_11__4 (pc' := 5) rfl ?_
  refine own_callV X hx hby hZ (by exact hml) hown (own_w hw 102 rfl) (own_w hw 103 rfl) (own_w hw 105 rfl) (own_w hw 104 rfl) (own_w hw 9 rfl) (own_w hw 106 rfl) (by decide) eT 0 (by decide) (by decide) (by decide) (by decide) (argsL := [(.ref aW), (.int (pt - (1 : Int32)))]) (rest := []) (lenOf pd__Lcom_example_collectary_collectary_broker_Grid_Axis_I_I rfl) rfl (Nat.le_of_eq rfl) Eg (rmIv0_0 l Z a0 hw g aW cu c0 c1  (pt - (1 : Int32)) h0 Exx Fo H0 H2 H4) d_14_11__5 (pc' := 8) rfl ?_
  intro v19 T19 L19 X19 hQ19
  obtain ⟨rfl, rfl, e19⟩ := hQ19
  rw [List.append_nil] at X19
  replace e19 : T19.heap = h0 := e19
  show GoP p e below Φ (T19.setTop (mkF m 8 #[.val (.ref g), .val (.ref aW), .val (.int pt), .unset, .unset, .unset, .unset, .unset, .unset] [(.int (0 : Int32))]))
  refine own_istoreN X19 hx hby d_14_11__8  (Ls' := #[.val (.ref g), .val (.ref aW), .val (.int pt), .val (.int (0 : Int32)), .unset, .unset, .unset, .unset, .unset]) rfl (pc' := 9) rfl ?_
  refine own_aloadN X19 hx hby d_14_11__9 rfl rfl (pc' := 10) rfl ?_
  refine own_getF X19 hx hby hZ hown (host := "") (Or.inl (own_w hw 23 rfl)) Via.refl e19 H0 d_14_11__10 (pc' := 13) rfl ?_
  intro T20 X20 e20
  refine own_aloadN X20 hx hby d_14_11__13 rfl rfl (pc' := 14) rfl ?_
  refine own_callU X20 hx hby hZ (by exact hml) hown (x0 := (⟨"com/example/collectary/collectary/broker/Grid$Axis", "ordinal", "()I"⟩ : MethodName)) (y := (⟨"java/lang/Enum", "ordinal", "()I"⟩ : MethodName)) (own_w hw 52 rfl) (own_w hw 53 rfl) (own_w hw 54 rfl) (own_w hw 56 rfl) (own_w hw 55 rfl) (own_w hw 57 rfl) (own_w hw 58 rfl) (by decide) e20 1 (by decide) (by decide) (by decide) (by decide) (argsL := []) (rest := [(.ref cu)]) (lenOf pd___I rfl) rfl (Nat.le_of_eq rfl) Exx (rmO l Z a0 hw aW (0 : Int32) h0 Fo) d_14_11__14 (pc' := 17) rfl ?_
  intro v21 T21 L21 X21 hQ21
  obtain ⟨rfl, rfl, e21⟩ := hQ21
  rw [List.append_nil] at X21
  replace e21 : T21.heap = h0 := e21
  show GoP p e below Φ (T21.setTop (mkF m 17 #[.val (.ref g), .val (.ref aW), .val (.int pt), .val (.int (0 : Int32)), .unset, .unset, .unset, .unset, .unset] [(.int (0 : Int32)), (.ref cu)]))
  refine own_aaload X21 hx hby hZ e21 H2 rfl (by decide) (v := (.ref c0)) rfl d_14_11__17 (pc' := 18) rfl ?_
  refine own_astore X21 hx hby d_14_11__18 rfl (Ls' := #[.val (.ref g), .val (.ref aW), .val (.int pt), .val (.int (0 : Int32)), .val (.ref c0), .unset, .unset, .unset, .unset]) rfl (pc' := 20) rfl ?_
  refine own_aload X21 hx hby d_14_11__20 rfl rfl (pc' := 22) rfl ?_
  refine own_alen X21 hx hby hZ e21 (n := (0 : Int32)) H4 rfl d_14_11__22 (pc' := 23) rfl ?_
  refine own_iconst X21 hx hby d_14_11__23 (v := (1 : Int32)) rfl (pc' := 24) rfl ?_
  refine own_iadd X21 hx hby d_14_11__24 (pc' := 25) rfl ?_
  show GoP p e below Φ (T21.setTop (mkF m 25 #[.val (.ref g), .val (.ref aW), .val (.int pt), .val (.int (0 : Int32)), .val (.ref c0), .unset, .unset, .unset, .unset] [(.int (1 : Int32))]))
  refine own_newI X21 hx hby hZ (own_w hw 17 rfl) e21 (by decide) 1 (by decide) (by decide) (by decide) (by decide) d_14_11__25 (pc' := 27) rfl ?_
  intro T22 h22 b22 X22 e22 E22 g22 V22 I22 A22
  have ne_cu_b22 : cu ≠ b22 := Nat.ne_of_lt (g22 ▸ H2.lt)
  have ne_rl_b22 : rl ≠ b22 := Nat.ne_of_lt (g22 ▸ H6.lt)
  have ne_es_b22 : es ≠ b22 := Nat.ne_of_lt (g22 ▸ H10.lt)
  have V23_cu := H2.ext E22
  have Y24_cu := H3.ext E22
  have E25_rl := H6.ext E22
  have F26_modCount := H7.ext E22
  have F27_elementData := H8.ext E22
  have F28_size := H9.ext E22
  have V29_es := H10.ext E22
  have Y30_es := H11.ext E22
  have Z22 : n0 ≤ h22.size := Nat.le_trans Z0 E22.1
  have n0_b22 : n0 ≤ b22 := g22 ▸ Z0
  have sz_b22 : h0.size ≤ b22 := g22 ▸ K0.1
  have K22 : Keep h0 h22 [cu, rl, es] := K0.ext E22
  replace V22 : AV Z h22 b22 .int [(.int (0 : Int32))] := V22
  show GoP p e below Φ (T22.setTop (mkF m 27 #[.val (.ref g), .val (.ref aW), .val (.int pt), .val (.int (0 : Int32)), .val (.ref c0), .unset, .unset, .unset, .unset] [(.ref b22)]))
  refine own_astore X22 hx hby d_14_11__27 rfl (Ls' := #[.val (.ref g), .val (.ref aW), .val (.int pt), .val (.int (0 : Int32)), .val (.ref c0), .val (.ref b22), .unset, .unset, .unset]) rfl (pc' := 29) rfl ?_
  refine own_aload X22 hx hby d_14_11__29 rfl rfl (pc' := 31) rfl ?_
  refine own_iconst X22 hx hby d_14_11__31 (v := (0 : Int32)) rfl (pc' := 32) rfl ?_
  refine own_aload X22 hx hby d_14_11__32 rfl rfl (pc' := 34) rfl ?_
  refine own_iconst X22 hx hby d_14_11__34 (v := (0 : Int32)) rfl (pc' := 35) rfl ?_
  refine own_iloadN X22 hx hby d_14_11__35 rfl (pc' := 36) rfl ?_
  refine own_copyV X22 hx hby (dv := (.int 0)) hZ (by exact hml) hown (own_w hw 114 rfl) (own_w hw 117 rfl) (own_w hw 115 rfl) (own_w hw 116 rfl) e22 (H4.keep K22 nin_c0) V22 rfl rfl rfl (by decide) (by decide) (by decide) (Nat.le_of_ble_eq_true rfl) (Nat.le_of_ble_eq_true rfl) N0 n0_b22 (by decide) 0 (Nat.le_of_eq rfl) (by decide) d_14_11__36 (pc' := 39) rfl ?_
  intro T31 h31 L31 X31 e31 Nn31 K31 V31
  replace V31 : AV Z h31 b22 .int [(.int (0 : Int32))] := V31
  have V32_cu := V23_cu.keep K31 (ninS ne_cu_b22 nin0)
  have Y33_cu := Y24_cu.keep K31 
  have E34_rl := E25_rl.keep K31 
  have F35_modCount := F26_modCount.keep K31 (ninS ne_rl_b22 nin0)
  have F36_elementData := F27_elementData.keep K31 (ninS ne_rl_b22 nin0)
  have F37_size := F28_size.keep K31 (ninS ne_rl_b22 nin0)
  have V38_es := V29_es.keep K31 (ninS ne_es_b22 nin0)
  have Y39_es := Y30_es.keep K31 
  have E40_b22 := A22.keep K31 
  have KC31 : Keep h0 h31 [cu, rl, es] := K22.trans K31 (allS (Or.inr sz_b22) all0)
  have ZC31 : n0 ≤ h31.size := Nat.le_trans Z22 K31.1
  refine own_aload X31 hx hby d_14_11__39 rfl rfl (pc' := 41) rfl ?_
  refine own_iloadN X31 hx hby d_14_11__41 rfl (pc' := 42) rfl ?_
  refine own_iloadN X31 hx hby d_14_11__42 rfl (pc' := 43) rfl ?_
  refine own_iastore X31 hx hby hZ e31 V31 (by decide) (Nat.le_of_ble_eq_true rfl) d_14_11__43 (pc' := 44) rfl ?_
  intro T41 h41 X41 e41 W41 V41
  replace V41 : AV Z h41 b22 .int [(.int pt)] := V41
  have V42_cu := V32_cu.other W41 ne_cu_b22
  have Y43_cu := Y33_cu.wr W41
  have E44_rl := E34_rl.wr W41
  have F45_modCount := F35_modCount.other W41 (Or.inl ne_rl_b22)
  have F46_elementData := F36_elementData.other W41 (Or.inl ne_rl_b22)
  have F47_size := F37_size.other W41 (Or.inl ne_rl_b22)
  have V48_es := V38_es.other W41 ne_es_b22
  have Y49_es := Y39_es.wr W41
  have E51_b22 := E40_b22.wr W41
  have Z41 : n0 ≤ h41.size := by rw [W41.size]; exact ZC31
  have N41 := Fr.snoc X41 Nn31 n0_b22
  have K41 : Keep h0 h41 [cu, rl, es] := KC31.wr W41 (Or.inr sz_b22)
  refine own_aload X41 hx hby d_14_11__44 rfl rfl (pc' := 46) rfl ?_
  refine own_iloadN X41 hx hby d_14_11__46 rfl (pc' := 47) rfl ?_
  refine own_aload X41 hx hby d_14_11__47 rfl rfl (pc' := 49) rfl ?_
  refine own_iloadN X41 hx hby d_14_11__49 rfl (pc' := 50) rfl ?_
  refine own_iconst X41 hx hby d_14_11__50 (v := (1 : Int32)) rfl (pc' := 51) rfl ?_
  refine own_iadd X41 hx hby d_14_11__51 (pc' := 52) rfl ?_
  show GoP p e below Φ (T41.setTop (mkF m 52 #[.val (.ref g), .val (.ref aW), .val (.int pt), .val (.int (0 : Int32)), .val (.ref c0), .val (.ref b22), .unset, .unset, .unset] [(.int (1 : Int32)), (.ref b22), (.int (0 : Int32)), (.ref c0)]))
  refine own_aload X41 hx hby d_14_11__52 rfl rfl (pc' := 54) rfl ?_
  refine own_alen X41 hx hby hZ e41 (n := (0 : Int32)) (H4.keep K41 nin_c0) rfl d_14_11__54 (pc' := 55) rfl ?_
  refine own_iloadN X41 hx hby d_14_11__55 rfl (pc' := 56) rfl ?_
  refine own_isub X41 hx hby d_14_11__56 (pc' := 57) rfl ?_
  show GoP p e below Φ (T41.setTop (mkF m 57 #[.val (.ref g), .val (.ref aW), .val (.int pt), .val (.int (0 : Int32)), .val (.ref c0), .val (.ref b22), .unset, .unset, .unset] [(.int (0 : Int32)), (.int (1 : Int32)), (.ref b22), (.int (0 : Int32)), (.ref c0)]))
  refine own_copyV X41 hx hby (dv := (.int 0)) hZ (by exact hml) hown (own_w hw 114 rfl) (own_w hw 117 rfl) (own_w hw 115 rfl) (own_w hw 116 rfl) e41 (H4.keep K41 nin_c0) V41 rfl rfl rfl (by decide) (by decide) (by decide) (Nat.le_of_ble_eq_true rfl) (Nat.le_of_ble_eq_true rfl) N41 n0_b22 (by decide) 0 (Nat.le_of_eq rfl) (by decide) d_14_11__57 (pc' := 60) rfl ?_
  intro T52 h52 L52 X52 e52 Nn52 K52 V52
  replace V52 : AV Z h52 b22 .int [(.int pt)] := V52
  have V53_cu := V42_cu.keep K52 (ninS ne_cu_b22 nin0)
  have Y54_cu := Y43_cu.keep K52 
  have E55_rl := E44_rl.keep K52 
  have F56_modCount := F45_modCount.keep K52 (ninS ne_rl_b22 nin0)
  have F57_elementData := F46_elementData.keep K52 (ninS ne_rl_b22 nin0)
  have F58_size := F47_size.keep K52 (ninS ne_rl_b22 nin0)
  have V59_es := V48_es.keep K52 (ninS ne_es_b22 nin0)
  have Y60_es := Y49_es.keep K52 
  have E61_b22 := E51_b22.keep K52 
  have KC52 : Keep h0 h52 [cu, rl, es] := K41.trans K52 (allS (Or.inr sz_b22) all0)
  have ZC52 : n0 ≤ h52.size := Nat.le_trans Z41 K52.1
  refine own_aloadN X52 hx hby d_14_11__60 rfl rfl (pc' := 61) rfl ?_
  refine own_getF X52 hx hby hZ hown (host := "") (Or.inl (own_w hw 23 rfl)) Via.refl e52 (H0.keep KC52 nin_g) d_14_11__61 (pc' := 64) rfl ?_
  intro T62 X62 e62
  refine own_aloadN X62 hx hby d_14_11__64 rfl rfl (pc' := 65) rfl ?_
  refine own_callU X62 hx hby hZ (by exact hml) hown (x0 := (⟨"com/example/collectary/collectary/broker/Grid$Axis", "ordinal", "()I"⟩ : MethodName)) (y := (⟨"java/lang/Enum", "ordinal", "()I"⟩ : MethodName)) (own_w hw 52 rfl) (own_w hw 53 rfl) (own_w hw 54 rfl) (own_w hw 56 rfl) (own_w hw 55 rfl) (own_w hw 57 rfl) (own_w hw 58 rfl) (by decide) e62 1 (by decide) (by decide) (by decide) (by decide) (argsL := []) (rest := [(.ref cu)]) (lenOf pd___I rfl) rfl (Nat.le_of_eq rfl) (Exx.keep KC52) (rmO l Z a0 hw aW (0 : Int32) h52 (Fo.keep KC52 nin_aW)) d_14_11__65 (pc' := 68) rfl ?_
  intro v63 T63 L63 X63 hQ63
  obtain ⟨rfl, rfl, e63⟩ := hQ63
  rw [List.append_nil] at X63
  replace e63 : T63.heap = h52 := e63
  show GoP p e below Φ (T63.setTop (mkF m 68 #[.val (.ref g), .val (.ref aW), .val (.int pt), .val (.int (0 : Int32)), .val (.ref c0), .val (.ref b22), .unset, .unset, .unset] [(.int (0 : Int32)), (.ref cu)]))
  refine own_aload X63 hx hby d_14_11__68 rfl rfl (pc' := 70) rfl ?_
  refine own_aastore X63 hx hby hZ e63 V53_cu rfl (own_sto V53_cu Y54_cu (Ins.self E61_b22)) (by decide) (Nat.le_of_ble_eq_true rfl) d_14_11__70 (pc' := 71) rfl ?_
  intro T64 h64 X64 e64 W64 V64
  replace V64 : AV Z h64 cu (.array .int) [(.ref b22), (.ref c1)] := V64
  have Y66_cu := Y54_cu.wr W64
  have E67_rl := E55_rl.wr W64
  have F68_modCount := F56_modCount.other W64 (Or.inl ne5_rl_cu)
  have F69_elementData := F57_elementData.other W64 (Or.inl ne5_rl_cu)
  have F70_size := F58_size.other W64 (Or.inl ne5_rl_cu)
  have V71_es := V59_es.other W64 ne6_es_cu
  have Y72_es := Y60_es.wr W64
  have V73_b22 := V52.other W64 (Ne.symm ne_cu_b22)
  have E74_b22 := E61_b22.wr W64
  have Z64 : n0 ≤ h64.size := by rw [W64.size]; exact ZC52
  have N64 := Fr.snoc X64 Nn52 n0_cu
  have K64 : Keep h0 h64 [cu, rl, es] := KC52.wr W64 (Or.inl (List.mem_of_getElem? (i := 0) rfl))
  refine own_aloadN X64 hx hby d_14_11__71 rfl rfl (pc' := 72) rfl ?_
  refine own_getS X64 hx hby hZ hown (host := "") (Or.inl (own_w hw 51 rfl)) Via.refl e64 (own_stakeep SW K64 plain_ws) d_14_11__72 (pc' := 75) rfl ?_
  intro T75 X75 e75
  refine own_acmp X75 hx hby d_14_11__75 rfl rfl (same := true) (decide_eq_true (congrArg Value.ref rfl)) (by decide) (pc' := 78) (by decide) ?_
  refine own_aloadN X75 hx hby d_14_11__78 rfl rfl (pc' := 79) rfl ?_
  refine own_getF X75 hx hby hZ hown (host := "") (Or.inl (own_w hw 49 rfl)) Via.refl e75 (H1.keep K64 nin_g) d_14_11__79 (pc' := 82) rfl ?_
  intro T76 X76 e76
  refine own_iloadN X76 hx hby d_14_11__82 rfl (pc' := 83) rfl ?_
  refine own_iconst X76 hx hby d_14_11__83 (v := (1 : Int32)) rfl (pc' := 84) rfl ?_
  refine own_iadd X76 hx hby d_14_11__84 (pc' := 85) rfl ?_
  show GoP p e below Φ (T76.setTop (mkF m 85 #[.val (.ref g), .val (.ref aW), .val (.int pt), .val (.int (0 : Int32)), .val (.ref c0), .val (.ref b22), .unset, .unset, .unset] [(.int (1 : Int32)), (.ref rl)]))
  refine own_aloadN X76 hx hby d_14_11__85 rfl rfl (pc' := 86) rfl ?_
  refine own_getF X76 hx hby hZ hown (host := "") (Or.inl (own_w hw 49 rfl)) Via.refl e76 (H1.keep K64 nin_g) d_14_11__86 (pc' := 89) rfl ?_
  intro T77 X77 e77
  refine own_iloadN X77 hx hby d_14_11__89 rfl (pc' := 90) rfl ?_
  refine own_callF X77 hx hby hZ (by exact hml) hown (x0 := (⟨"java/util/List", "get", "(I)Ljava/lang/Object;"⟩ : MethodName)) (y := (⟨"java/util/ArrayList", "get", "(I)Ljava/lang/Object;"⟩ : MethodName)) (own_w hw 118 rfl) (own_w hw 119 rfl) (own_w hw 120 rfl) (own_w hw 121 rfl) (own_w hw 122 rfl) (own_w hw 123 rfl) (own_w hw 124 rfl) (own_w hw 69 rfl) (own_w hw 27 rfl) rfl (own_w hw 125 rfl) (by decide) e77 2 (by decide) (by decide) (by decide) (by decide) (argsL := [(.int (0 : Int32))]) (rest := [(.int (1 : Int32)), (.ref rl)]) (lenOf pd__I_Ljava_lang_Object_ rfl) rfl (Nat.le_of_eq rfl) E67_rl (rmG0 l Z a0 hw rl es r0 (1 : Int32) .null .null .null .null .null .null .null .null .null h64 (by decide) E67_rl F70_size F69_elementData V71_es) d_14_11__90 (pc' := 95) rfl ?_
  intro v78 T78 L78 X78 hQ78
  obtain ⟨rfl, rfl, e78⟩ := hQ78
  rw [List.append_nil] at X78
  replace e78 : T78.heap = h64 := e78
  show GoP p e below Φ (T78.setTop (mkF m 95 #[.val (.ref g), .val (.ref aW), .val (.int pt), .val (.int (0 : Int32)), .val (.ref c0), .val (.ref b22), .unset, .unset, .unset] [(.ref r0), (.int (1 : Int32)), (.ref rl)]))
  obtain ⟨T79, X79, e79, st79⟩ := castY X78 hx hZ hown (own_w hw 20 rfl) e78 (Ins.self (H13.keep K64)) (g := (mkF m 95 #[.val (.ref g), .val (.ref aW), .val (.int pt), .val (.int (0 : Int32)), .val (.ref c0), .val (.ref b22), .unset, .unset, .unset] [(.ref r0), (.int (1 : Int32)), (.ref rl)])) rfl rfl (hb hby d_14_11__95)
  refine own_step st79 ?_
  show GoP p e below Φ (T79.setTop (mkF m 98 #[.val (.ref g), .val (.ref aW), .val (.int pt), .val (.int (0 : Int32)), .val (.ref c0), .val (.ref b22), .unset, .unset, .unset] [(.ref r0), (.int (1 : Int32)), (.ref rl)]))
  refine own_cloneI X79 hx hby hZ (by exact hml) hown (own_w hw 139 rfl) (own_w hw 140 rfl) (own_w hw 144 rfl) (own_w hw 142 rfl) (own_w hw 143 rfl) (own_w hw 145 rfl) e79 (H12.keep K64 nin_r0) rfl (H13.keep K64) (by decide) 2 (Nat.le_of_eq rfl) (by decide) 1 (Nat.le_of_ble_eq_true rfl) (by decide) (by decide) d_14_11__98 (pc' := 101) rfl ?_
  intro T80 h80 b80 X80 e80 E80 g80 V80 A80
  have ne_cu_b80 : cu ≠ b80 := Nat.ne_of_lt (g80 ▸ V64.lt)
  have ne_rl_b80 : rl ≠ b80 := Nat.ne_of_lt (g80 ▸ E67_rl.lt)
  have ne_es_b80 : es ≠ b80 := Nat.ne_of_lt (g80 ▸ V71_es.lt)
  have ne_b22_b80 : b22 ≠ b80 := Nat.ne_of_lt (g80 ▸ V73_b22.lt)
  have V81_cu := V64.ext E80
  have Y82_cu := Y66_cu.ext E80
  have E83_rl := E67_rl.ext E80
  have F84_modCount := F68_modCount.ext E80
  have F85_elementData := F69_elementData.ext E80
  have F86_size := F70_size.ext E80
  have V87_es := V71_es.ext E80
  have Y88_es := Y72_es.ext E80
  have V89_b22 := V73_b22.ext E80
  have E90_b22 := E74_b22.ext E80
  have Z80 : n0 ≤ h80.size := Nat.le_trans Z64 E80.1
  have n0_b80 : n0 ≤ b80 := g80 ▸ Z64
  have sz_b80 : h0.size ≤ b80 := g80 ▸ K64.1
  have K80 : Keep h0 h80 [cu, rl, es] := K64.ext E80
  show GoP p e below Φ (T80.setTop (mkF m 101 #[.val (.ref g), .val (.ref aW), .val (.int pt), .val (.int (0 : Int32)), .val (.ref c0), .val (.ref b22), .unset, .unset, .unset] [(.ref b80), (.int (1 : Int32)), (.ref rl)]))
  obtain ⟨T91, X91, e91, st91⟩ := castY X80 hx hZ hown (own_w hw 20 rfl) e80 (Ins.self A80) (g := (mkF m 101 #[.val (.ref g), .val (.ref aW), .val (.int pt), .val (.int (0 : Int32)), .val (.ref c0), .val (.ref b22), .unset, .unset, .unset] [(.ref b80), (.int (1 : Int32)), (.ref rl)])) rfl rfl (hb hby d_14_11__101)
  refine own_step st91 ?_
  show GoP p e below Φ (T91.setTop (mkF m 104 #[.val (.ref g), .val (.ref aW), .val (.int pt), .val (.int (0 : Int32)), .val (.ref c0), .val (.ref b22), .unset, .unset, .unset] [(.ref b80), (.int (1 : Int32)), (.ref rl)]))
  refine own_callF X91 hx hby hZ (by exact hml) hown (x0 := (⟨"java/util/List", "add", "(ILjava/lang/Object;)V"⟩ : MethodName)) (y := (⟨"java/util/ArrayList", "add", "(ILjava/lang/Object;)V"⟩ : MethodName)) (own_w hw 146 rfl) (own_w hw 147 rfl) (own_w hw 148 rfl) (own_w hw 149 rfl) (own_w hw 150 rfl) (own_w hw 151 rfl) (own_w hw 152 rfl) (own_w hw 69 rfl) (own_w hw 27 rfl) rfl (own_w hw 153 rfl) (by decide) e91 0 (by decide) (by decide) (by decide) (by decide) (argsL := [(.int (1 : Int32)), (.ref b80)]) (rest := []) (lenOf pd__ILjava_lang_Object__V rfl) rfl (Nat.le_of_eq rfl) E83_rl (rmAt11 l Z a0 hw rl es b80 r0 mc n0 h80 n0_rl n0_es (Ne.symm ne12_es_rl) E83_rl F84_modCount F85_elementData F86_size V87_es Y88_es A80 (H13.keep K80)) d_14_11__104 (pc' := 109) rfl ?_
  intro v92 T92 L92 X92 hQ92
  obtain ⟨rfl, Nq92, K92, G192, G292, G392, V92⟩ := hQ92
  have V93_cu := V81_cu.keep K92 (ninS (Ne.symm ne5_rl_cu) (ninS (Ne.symm ne6_es_cu) nin0))
  have Y94_cu := Y82_cu.keep K92
  have E95_rl := E83_rl.keep K92
  have Y96_es := Y88_es.keep K92
  have V97_b22 := V89_b22.keep K92 (ninS (Ne.symm ne_rl_b22) (ninS (Ne.symm ne_es_b22) nin0))
  have E98_b22 := E90_b22.keep K92
  have V99_b80 := V80.keep K92 (ninS (Ne.symm ne_rl_b80) (ninS (Ne.symm ne_es_b80) nin0))
  have E100_b80 := A80.keep K92
  have N92 := Fr.app N64 Nq92
  have Z92 : n0 ≤ T92.heap.size := Nat.le_trans Z80 K92.1
  have KK92 : Keep h0 T92.heap [cu, rl, es] := K80.trans K92 (allS (Or.inl (List.mem_of_getElem? (i := 1) rfl)) (allS (Or.inl (List.mem_of_getElem? (i := 2) rfl)) all0))
  show GoP p e below Φ (T92.setTop (mkF m 109 #[.val (.ref g), .val (.ref aW), .val (.int pt), .val (.int (0 : Int32)), .val (.ref c0), .val (.ref b22), .unset, .unset, .unset] []))
  refine own_goto X92 hx hby d_14_11__109 (by decide) (pc' := 202) (by decide) ?_
  exact own_ret0 X92 hx hby fin hret d_14_11__202 (by decide) (by decide) (by exact ⟨rfl, N92, KK92, b22, b80, (H0.keep KK92 nin_g), (H1.keep KK92 nin_g), V93_cu, Y94_cu, V97_b22, (H5.keep KK92 nin_c1), E95_rl, G192, G292, G392, V92, Y96_es, (H12.keep KK92 nin_r0), (H13.keep KK92), V99_b80, E100_b80⟩)
theorem ef_rmCut_0_0_0_0_1 (m : MethodId) (x0 : Addr) (x1 : Addr) (x2 : Int32) : entryFrame m #[(.ref x0), (.ref x1), (.int x2)] 9 = mkF m 0 #[.val (.ref x0), .val (.ref x1), .val (.int x2), .unset, .unset, .unset, .unset, .unset, .unset] [] := by first | (simp [entryFrame, mkF, argsToLocals, Value.category]; done) | rfl
set_option maxRecDepth 65536 in
set_option maxHeartbeats 40000000 in
theorem rmCut_0_0_0_0_1 (l : Launch) (Z : State) (a0 : Array Value) (hw : ∀ d ∈ tables_1, d.before a0 Z = true) (g aW aC cu c0 c1 rl es r0 : Addr) (pt u0 mc : Int32) (n0 : Nat) (h0 : Heap) (n0_cu : n0 ≤ cu) (n0_rl : n0 ≤ rl) (n0_es : n0 ≤ es) (Z0 : n0 ≤ h0.size) (ox : aW < n0)   (Eg : Exa Z h0 g "com/example/collectary/collectary/broker/Grid") (Exx : Exa Z h0 aW "com/example/collectary/collectary/broker/Grid$Axis") (Fo : Fld Z h0 aW "java/lang/Enum" "ordinal" "I" (.int (0 : Int32))) (SW : Sta Z h0 "com/example/collectary/collectary/broker/Grid$Axis" "WORD" "Lcom/example/collectary/collectary/broker/Grid$Axis;" (.ref aW)) (H0 : Fld Z h0 g "com/example/collectary/collectary/broker/Grid" "cuts" "[[I" (.ref cu)) (H1 : Fld Z h0 g "com/example/collectary/collectary/broker/Grid" "rows" "Ljava/util/List;" (.ref rl)) (H2 : AV Z h0 cu (.array .int) [.ref c0, .ref c1]) (H3 : CM Z h0 cu "[I") (H4 : AV Z h0 c0 .int []) (H5 : AV Z h0 c1 .int [(.int u0)]) (H6 : Exa Z h0 rl "java/util/ArrayList") (H7 : Fld Z h0 rl "java/util/AbstractList" "modCount" "I" (.int mc)) (H8 : Fld Z h0 rl "java/util/ArrayList" "elementData" "[Ljava/lang/Object;" (.ref es)) (H9 : Fld Z h0 rl "java/util/ArrayList" "size" "I" (.int (1 : Int32))) (H10 : AV Z h0 es (.object "java/lang/Object") [(.ref r0), .null, .null, .null, .null, .null, .null, .null, .null, .null]) (H11 : CM Z h0 es "java/lang/Object") (H12 : AV Z h0 r0 .int [(.int (0 : Int32)), (.int (0 : Int32))]) (H13 : Exa Z h0 r0 "[I") : Con l Z (⟨"com/example/collectary/collectary/broker/Grid", "addCut", "(Lcom/example/collectary/collectary/broker/Grid$Axis;I)V"⟩ : MethodName) prog_14_method_11_code 9 none [] ({ frames := 3, cells := 2, slots := 3, locals := 90 } : Room) #[(.ref g), (.ref aW), (.int pt)] h0 (fun v h L => v = none ∧ Fr n0 L ∧ Keep h0 h [cu, rl, es] ∧ ∃ cn rn : Addr, Fld Z h g "com/example/collectary/collectary/broker/Grid" "cuts" "[[I" (.ref cu) ∧ Fld Z h g "com/example/collectary/collectary/broker/Grid" "rows" "Ljava/util/List;" (.ref rl) ∧ AV Z h cu (.array .int) [.ref cn, .ref c1] ∧ CM Z h cu "[I" ∧ AV Z h cn .int [(.int pt)] ∧ AV Z h c1 .int [(.int u0)] ∧ Exa Z h rl "java/util/ArrayList" ∧ Fld Z h rl "java/util/AbstractList" "modCount" "I" (.int (mc + (1 : Int32))) ∧ Fld Z h rl "java/util/ArrayList" "elementData" "[Ljava/lang/Object;" (.ref es) ∧ Fld Z h rl "java/util/ArrayList" "size" "I" (.int (2 : Int32)) ∧ AV Z h es (.object "java/lang/Object") [(.ref r0), (.ref rn), .null, .null, .null, .null, .null, .null, .null, .null] ∧ CM Z h es "java/lang/Object" ∧ AV Z h r0 .int [(.int (0 : Int32)), (.int (0 : Int32))] ∧ Exa Z h r0 "[I" ∧ AV Z h rn .int [(.int (0 : Int32)), (.int (0 : Int32))] ∧ Exa Z h rn "[I") := by
  refine Con.of (plainFor_of_name pn_com_example_collectary_collectary_broker_Grid) ?_
  intro p e s m below meth c T X hx hby hml hown hnm hret eT hZ hsh Φ fin
  replace hown : s.vm.findClass "com/example/collectary/collectary/broker/Grid" = some m.cls := hown
  replace hml : 9 = c.maxLocals := hml.symm
  refine own_step (fun tq kq => castTop (ef_rmCut_0_0_0_0_1 m g aW pt) kq) ?_
  have N0 := Fr.nil n0
  have K0 : Keep h0 h0 [cu, rl, es] := Keep.refl h0 [cu, rl, es]
  have ne1_g_cu : g ≠ cu := own_ne_ea Eg (own_w hw 8 rfl) H2
  have ne2_aW_cu : aW ≠ cu := Nat.ne_of_lt (Nat.lt_of_lt_of_le ox n0_cu)
  have ne3_c0_cu : c0 ≠ cu := own_ne_av2 H4 H2 (by decide)
  have ne4_c1_cu : c1 ≠ cu := own_ne_av2 H5 H2 (by decide)
  have ne5_rl_cu : rl ≠ cu := own_ne_ea H6 (own_w hw 26 rfl) H2
  have ne6_es_cu : es ≠ cu := own_ne_av2 H10 H2 (by decide)
  have ne7_r0_cu : r0 ≠ cu := own_ne_av2 H12 H2 (by decide)
  have ne8_g_rl : g ≠ rl := ne_exa Eg H6 (by decide)
  have ne9_aW_rl : aW ≠ rl := Nat.ne_of_lt (Nat.lt_of_lt_of_le ox n0_rl)
  have ne10_c0_rl : c0 ≠ rl := (own_ne_ea H6 (own_w hw 26 rfl) H4).symm
  have ne11_c1_rl : c1 ≠ rl := (own_ne_ea H6 (own_w hw 26 rfl) H5).symm
  have ne12_es_rl : es ≠ rl := (own_ne_ea H6 (own_w hw 26 rfl) H10).symm
  have ne13_r0_rl : r0 ≠ rl := (own_ne_ea H6 (own_w hw 26 rfl) H12).symm
  have ne14_g_es : g ≠ es := own_ne_ea Eg (own_w hw 8 rfl) H10
  have ne15_aW_es : aW ≠ es := Nat.ne_of_lt (Nat.lt_of_lt_of_le ox n0_es)
  have ne16_c0_es : c0 ≠ es := own_ne_av2 H4 H10 (by decide)
  have ne17_c1_es : c1 ≠ es := own_ne_av2 H5 H10 (by decide)
  have ne18_r0_es : r0 ≠ es := own_ne_av2 H12 H10 (by decide)
  have nin_g : g ∉ [cu, rl, es] := (ninS ne1_g_cu (ninS ne8_g_rl (ninS ne14_g_es nin0)))
  have lt0_g := Eg.lt
  have nin_aW : aW ∉ [cu, rl, es] := (ninS ne2_aW_cu (ninS ne9_aW_rl (ninS ne15_aW_es nin0)))
  have lt0_aW := Exx.lt
  have nin_c0 : c0 ∉ [cu, rl, es] := (ninS ne3_c0_cu (ninS ne10_c0_rl (ninS ne16_c0_es nin0)))
  have lt0_c0 := H4.lt
  have nin_c1 : c1 ∉ [cu, rl, es] := (ninS ne4_c1_cu (ninS ne11_c1_rl (ninS ne17_c1_es nin0)))
  have lt0_c1 := H5.lt
  have nin_r0 : r0 ∉ [cu, rl, es] := (ninS ne7_r0_cu (ninS ne13_r0_rl (ninS ne18_r0_es nin0)))
  have lt0_r0 := H12.lt
  have plain_ws : ∀ x ∈ [cu, rl, es], ∀ c : Cell, h0[x]? = some c → c.vm.isStatics = false := (allS H2.plain (allS (own_plainE H6) (allS H10.plain all0)))
  refine own_aloadN X hx hby d_14_11__0 rfl rfl (pc' := 1) rfl ?_
  refine own_aloadN X hx hby d_14_11__1 rfl rfl (pc' := 2) rfl ?_
  refine own_iloadN X hx hby d_14_11__2 rfl (pc' := 3) rfl ?_
  refine own_iconst X hx hby d_14_11__3 (v := (1 : Int32)) rfl (pc' := 4) rfl ?_
  refine own_isub X hx hby d_14_11__4 (pc' := 5) rfl ?_
  refine own_callV X hx hby hZ (by exact hml) hown (own_w hw 102 rfl) (own_w hw 103 rfl) (own_w hw 105 rfl) (own_w hw 104 rfl) (own_w hw 9 rfl) (own_w hw 106 rfl) (by decide) eT 0 (by decide) (by decide) (by decide) (by decide) (argsL := [(.ref aW), (.int (pt - (1 : Int32)))]) (rest := []) (lenOf pd__Lcom_example_collectary_collectary_broker_Grid_Axis_I_I rfl) rfl (Nat.le_of_eq rfl) Eg (rmIv0_0 l Z a0 hw g aW cu c0 c1  (pt - (1 : Int32)) h0 Exx Fo H0 H2 H4) d_14_11__5 (pc' := 8) rfl ?_
  intro v19 T19 L19 X19 hQ19
  obtain ⟨rfl, rfl, e19⟩ := hQ19
  rw [List.append_nil] at X19
  replace e19 : T19.heap = h0 := e19
  show GoP p e below Φ (T19.setTop (mkF m 8 #[.val (.ref g), .val (.ref aW), .val (.int pt), .unset, .unset, .unset, .unset, .unset, .unset] [(.int (0 : Int32))]))
  refine own_istoreN X19 hx hby d_14_11__8  (Ls' := #[.val (.ref g), .val (.ref aW), .val (.int pt), .val (.int (0 : Int32)), .unset, .unset, .unset, .unset, .unset]) rfl (pc' := 9) rfl ?_
  refine own_aloadN X19 hx hby d_14_11__9 rfl rfl (pc' := 10) rfl ?_
  refine own_getF X19 hx hby hZ hown (host := "") (Or.inl (own_w hw 23 rfl)) Via.refl e19 H0 d_14_11__10 (pc' := 13) rfl ?_
  intro T20 X20 e20
  refine own_aloadN X20 hx hby d_14_11__13 rfl rfl (pc' := 14) rfl ?_
  refine own_callU X20 hx hby hZ (by exact hml) hown (x0 := (⟨"com/example/collectary/collectary/broker/Grid$Axis", "ordinal", "()I"⟩ : MethodName)) (y := (⟨"java/lang/Enum", "ordinal", "()I"⟩ : MethodName)) (own_w hw 52 rfl) (own_w hw 53 rfl) (own_w hw 54 rfl) (own_w hw 56 rfl) (own_w hw 55 rfl) (own_w hw 57 rfl) (own_w hw 58 rfl) (by decide) e20 1 (by decide) (by decide) (by decide) (by decide) (argsL := []) (rest := [(.ref cu)]) (lenOf pd___I rfl) rfl (Nat.le_of_eq rfl) Exx (rmO l Z a0 hw aW (0 : Int32) h0 Fo) d_14_11__14 (pc' := 17) rfl ?_
  intro v21 T21 L21 X21 hQ21
  obtain ⟨rfl, rfl, e21⟩ := hQ21
  rw [List.append_nil] at X21
  replace e21 : T21.heap = h0 := e21
  show GoP p e below Φ (T21.setTop (mkF m 17 #[.val (.ref g), .val (.ref aW), .val (.int pt), .val (.int (0 : Int32)), .unset, .unset, .unset, .unset, .unset] [(.int (0 : Int32)), (.ref cu)]))
  refine own_aaload X21 hx hby hZ e21 H2 rfl (by decide) (v := (.ref c0)) rfl d_14_11__17 (pc' := 18) rfl ?_
  refine own_astore X21 hx hby d_14_11__18 rfl (Ls' := #[.val (.ref g), .val (.ref aW), .val (.int pt), .val (.int (0 : Int32)), .val (.ref c0), .unset, .unset, .unset, .unset]) rfl (pc' := 20) rfl ?_
  refine own_aload X21 hx hby d_14_11__20 rfl rfl (pc' := 22) rfl ?_
  refine own_alen X21 hx hby hZ e21 (n := (0 : Int32)) H4 rfl d_14_11__22 (pc' := 23) rfl ?_
  refine own_iconst X21 hx hby d_14_11__23 (v := (1 : Int32)) rfl (pc' := 24) rfl ?_
  refine own_iadd X21 hx hby d_14_11__24 (pc' := 25) rfl ?_
  show GoP p e below Φ (T21.setTop (mkF m 25 #[.val (.ref g), .val (.ref aW), .val (.int pt), .val (.int (0 : Int32)), .val (.ref c0), .unset, .unset, .unset, .unset] [(.int (1 : Int32))]))
  refine own_newI X21 hx hby hZ (own_w hw 17 rfl) e21 (by decide) 1 (by decide) (by decide) (by decide) (by decide) d_14_11__25 (pc' := 27) rfl ?_
  intro T22 h22 b22 X22 e22 E22 g22 V22 I22 A22
  have ne_cu_b22 : cu ≠ b22 := Nat.ne_of_lt (g22 ▸ H2.lt)
  have ne_rl_b22 : rl ≠ b22 := Nat.ne_of_lt (g22 ▸ H6.lt)
  have ne_es_b22 : es ≠ b22 := Nat.ne_of_lt (g22 ▸ H10.lt)
  have V23_cu := H2.ext E22
  have Y24_cu := H3.ext E22
  have E25_rl := H6.ext E22
  have F26_modCount := H7.ext E22
  have F27_elementData := H8.ext E22
  have F28_size := H9.ext E22
  have V29_es := H10.ext E22
  have Y30_es := H11.ext E22
  have Z22 : n0 ≤ h22.size := Nat.le_trans Z0 E22.1
  have n0_b22 : n0 ≤ b22 := g22 ▸ Z0
  have sz_b22 : h0.size ≤ b22 := g22 ▸ K0.1
  have K22 : Keep h0 h22 [cu, rl, es] := K0.ext E22
  replace V22 : AV Z h22 b22 .int [(.int (0 : Int32))] := V22
  show GoP p e below Φ (T22.setTop (mkF m 27 #[.val (.ref g), .val (.ref aW), .val (.int pt), .val (.int (0 : Int32)), .val (.ref c0), .unset, .unset, .unset, .unset] [(.ref b22)]))
  refine own_astore X22 hx hby d_14_11__27 rfl (Ls' := #[.val (.ref g), .val (.ref aW), .val (.int pt), .val (.int (0 : Int32)), .val (.ref c0), .val (.ref b22), .unset, .unset, .unset]) rfl (pc' := 29) rfl ?_
  refine own_aload X22 hx hby d_14_11__29 rfl rfl (pc' := 31) rfl ?_
  refine own_iconst X22 hx hby d_14_11__31 (v := (0 : Int32)) rfl (pc' := 32) rfl ?_
  refine own_aload X22 hx hby d_14_11__32 rfl rfl (pc' := 34) rfl ?_
  refine own_iconst X22 hx hby d_14_11__34 (v := (0 : Int32)) rfl (pc' := 35) rfl ?_
  refine own_iloadN X22 hx hby d_14_11__35 rfl (pc' := 36) rfl ?_
  refine own_copyV X22 hx hby (dv := (.int 0)) hZ (by exact hml) hown (own_w hw 114 rfl) (own_w hw 117 rfl) (own_w hw 115 rfl) (own_w hw 116 rfl) e22 (H4.keep K22 nin_c0) V22 rfl rfl rfl (by decide) (by decide) (by decide) (Nat.le_of_ble_eq_true rfl) (Nat.le_of_ble_eq_true rfl) N0 n0_b22 (by decide) 0 (Nat.le_of_eq rfl) (by decide) d_14_11__36 (pc' := 39) rfl ?_
  intro T31 h31 L31 X31 e31 Nn31 K31 V31
  replace V31 : AV Z h31 b22 .int [(.int (0 : Int32))] := V31
  have V32_cu := V23_cu.keep K31 (ninS ne_cu_b22 nin0)
  have Y33_cu := Y24_cu.keep K31 
  have E34_rl := E25_rl.keep K31 
  have F35_modCount := F26_modCount.keep K31 (ninS ne_rl_b22 nin0)
  have F36_elementData := F27_elementData.keep K31 (ninS ne_rl_b22 nin0)
  have F37_size := F28_size.keep K31 (ninS ne_rl_b22 nin0)
  have V38_es := V29_es.keep K31 (ninS ne_es_b22 nin0)
  have Y39_es := Y30_es.keep K31 
  have E40_b22 := A22.keep K31 
  have KC31 : Keep h0 h31 [cu, rl, es] := K22.trans K31 (allS (Or.inr sz_b22) all0)
  have ZC31 : n0 ≤ h31.size := Nat.le_trans Z22 K31.1
  refine own_aload X31 hx hby d_14_11__39 rfl rfl (pc' := 41) rfl ?_
  refine own_iloadN X31 hx hby d_14_11__41 rfl (pc' := 42) rfl ?_
  refine own_iloadN X31 hx hby d_14_11__42 rfl (pc' := 43) rfl ?_
  refine own_iastore X31 hx hby hZ e31 V31 (by decide) (Nat.le_of_ble_eq_true rfl) d_14_11__43 (pc' := 44) rfl ?_
  intro T41 h41 X41 e41 W41 V41
  replace V41 : AV Z h41 b22 .int [(.int pt)] := V41
  have V42_cu := V32_cu.other W41 ne_cu_b22
  have Y43_cu := Y33_cu.wr W41
  have E44_rl := E34_rl.wr W41
  have F45_modCount := F35_modCount.other W41 (Or.inl ne_rl_b22)
  have F46_elementData := F36_elementData.other W41 (Or.inl ne_rl_b22)
  have F47_size := F37_size.other W41 (Or.inl ne_rl_b22)
  have V48_es := V38_es.other W41 ne_es_b22
  have Y49_es := Y39_es.wr W41
  have E51_b22 := E40_b22.wr W41
  have Z41 : n0 ≤ h41.size := by rw [W41.size]; exact ZC31
  have N41 := Fr.snoc X41 Nn31 n0_b22
  have K41 : Keep h0 h41 [cu, rl, es] := KC31.wr W41 (Or.inr sz_b22)
  refine own_aload X41 hx hby d_14_11__44 rfl rfl (pc' := 46) rfl ?_
  refine own_iloadN X41 hx hby d_14_11__46 rfl (pc' := 47) rfl ?_
  refine own_aload X41 hx hby d_14_11__47 rfl rfl (pc' := 49) rfl ?_
  refine own_iloadN X41 hx hby d_14_11__49 rfl (pc' := 50) rfl ?_
  refine own_iconst X41 hx hby d_14_11__50 (v := (1 : Int32)) rfl (pc' := 51) rfl ?_
  refine own_iadd X41 hx hby d_14_11__51 (pc' := 52) rfl ?_
  show GoP p e below Φ (T41.setTop (mkF m 52 #[.val (.ref g), .val (.ref aW), .val (.int pt), .val (.int (0 : Int32)), .val (.ref c0), .val (.ref b22), .unset, .unset, .unset] [(.int (1 : Int32)), (.ref b22), (.int (0 : Int32)), (.ref c0)]))
  refine own_aload X41 hx hby d_14_11__52 rfl rfl (pc' := 54) rfl ?_
  refine own_alen X41 hx hby hZ e41 (n := (0 : Int32)) (H4.keep K41 nin_c0) rfl d_14_11__54 (pc' := 55) rfl ?_
  refine own_iloadN X41 hx hby d_14_11__55 rfl (pc' := 56) rfl ?_
  refine own_isub X41 hx hby d_14_11__56 (pc' := 57) rfl ?_
  show GoP p e below Φ (T41.setTop (mkF m 57 #[.val (.ref g), .val (.ref aW), .val (.int pt), .val (.int (0 : Int32)), .val (.ref c0), .val (.ref b22), .unset, .unset, .unset] [(.int (0 : Int32)), (.int (1 : Int32)), (.ref b22), (.int (0 : Int32)), (.ref c0)]))
  refine own_copyV X41 hx hby (dv := (.int 0)) hZ (by exact hml) hown (own_w hw 114 rfl) (own_w hw 117 rfl) (own_w hw 115 rfl) (own_w hw 116 rfl) e41 (H4.keep K41 nin_c0) V41 rfl rfl rfl (by decide) (by decide) (by decide) (Nat.le_of_ble_eq_true rfl) (Nat.le_of_ble_eq_true rfl) N41 n0_b22 (by decide) 0 (Nat.le_of_eq rfl) (by decide) d_14_11__57 (pc' := 60) rfl ?_
  intro T52 h52 L52 X52 e52 Nn52 K52 V52
  replace V52 : AV Z h52 b22 .int [(.int pt)] := V52
  have V53_cu := V42_cu.keep K52 (ninS ne_cu_b22 nin0)
  have Y54_cu := Y43_cu.keep K52 
  have E55_rl := E44_rl.keep K52 
  have F56_modCount := F45_modCount.keep K52 (ninS ne_rl_b22 nin0)
  have F57_elementData := F46_elementData.keep K52 (ninS ne_rl_b22 nin0)
  have F58_size := F47_size.keep K52 (ninS ne_rl_b22 nin0)
  have V59_es := V48_es.keep K52 (ninS ne_es_b22 nin0)
  have Y60_es := Y49_es.keep K52 
  have E61_b22 := E51_b22.keep K52 
  have KC52 : Keep h0 h52 [cu, rl, es] := K41.trans K52 (allS (Or.inr sz_b22) all0)
  have ZC52 : n0 ≤ h52.size := Nat.le_trans Z41 K52.1
  refine own_aloadN X52 hx hby d_14_11__60 rfl rfl (pc' := 61) rfl ?_
  refine own_getF X52 hx hby hZ hown (host := "") (Or.inl (own_w hw 23 rfl)) Via.refl e52 (H0.keep KC52 nin_g) d_14_11__61 (pc' := 64) rfl ?_
  intro T62 X62 e62
  refine own_aloadN X62 hx hby d_14_11__64 rfl rfl (pc' := 65) rfl ?_
  refine own_callU X62 hx hby hZ (by exact hml) hown (x0 := (⟨"com/example/collectary/collectary/broker/Grid$Axis", "ordinal", "()I"⟩ : MethodName)) (y := (⟨"java/lang/Enum", "ordinal", "()I"⟩ : MethodName)) (own_w hw 52 rfl) (own_w hw 53 rfl) (own_w hw 54 rfl) (own_w hw 56 rfl) (own_w hw 55 rfl) (own_w hw 57 rfl) (own_w hw 58 rfl) (by decide) e62 1 (by decide) (by decide) (by decide) (by decide) (argsL := []) (rest := [(.ref cu)]) (lenOf pd___I rfl) rfl (Nat.le_of_eq rfl) (Exx.keep KC52) (rmO l Z a0 hw aW (0 : Int32) h52 (Fo.keep KC52 nin_aW)) d_14_11__65 (pc' := 68) rfl ?_
  intro v63 T63 L63 X63 hQ63
  obtain ⟨rfl, rfl, e63⟩ := hQ63
  rw [List.append_nil] at X63
  replace e63 : T63.heap = h52 := e63
  show GoP p e below Φ (T63.setTop (mkF m 68 #[.val (.ref g), .val (.ref aW), .val (.int pt), .val (.int (0 : Int32)), .val (.ref c0), .val (.ref b22), .unset, .unset, .unset] [(.int (0 : Int32)), (.ref cu)]))
  refine own_aload X63 hx hby d_14_11__68 rfl rfl (pc' := 70) rfl ?_
  refine own_aastore X63 hx hby hZ e63 V53_cu rfl (own_sto V53_cu Y54_cu (Ins.self E61_b22)) (by decide) (Nat.le_of_ble_eq_true rfl) d_14_11__70 (pc' := 71) rfl ?_
  intro T64 h64 X64 e64 W64 V64
  replace V64 : AV Z h64 cu (.array .int) [(.ref b22), (.ref c1)] := V64
  have Y66_cu := Y54_cu.wr W64
  have E67_rl := E55_rl.wr W64
  have F68_modCount := F56_modCount.other W64 (Or.inl ne5_rl_cu)
  have F69_elementData := F57_elementData.other W64 (Or.inl ne5_rl_cu)
  have F70_size := F58_size.other W64 (Or.inl ne5_rl_cu)
  have V71_es := V59_es.other W64 ne6_es_cu
  have Y72_es := Y60_es.wr W64
  have V73_b22 := V52.other W64 (Ne.symm ne_cu_b22)
  have E74_b22 := E61_b22.wr W64
  have Z64 : n0 ≤ h64.size := by rw [W64.size]; exact ZC52
  have N64 := Fr.snoc X64 Nn52 n0_cu
  have K64 : Keep h0 h64 [cu, rl, es] := KC52.wr W64 (Or.inl (List.mem_of_getElem? (i := 0) rfl))
  refine own_aloadN X64 hx hby d_14_11__71 rfl rfl (pc' := 72) rfl ?_
  refine own_getS X64 hx hby hZ hown (host := "") (Or.inl (own_w hw 51 rfl)) Via.refl e64 (own_stakeep SW K64 plain_ws) d_14_11__72 (pc' := 75) rfl ?_
  intro T75 X75 e75
  refine own_acmp X75 hx hby d_14_11__75 rfl rfl (same := true) (decide_eq_true (congrArg Value.ref rfl)) (by decide) (pc' := 78) (by decide) ?_
  refine own_aloadN X75 hx hby d_14_11__78 rfl rfl (pc' := 79) rfl ?_
  refine own_getF X75 hx hby hZ hown (host := "") (Or.inl (own_w hw 49 rfl)) Via.refl e75 (H1.keep K64 nin_g) d_14_11__79 (pc' := 82) rfl ?_
  intro T76 X76 e76
  refine own_iloadN X76 hx hby d_14_11__82 rfl (pc' := 83) rfl ?_
  refine own_iconst X76 hx hby d_14_11__83 (v := (1 : Int32)) rfl (pc' := 84) rfl ?_
  refine own_iadd X76 hx hby d_14_11__84 (pc' := 85) rfl ?_
  show GoP p e below Φ (T76.setTop (mkF m 85 #[.val (.ref g), .val (.ref aW), .val (.int pt), .val (.int (0 : Int32)), .val (.ref c0), .val (.ref b22), .unset, .unset, .unset] [(.int (1 : Int32)), (.ref rl)]))
  refine own_aloadN X76 hx hby d_14_11__85 rfl rfl (pc' := 86) rfl ?_
  refine own_getF X76 hx hby hZ hown (host := "") (Or.inl (own_w hw 49 rfl)) Via.refl e76 (H1.keep K64 nin_g) d_14_11__86 (pc' := 89) rfl ?_
  intro T77 X77 e77
  refine own_iloadN X77 hx hby d_14_11__89 rfl (pc' := 90) rfl ?_
  refine own_callF X77 hx hby hZ (by exact hml) hown (x0 := (⟨"java/util/List", "get", "(I)Ljava/lang/Object;"⟩ : MethodName)) (y := (⟨"java/util/ArrayList", "get", "(I)Ljava/lang/Object;"⟩ : MethodName)) (own_w hw 118 rfl) (own_w hw 119 rfl) (own_w hw 120 rfl) (own_w hw 121 rfl) (own_w hw 122 rfl) (own_w hw 123 rfl) (own_w hw 124 rfl) (own_w hw 69 rfl) (own_w hw 27 rfl) rfl (own_w hw 125 rfl) (by decide) e77 2 (by decide) (by decide) (by decide) (by decide) (argsL := [(.int (0 : Int32))]) (rest := [(.int (1 : Int32)), (.ref rl)]) (lenOf pd__I_Ljava_lang_Object_ rfl) rfl (Nat.le_of_eq rfl) E67_rl (rmG0 l Z a0 hw rl es r0 (1 : Int32) .null .null .null .null .null .null .null .null .null h64 (by decide) E67_rl F70_size F69_elementData V71_es) d_14_11__90 (pc' := 95) rfl ?_
  intro v78 T78 L78 X78 hQ78
  obtain ⟨rfl, rfl, e78⟩ := hQ78
  rw [List.append_nil] at X78
  replace e78 : T78.heap = h64 := e78
  show GoP p e below Φ (T78.setTop (mkF m 95 #[.val (.ref g), .val (.ref aW), .val (.int pt), .val (.int (0 : Int32)), .val (.ref c0), .val (.ref b22), .unset, .unset, .unset] [(.ref r0), (.int (1 : Int32)), (.ref rl)]))
  obtain ⟨T79, X79, e79, st79⟩ := castY X78 hx hZ hown (own_w hw 20 rfl) e78 (Ins.self (H13.keep K64)) (g := (mkF m 95 #[.val (.ref g), .val (.ref aW), .val (.int pt), .val (.int (0 : Int32)), .val (.ref c0), .val (.ref b22), .unset, .unset, .unset] [(.ref r0), (.int (1 : Int32)), (.ref rl)])) rfl rfl (hb hby d_14_11__95)
  refine own_step st79 ?_
  show GoP p e below Φ (T79.setTop (mkF m 98 #[.val (.ref g), .val (.ref aW), .val (.int pt), .val (.int (0 : Int32)), .val (.ref c0), .val (.ref b22), .unset, .unset, .unset] [(.ref r0), (.int (1 : Int32)), (.ref rl)]))
  refine own_cloneI X79 hx hby hZ (by exact hml) hown (own_w hw 139 rfl) (own_w hw 140 rfl) (own_w hw 144 rfl) (own_w hw 142 rfl) (own_w hw 143 rfl) (own_w hw 145 rfl) e79 (H12.keep K64 nin_r0) rfl (H13.keep K64) (by decide) 2 (Nat.le_of_eq rfl) (by decide) 2 (Nat.le_of_ble_eq_true rfl) (by decide) (by decide) d_14_11__98 (pc' := 101) rfl ?_
  intro T80 h80 b80 X80 e80 E80 g80 V80 A80
  have ne_cu_b80 : cu ≠ b80 := Nat.ne_of_lt (g80 ▸ V64.lt)
  have ne_rl_b80 : rl ≠ b80 := Nat.ne_of_lt (g80 ▸ E67_rl.lt)
  have ne_es_b80 : es ≠ b80 := Nat.ne_of_lt (g80 ▸ V71_es.lt)
  have ne_b22_b80 : b22 ≠ b80 := Nat.ne_of_lt (g80 ▸ V73_b22.lt)
  have V81_cu := V64.ext E80
  have Y82_cu := Y66_cu.ext E80
  have E83_rl := E67_rl.ext E80
  have F84_modCount := F68_modCount.ext E80
  have F85_elementData := F69_elementData.ext E80
  have F86_size := F70_size.ext E80
  have V87_es := V71_es.ext E80
  have Y88_es := Y72_es.ext E80
  have V89_b22 := V73_b22.ext E80
  have E90_b22 := E74_b22.ext E80
  have Z80 : n0 ≤ h80.size := Nat.le_trans Z64 E80.1
  have n0_b80 : n0 ≤ b80 := g80 ▸ Z64
  have sz_b80 : h0.size ≤ b80 := g80 ▸ K64.1
  have K80 : Keep h0 h80 [cu, rl, es] := K64.ext E80
  show GoP p e below Φ (T80.setTop (mkF m 101 #[.val (.ref g), .val (.ref aW), .val (.int pt), .val (.int (0 : Int32)), .val (.ref c0), .val (.ref b22), .unset, .unset, .unset] [(.ref b80), (.int (1 : Int32)), (.ref rl)]))
  obtain ⟨T91, X91, e91, st91⟩ := castY X80 hx hZ hown (own_w hw 20 rfl) e80 (Ins.self A80) (g := (mkF m 101 #[.val (.ref g), .val (.ref aW), .val (.int pt), .val (.int (0 : Int32)), .val (.ref c0), .val (.ref b22), .unset, .unset, .unset] [(.ref b80), (.int (1 : Int32)), (.ref rl)])) rfl rfl (hb hby d_14_11__101)
  refine own_step st91 ?_
  show GoP p e below Φ (T91.setTop (mkF m 104 #[.val (.ref g), .val (.ref aW), .val (.int pt), .val (.int (0 : Int32)), .val (.ref c0), .val (.ref b22), .unset, .unset, .unset] [(.ref b80), (.int (1 : Int32)), (.ref rl)]))
  refine own_callF X91 hx hby hZ (by exact hml) hown (x0 := (⟨"java/util/List", "add", "(ILjava/lang/Object;)V"⟩ : MethodName)) (y := (⟨"java/util/ArrayList", "add", "(ILjava/lang/Object;)V"⟩ : MethodName)) (own_w hw 146 rfl) (own_w hw 147 rfl) (own_w hw 148 rfl) (own_w hw 149 rfl) (own_w hw 150 rfl) (own_w hw 151 rfl) (own_w hw 152 rfl) (own_w hw 69 rfl) (own_w hw 27 rfl) rfl (own_w hw 153 rfl) (by decide) e91 0 (by decide) (by decide) (by decide) (by decide) (argsL := [(.int (1 : Int32)), (.ref b80)]) (rest := []) (lenOf pd__ILjava_lang_Object__V rfl) rfl (Nat.le_of_eq rfl) E83_rl (rmAt11 l Z a0 hw rl es b80 r0 mc n0 h80 n0_rl n0_es (Ne.symm ne12_es_rl) E83_rl F84_modCount F85_elementData F86_size V87_es Y88_es A80 (H13.keep K80)) d_14_11__104 (pc' := 109) rfl ?_
  intro v92 T92 L92 X92 hQ92
  obtain ⟨rfl, Nq92, K92, G192, G292, G392, V92⟩ := hQ92
  have V93_cu := V81_cu.keep K92 (ninS (Ne.symm ne5_rl_cu) (ninS (Ne.symm ne6_es_cu) nin0))
  have Y94_cu := Y82_cu.keep K92
  have E95_rl := E83_rl.keep K92
  have Y96_es := Y88_es.keep K92
  have V97_b22 := V89_b22.keep K92 (ninS (Ne.symm ne_rl_b22) (ninS (Ne.symm ne_es_b22) nin0))
  have E98_b22 := E90_b22.keep K92
  have V99_b80 := V80.keep K92 (ninS (Ne.symm ne_rl_b80) (ninS (Ne.symm ne_es_b80) nin0))
  have E100_b80 := A80.keep K92
  have N92 := Fr.app N64 Nq92
  have Z92 : n0 ≤ T92.heap.size := Nat.le_trans Z80 K92.1
  have KK92 : Keep h0 T92.heap [cu, rl, es] := K80.trans K92 (allS (Or.inl (List.mem_of_getElem? (i := 1) rfl)) (allS (Or.inl (List.mem_of_getElem? (i := 2) rfl)) all0))
  show GoP p e below Φ (T92.setTop (mkF m 109 #[.val (.ref g), .val (.ref aW), .val (.int pt), .val (.int (0 : Int32)), .val (.ref c0), .val (.ref b22), .unset, .unset, .unset] []))
  refine own_goto X92 hx hby d_14_11__109 (by decide) (pc' := 202) (by decide) ?_
  exact own_ret0 X92 hx hby fin hret d_14_11__202 (by decide) (by decide) (by exact ⟨rfl, N92, KK92, b22, b80, (H0.keep KK92 nin_g), (H1.keep KK92 nin_g), V93_cu, Y94_cu, V97_b22, (H5.keep KK92 nin_c1), E95_rl, G192, G292, G392, V92, Y96_es, (H12.keep KK92 nin_r0), (H13.keep KK92), V99_b80, E100_b80⟩)
theorem ef_rmCut_0_0_0_0_2 (m : MethodId) (x0 : Addr) (x1 : Addr) (x2 : Int32) : entryFrame m #[(.ref x0), (.ref x1), (.int x2)] 9 = mkF m 0 #[.val (.ref x0), .val (.ref x1), .val (.int x2), .unset, .unset, .unset, .unset, .unset, .unset] [] := by first | (simp [entryFrame, mkF, argsToLocals, Value.category]; done) | rfl
set_option maxRecDepth 65536 in
set_option maxHeartbeats 40000000 in
theorem rmCut_0_0_0_0_2 (l : Launch) (Z : State) (a0 : Array Value) (hw : ∀ d ∈ tables_1, d.before a0 Z = true) (g aW aC cu c0 c1 rl es r0 : Addr) (pt u0 u1 mc : Int32) (n0 : Nat) (h0 : Heap) (n0_cu : n0 ≤ cu) (n0_rl : n0 ≤ rl) (n0_es : n0 ≤ es) (Z0 : n0 ≤ h0.size) (ox : aW < n0)   (Eg : Exa Z h0 g "com/example/collectary/collectary/broker/Grid") (Exx : Exa Z h0 aW "com/example/collectary/collectary/broker/Grid$Axis") (Fo : Fld Z h0 aW "java/lang/Enum" "ordinal" "I" (.int (0 : Int32))) (SW : Sta Z h0 "com/example/collectary/collectary/broker/Grid$Axis" "WORD" "Lcom/example/collectary/collectary/broker/Grid$Axis;" (.ref aW)) (H0 : Fld Z h0 g "com/example/collectary/collectary/broker/Grid" "cuts" "[[I" (.ref cu)) (H1 : Fld Z h0 g "com/example/collectary/collectary/broker/Grid" "rows" "Ljava/util/List;" (.ref rl)) (H2 : AV Z h0 cu (.array .int) [.ref c0, .ref c1]) (H3 : CM Z h0 cu "[I") (H4 : AV Z h0 c0 .int []) (H5 : AV Z h0 c1 .int [(.int u0), (.int u1)]) (H6 : Exa Z h0 rl "java/util/ArrayList") (H7 : Fld Z h0 rl "java/util/AbstractList" "modCount" "I" (.int mc)) (H8 : Fld Z h0 rl "java/util/ArrayList" "elementData" "[Ljava/lang/Object;" (.ref es)) (H9 : Fld Z h0 rl "java/util/ArrayList" "size" "I" (.int (1 : Int32))) (H10 : AV Z h0 es (.object "java/lang/Object") [(.ref r0), .null, .null, .null, .null, .null, .null, .null, .null, .null]) (H11 : CM Z h0 es "java/lang/Object") (H12 : AV Z h0 r0 .int [(.int (0 : Int32)), (.int (0 : Int32)), (.int (0 : Int32))]) (H13 : Exa Z h0 r0 "[I") : Con l Z (⟨"com/example/collectary/collectary/broker/Grid", "addCut", "(Lcom/example/collectary/collectary/broker/Grid$Axis;I)V"⟩ : MethodName) prog_14_method_11_code 9 none [] ({ frames := 3, cells := 2, slots := 4, locals := 90 } : Room) #[(.ref g), (.ref aW), (.int pt)] h0 (fun v h L => v = none ∧ Fr n0 L ∧ Keep h0 h [cu, rl, es] ∧ ∃ cn rn : Addr, Fld Z h g "com/example/collectary/collectary/broker/Grid" "cuts" "[[I" (.ref cu) ∧ Fld Z h g "com/example/collectary/collectary/broker/Grid" "rows" "Ljava/util/List;" (.ref rl) ∧ AV Z h cu (.array .int) [.ref cn, .ref c1] ∧ CM Z h cu "[I" ∧ AV Z h cn .int [(.int pt)] ∧ AV Z h c1 .int [(.int u0), (.int u1)] ∧ Exa Z h rl "java/util/ArrayList" ∧ Fld Z h rl "java/util/AbstractList" "modCount" "I" (.int (mc + (1 : Int32))) ∧ Fld Z h rl "java/util/ArrayList" "elementData" "[Ljava/lang/Object;" (.ref es) ∧ Fld Z h rl "java/util/ArrayList" "size" "I" (.int (2 : Int32)) ∧ AV Z h es (.object "java/lang/Object") [(.ref r0), (.ref rn), .null, .null, .null, .null, .null, .null, .null, .null] ∧ CM Z h es "java/lang/Object" ∧ AV Z h r0 .int [(.int (0 : Int32)), (.int (0 : Int32)), (.int (0 : Int32))] ∧ Exa Z h r0 "[I" ∧ AV Z h rn .int [(.int (0 : Int32)), (.int (0 : Int32)), (.int (0 : Int32))] ∧ Exa Z h rn "[I") := by
  refine Con.of (plainFor_of_name pn_com_example_collectary_collectary_broker_Grid) ?_
  intro p e s m below meth c T X hx hby hml hown hnm hret eT hZ hsh Φ fin
  replace hown : s.vm.findClass "com/example/collectary/collectary/broker/Grid" = some m.cls := hown
  replace hml : 9 = c.maxLocals := hml.symm
  refine own_step (fun tq kq => castTop (ef_rmCut_0_0_0_0_2 m g aW pt) kq) ?_
  have N0 := Fr.nil n0
  have K0 : Keep h0 h0 [cu, rl, es] := Keep.refl h0 [cu, rl, es]
  have ne1_g_cu : g ≠ cu := own_ne_ea Eg (own_w hw 8 rfl) H2
  have ne2_aW_cu : aW ≠ cu := Nat.ne_of_lt (Nat.lt_of_lt_of_le ox n0_cu)
  have ne3_c0_cu : c0 ≠ cu := own_ne_av2 H4 H2 (by decide)
  have ne4_c1_cu : c1 ≠ cu := own_ne_av2 H5 H2 (by decide)
  have ne5_rl_cu : rl ≠ cu := own_ne_ea H6 (own_w hw 26 rfl) H2
  have ne6_es_cu : es ≠ cu := own_ne_av2 H10 H2 (by decide)
  have ne7_r0_cu : r0 ≠ cu := own_ne_av2 H12 H2 (by decide)
  have ne8_g_rl : g ≠ rl := ne_exa Eg H6 (by decide)
  have ne9_aW_rl : aW ≠ rl := Nat.ne_of_lt (Nat.lt_of_lt_of_le ox n0_rl)
  have ne10_c0_rl : c0 ≠ rl := (own_ne_ea H6 (own_w hw 26 rfl) H4).symm
  have ne11_c1_rl : c1 ≠ rl := (own_ne_ea H6 (own_w hw 26 rfl) H5).symm
  have ne12_es_rl : es ≠ rl := (own_ne_ea H6 (own_w hw 26 rfl) H10).symm
  have ne13_r0_rl : r0 ≠ rl := (own_ne_ea H6 (own_w hw 26 rfl) H12).symm
  have ne14_g_es : g ≠ es := own_ne_ea Eg (own_w hw 8 rfl) H10
  have ne15_aW_es : aW ≠ es := Nat.ne_of_lt (Nat.lt_of_lt_of_le ox n0_es)
  have ne16_c0_es : c0 ≠ es := own_ne_av2 H4 H10 (by decide)
  have ne17_c1_es : c1 ≠ es := own_ne_av2 H5 H10 (by decide)
  have ne18_r0_es : r0 ≠ es := own_ne_av2 H12 H10 (by decide)
  have nin_g : g ∉ [cu, rl, es] := (ninS ne1_g_cu (ninS ne8_g_rl (ninS ne14_g_es nin0)))
  have lt0_g := Eg.lt
  have nin_aW : aW ∉ [cu, rl, es] := (ninS ne2_aW_cu (ninS ne9_aW_rl (ninS ne15_aW_es nin0)))
  have lt0_aW := Exx.lt
  have nin_c0 : c0 ∉ [cu, rl, es] := (ninS ne3_c0_cu (ninS ne10_c0_rl (ninS ne16_c0_es nin0)))
  have lt0_c0 := H4.lt
  have nin_c1 : c1 ∉ [cu, rl, es] := (ninS ne4_c1_cu (ninS ne11_c1_rl (ninS ne17_c1_es nin0)))
  have lt0_c1 := H5.lt
  have nin_r0 : r0 ∉ [cu, rl, es] := (ninS ne7_r0_cu (ninS ne13_r0_rl (ninS ne18_r0_es nin0)))
  have lt0_r0 := H12.lt
  have plain_ws : ∀ x ∈ [cu, rl, es], ∀ c : Cell, h0[x]? = some c → c.vm.isStatics = false := (allS H2.plain (allS (own_plainE H6) (allS H10.plain all0)))
  refine own_aloadN X hx hby d_14_11__0 rfl rfl (pc' := 1) rfl ?_
  refine own_aloadN X hx hby d_14_11__1 rfl rfl (pc' := 2) rfl ?_
  refine own_iloadN X hx hby d_14_11__2 rfl (pc' := 3) rfl ?_
  refine own_iconst X hx hby d_14_11__3 (v := (1 : Int32)) rfl (pc' := 4) rfl ?_
  refine own_isub X hx hby d_14_11__4 (pc' := 5) rfl ?_
  refine own_callV X hx hby hZ (by exact hml) hown (own_w hw 102 rfl) (own_w hw 103 rfl) (own_w hw 105 rfl) (own_w hw 104 rfl) (own_w hw 9 rfl) (own_w hw 106 rfl) (by decide) eT 0 (by decide) (by decide) (by decide) (by decide) (argsL := [(.ref aW), (.int (pt - (1 : Int32)))]) (rest := []) (lenOf pd__Lcom_example_collectary_collectary_broker_Grid_Axis_I_I rfl) rfl (Nat.le_of_eq rfl) Eg (rmIv0_0 l Z a0 hw g aW cu c0 c1  (pt - (1 : Int32)) h0 Exx Fo H0 H2 H4) d_14_11__5 (pc' := 8) rfl ?_
  intro v19 T19 L19 X19 hQ19
  obtain ⟨rfl, rfl, e19⟩ := hQ19
  rw [List.append_nil] at X19
  replace e19 : T19.heap = h0 := e19
  show GoP p e below Φ (T19.setTop (mkF m 8 #[.val (.ref g), .val (.ref aW), .val (.int pt), .unset, .unset, .unset, .unset, .unset, .unset] [(.int (0 : Int32))]))
  refine own_istoreN X19 hx hby d_14_11__8  (Ls' := #[.val (.ref g), .val (.ref aW), .val (.int pt), .val (.int (0 : Int32)), .unset, .unset, .unset, .unset, .unset]) rfl (pc' := 9) rfl ?_
  refine own_aloadN X19 hx hby d_14_11__9 rfl rfl (pc' := 10) rfl ?_
  refine own_getF X19 hx hby hZ hown (host := "") (Or.inl (own_w hw 23 rfl)) Via.refl e19 H0 d_14_11__10 (pc' := 13) rfl ?_
  intro T20 X20 e20
  refine own_aloadN X20 hx hby d_14_11__13 rfl rfl (pc' := 14) rfl ?_
  refine own_callU X20 hx hby hZ (by exact hml) hown (x0 := (⟨"com/example/collectary/collectary/broker/Grid$Axis", "ordinal", "()I"⟩ : MethodName)) (y := (⟨"java/lang/Enum", "ordinal", "()I"⟩ : MethodName)) (own_w hw 52 rfl) (own_w hw 53 rfl) (own_w hw 54 rfl) (own_w hw 56 rfl) (own_w hw 55 rfl) (own_w hw 57 rfl) (own_w hw 58 rfl) (by decide) e20 1 (by decide) (by decide) (by decide) (by decide) (argsL := []) (rest := [(.ref cu)]) (lenOf pd___I rfl) rfl (Nat.le_of_eq rfl) Exx (rmO l Z a0 hw aW (0 : Int32) h0 Fo) d_14_11__14 (pc' := 17) rfl ?_
  intro v21 T21 L21 X21 hQ21
  obtain ⟨rfl, rfl, e21⟩ := hQ21
  rw [List.append_nil] at X21
  replace e21 : T21.heap = h0 := e21
  show GoP p e below Φ (T21.setTop (mkF m 17 #[.val (.ref g), .val (.ref aW), .val (.int pt), .val (.int (0 : Int32)), .unset, .unset, .unset, .unset, .unset] [(.int (0 : Int32)), (.ref cu)]))
  refine own_aaload X21 hx hby hZ e21 H2 rfl (by decide) (v := (.ref c0)) rfl d_14_11__17 (pc' := 18) rfl ?_
  refine own_astore X21 hx hby d_14_11__18 rfl (Ls' := #[.val (.ref g), .val (.ref aW), .val (.int pt), .val (.int (0 : Int32)), .val (.ref c0), .unset, .unset, .unset, .unset]) rfl (pc' := 20) rfl ?_
  refine own_aload X21 hx hby d_14_11__20 rfl rfl (pc' := 22) rfl ?_
  refine own_alen X21 hx hby hZ e21 (n := (0 : Int32)) H4 rfl d_14_11__22 (pc' := 23) rfl ?_
  refine own_iconst X21 hx hby d_14_11__23 (v := (1 : Int32)) rfl (pc' := 24) rfl ?_
  refine own_iadd X21 hx hby d_14_11__24 (pc' := 25) rfl ?_
  show GoP p e below Φ (T21.setTop (mkF m 25 #[.val (.ref g), .val (.ref aW), .val (.int pt), .val (.int (0 : Int32)), .val (.ref c0), .unset, .unset, .unset, .unset] [(.int (1 : Int32))]))
  refine own_newI X21 hx hby hZ (own_w hw 17 rfl) e21 (by decide) 1 (by decide) (by decide) (by decide) (by decide) d_14_11__25 (pc' := 27) rfl ?_
  intro T22 h22 b22 X22 e22 E22 g22 V22 I22 A22
  have ne_cu_b22 : cu ≠ b22 := Nat.ne_of_lt (g22 ▸ H2.lt)
  have ne_rl_b22 : rl ≠ b22 := Nat.ne_of_lt (g22 ▸ H6.lt)
  have ne_es_b22 : es ≠ b22 := Nat.ne_of_lt (g22 ▸ H10.lt)
  have V23_cu := H2.ext E22
  have Y24_cu := H3.ext E22
  have E25_rl := H6.ext E22
  have F26_modCount := H7.ext E22
  have F27_elementData := H8.ext E22
  have F28_size := H9.ext E22
  have V29_es := H10.ext E22
  have Y30_es := H11.ext E22
  have Z22 : n0 ≤ h22.size := Nat.le_trans Z0 E22.1
  have n0_b22 : n0 ≤ b22 := g22 ▸ Z0
  have sz_b22 : h0.size ≤ b22 := g22 ▸ K0.1
  have K22 : Keep h0 h22 [cu, rl, es] := K0.ext E22
  replace V22 : AV Z h22 b22 .int [(.int (0 : Int32))] := V22
  show GoP p e below Φ (T22.setTop (mkF m 27 #[.val (.ref g), .val (.ref aW), .val (.int pt), .val (.int (0 : Int32)), .val (.ref c0), .unset, .unset, .unset, .unset] [(.ref b22)]))
  refine own_astore X22 hx hby d_14_11__27 rfl (Ls' := #[.val (.ref g), .val (.ref aW), .val (.int pt), .val (.int (0 : Int32)), .val (.ref c0), .val (.ref b22), .unset, .unset, .unset]) rfl (pc' := 29) rfl ?_
  refine own_aload X22 hx hby d_14_11__29 rfl rfl (pc' := 31) rfl ?_
  refine own_iconst X22 hx hby d_14_11__31 (v := (0 : Int32)) rfl (pc' := 32) rfl ?_
  refine own_aload X22 hx hby d_14_11__32 rfl rfl (pc' := 34) rfl ?_
  refine own_iconst X22 hx hby d_14_11__34 (v := (0 : Int32)) rfl (pc' := 35) rfl ?_
  refine own_iloadN X22 hx hby d_14_11__35 rfl (pc' := 36) rfl ?_
  refine own_copyV X22 hx hby (dv := (.int 0)) hZ (by exact hml) hown (own_w hw 114 rfl) (own_w hw 117 rfl) (own_w hw 115 rfl) (own_w hw 116 rfl) e22 (H4.keep K22 nin_c0) V22 rfl rfl rfl (by decide) (by decide) (by decide) (Nat.le_of_ble_eq_true rfl) (Nat.le_of_ble_eq_true rfl) N0 n0_b22 (by decide) 0 (Nat.le_of_eq rfl) (by decide) d_14_11__36 (pc' := 39) rfl ?_
  intro T31 h31 L31 X31 e31 Nn31 K31 V31
  replace V31 : AV Z h31 b22 .int [(.int (0 : Int32))] := V31
  have V32_cu := V23_cu.keep K31 (ninS ne_cu_b22 nin0)
  have Y33_cu := Y24_cu.keep K31 
  have E34_rl := E25_rl.keep K31 
  have F35_modCount := F26_modCount.keep K31 (ninS ne_rl_b22 nin0)
  have F36_elementData := F27_elementData.keep K31 (ninS ne_rl_b22 nin0)
  have F37_size := F28_size.keep K31 (ninS ne_rl_b22 nin0)
  have V38_es := V29_es.keep K31 (ninS ne_es_b22 nin0)
  have Y39_es := Y30_es.keep K31 
  have E40_b22 := A22.keep K31 
  have KC31 : Keep h0 h31 [cu, rl, es] := K22.trans K31 (allS (Or.inr sz_b22) all0)
  have ZC31 : n0 ≤ h31.size := Nat.le_trans Z22 K31.1
  refine own_aload X31 hx hby d_14_11__39 rfl rfl (pc' := 41) rfl ?_
  refine own_iloadN X31 hx hby d_14_11__41 rfl (pc' := 42) rfl ?_
  refine own_iloadN X31 hx hby d_14_11__42 rfl (pc' := 43) rfl ?_
  refine own_iastore X31 hx hby hZ e31 V31 (by decide) (Nat.le_of_ble_eq_true rfl) d_14_11__43 (pc' := 44) rfl ?_
  intro T41 h41 X41 e41 W41 V41
  replace V41 : AV Z h41 b22 .int [(.int pt)] := V41
  have V42_cu := V32_cu.other W41 ne_cu_b22
  have Y43_cu := Y33_cu.wr W41
  have E44_rl := E34_rl.wr W41
  have F45_modCount := F35_modCount.other W41 (Or.inl ne_rl_b22)
  have F46_elementData := F36_elementData.other W41 (Or.inl ne_rl_b22)
  have F47_size := F37_size.other W41 (Or.inl ne_rl_b22)
  have V48_es := V38_es.other W41 ne_es_b22
  have Y49_es := Y39_es.wr W41
  have E51_b22 := E40_b22.wr W41
  have Z41 : n0 ≤ h41.size := by rw [W41.size]; exact ZC31
  have N41 := Fr.snoc X41 Nn31 n0_b22
  have K41 : Keep h0 h41 [cu, rl, es] := KC31.wr W41 (Or.inr sz_b22)
  refine own_aload X41 hx hby d_14_11__44 rfl rfl (pc' := 46) rfl ?_
  refine own_iloadN X41 hx hby d_14_11__46 rfl (pc' := 47) rfl ?_
  refine own_aload X41 hx hby d_14_11__47 rfl rfl (pc' := 49) rfl ?_
  refine own_iloadN X41 hx hby d_14_11__49 rfl (pc' := 50) rfl ?_
  refine own_iconst X41 hx hby d_14_11__50 (v := (1 : Int32)) rfl (pc' := 51) rfl ?_
  refine own_iadd X41 hx hby d_14_11__51 (pc' := 52) rfl ?_
  show GoP p e below Φ (T41.setTop (mkF m 52 #[.val (.ref g), .val (.ref aW), .val (.int pt), .val (.int (0 : Int32)), .val (.ref c0), .val (.ref b22), .unset, .unset, .unset] [(.int (1 : Int32)), (.ref b22), (.int (0 : Int32)), (.ref c0)]))
  refine own_aload X41 hx hby d_14_11__52 rfl rfl (pc' := 54) rfl ?_
  refine own_alen X41 hx hby hZ e41 (n := (0 : Int32)) (H4.keep K41 nin_c0) rfl d_14_11__54 (pc' := 55) rfl ?_
  refine own_iloadN X41 hx hby d_14_11__55 rfl (pc' := 56) rfl ?_
  refine own_isub X41 hx hby d_14_11__56 (pc' := 57) rfl ?_
  show GoP p e below Φ (T41.setTop (mkF m 57 #[.val (.ref g), .val (.ref aW), .val (.int pt), .val (.int (0 : Int32)), .val (.ref c0), .val (.ref b22), .unset, .unset, .unset] [(.int (0 : Int32)), (.int (1 : Int32)), (.ref b22), (.int (0 : Int32)), (.ref c0)]))
  refine own_copyV X41 hx hby (dv := (.int 0)) hZ (by exact hml) hown (own_w hw 114 rfl) (own_w hw 117 rfl) (own_w hw 115 rfl) (own_w hw 116 rfl) e41 (H4.keep K41 nin_c0) V41 rfl rfl rfl (by decide) (by decide) (by decide) (Nat.le_of_ble_eq_true rfl) (Nat.le_of_ble_eq_true rfl) N41 n0_b22 (by decide) 0 (Nat.le_of_eq rfl) (by decide) d_14_11__57 (pc' := 60) rfl ?_
  intro T52 h52 L52 X52 e52 Nn52 K52 V52
  replace V52 : AV Z h52 b22 .int [(.int pt)] := V52
  have V53_cu := V42_cu.keep K52 (ninS ne_cu_b22 nin0)
  have Y54_cu := Y43_cu.keep K52 
  have E55_rl := E44_rl.keep K52 
  have F56_modCount := F45_modCount.keep K52 (ninS ne_rl_b22 nin0)
  have F57_elementData := F46_elementData.keep K52 (ninS ne_rl_b22 nin0)
  have F58_size := F47_size.keep K52 (ninS ne_rl_b22 nin0)
  have V59_es := V48_es.keep K52 (ninS ne_es_b22 nin0)
  have Y60_es := Y49_es.keep K52 
  have E61_b22 := E51_b22.keep K52 
  have KC52 : Keep h0 h52 [cu, rl, es] := K41.trans K52 (allS (Or.inr sz_b22) all0)
  have ZC52 : n0 ≤ h52.size := Nat.le_trans Z41 K52.1
  refine own_aloadN X52 hx hby d_14_11__60 rfl rfl (pc' := 61) rfl ?_
  refine own_getF X52 hx hby hZ hown (host := "") (Or.inl (own_w hw 23 rfl)) Via.refl e52 (H0.keep KC52 nin_g) d_14_11__61 (pc' := 64) rfl ?_
  intro T62 X62 e62
  refine own_aloadN X62 hx hby d_14_11__64 rfl rfl (pc' := 65) rfl ?_
  refine own_callU X62 hx hby hZ (by exact hml) hown (x0 := (⟨"com/example/collectary/collectary/broker/Grid$Axis", "ordinal", "()I"⟩ : MethodName)) (y := (⟨"java/lang/Enum", "ordinal", "()I"⟩ : MethodName)) (own_w hw 52 rfl) (own_w hw 53 rfl) (own_w hw 54 rfl) (own_w hw 56 rfl) (own_w hw 55 rfl) (own_w hw 57 rfl) (own_w hw 58 rfl) (by decide) e62 1 (by decide) (by decide) (by decide) (by decide) (argsL := []) (rest := [(.ref cu)]) (lenOf pd___I rfl) rfl (Nat.le_of_eq rfl) (Exx.keep KC52) (rmO l Z a0 hw aW (0 : Int32) h52 (Fo.keep KC52 nin_aW)) d_14_11__65 (pc' := 68) rfl ?_
  intro v63 T63 L63 X63 hQ63
  obtain ⟨rfl, rfl, e63⟩ := hQ63
  rw [List.append_nil] at X63
  replace e63 : T63.heap = h52 := e63
  show GoP p e below Φ (T63.setTop (mkF m 68 #[.val (.ref g), .val (.ref aW), .val (.int pt), .val (.int (0 : Int32)), .val (.ref c0), .val (.ref b22), .unset, .unset, .unset] [(.int (0 : Int32)), (.ref cu)]))
  refine own_aload X63 hx hby d_14_11__68 rfl rfl (pc' := 70) rfl ?_
  refine own_aastore X63 hx hby hZ e63 V53_cu rfl (own_sto V53_cu Y54_cu (Ins.self E61_b22)) (by decide) (Nat.le_of_ble_eq_true rfl) d_14_11__70 (pc' := 71) rfl ?_
  intro T64 h64 X64 e64 W64 V64
  replace V64 : AV Z h64 cu (.array .int) [(.ref b22), (.ref c1)] := V64
  have Y66_cu := Y54_cu.wr W64
  have E67_rl := E55_rl.wr W64
  have F68_modCount := F56_modCount.other W64 (Or.inl ne5_rl_cu)
  have F69_elementData := F57_elementData.other W64 (Or.inl ne5_rl_cu)
  have F70_size := F58_size.other W64 (Or.inl ne5_rl_cu)
  have V71_es := V59_es.other W64 ne6_es_cu
  have Y72_es := Y60_es.wr W64
  have V73_b22 := V52.other W64 (Ne.symm ne_cu_b22)
  have E74_b22 := E61_b22.wr W64
  have Z64 : n0 ≤ h64.size := by rw [W64.size]; exact ZC52
  have N64 := Fr.snoc X64 Nn52 n0_cu
  have K64 : Keep h0 h64 [cu, rl, es] := KC52.wr W64 (Or.inl (List.mem_of_getElem? (i := 0) rfl))
  refine own_aloadN X64 hx hby d_14_11__71 rfl rfl (pc' := 72) rfl ?_
  refine own_getS X64 hx hby hZ hown (host := "") (Or.inl (own_w hw 51 rfl)) Via.refl e64 (own_stakeep SW K64 plain_ws) d_14_11__72 (pc' := 75) rfl ?_
  intro T75 X75 e75
  refine own_acmp X75 hx hby d_14_11__75 rfl rfl (same := true) (decide_eq_true (congrArg Value.ref rfl)) (by decide) (pc' := 78) (by decide) ?_
  refine own_aloadN X75 hx hby d_14_11__78 rfl rfl (pc' := 79) rfl ?_
  refine own_getF X75 hx hby hZ hown (host := "") (Or.inl (own_w hw 49 rfl)) Via.refl e75 (H1.keep K64 nin_g) d_14_11__79 (pc' := 82) rfl ?_
  intro T76 X76 e76
  refine own_iloadN X76 hx hby d_14_11__82 rfl (pc' := 83) rfl ?_
  refine own_iconst X76 hx hby d_14_11__83 (v := (1 : Int32)) rfl (pc' := 84) rfl ?_
  refine own_iadd X76 hx hby d_14_11__84 (pc' := 85) rfl ?_
  show GoP p e below Φ (T76.setTop (mkF m 85 #[.val (.ref g), .val (.ref aW), .val (.int pt), .val (.int (0 : Int32)), .val (.ref c0), .val (.ref b22), .unset, .unset, .unset] [(.int (1 : Int32)), (.ref rl)]))
  refine own_aloadN X76 hx hby d_14_11__85 rfl rfl (pc' := 86) rfl ?_
  refine own_getF X76 hx hby hZ hown (host := "") (Or.inl (own_w hw 49 rfl)) Via.refl e76 (H1.keep K64 nin_g) d_14_11__86 (pc' := 89) rfl ?_
  intro T77 X77 e77
  refine own_iloadN X77 hx hby d_14_11__89 rfl (pc' := 90) rfl ?_
  refine own_callF X77 hx hby hZ (by exact hml) hown (x0 := (⟨"java/util/List", "get", "(I)Ljava/lang/Object;"⟩ : MethodName)) (y := (⟨"java/util/ArrayList", "get", "(I)Ljava/lang/Object;"⟩ : MethodName)) (own_w hw 118 rfl) (own_w hw 119 rfl) (own_w hw 120 rfl) (own_w hw 121 rfl) (own_w hw 122 rfl) (own_w hw 123 rfl) (own_w hw 124 rfl) (own_w hw 69 rfl) (own_w hw 27 rfl) rfl (own_w hw 125 rfl) (by decide) e77 2 (by decide) (by decide) (by decide) (by decide) (argsL := [(.int (0 : Int32))]) (rest := [(.int (1 : Int32)), (.ref rl)]) (lenOf pd__I_Ljava_lang_Object_ rfl) rfl (Nat.le_of_eq rfl) E67_rl (rmG0 l Z a0 hw rl es r0 (1 : Int32) .null .null .null .null .null .null .null .null .null h64 (by decide) E67_rl F70_size F69_elementData V71_es) d_14_11__90 (pc' := 95) rfl ?_
  intro v78 T78 L78 X78 hQ78
  obtain ⟨rfl, rfl, e78⟩ := hQ78
  rw [List.append_nil] at X78
  replace e78 : T78.heap = h64 := e78
  show GoP p e below Φ (T78.setTop (mkF m 95 #[.val (.ref g), .val (.ref aW), .val (.int pt), .val (.int (0 : Int32)), .val (.ref c0), .val (.ref b22), .unset, .unset, .unset] [(.ref r0), (.int (1 : Int32)), (.ref rl)]))
  obtain ⟨T79, X79, e79, st79⟩ := castY X78 hx hZ hown (own_w hw 20 rfl) e78 (Ins.self (H13.keep K64)) (g := (mkF m 95 #[.val (.ref g), .val (.ref aW), .val (.int pt), .val (.int (0 : Int32)), .val (.ref c0), .val (.ref b22), .unset, .unset, .unset] [(.ref r0), (.int (1 : Int32)), (.ref rl)])) rfl rfl (hb hby d_14_11__95)
  refine own_step st79 ?_
  show GoP p e below Φ (T79.setTop (mkF m 98 #[.val (.ref g), .val (.ref aW), .val (.int pt), .val (.int (0 : Int32)), .val (.ref c0), .val (.ref b22), .unset, .unset, .unset] [(.ref r0), (.int (1 : Int32)), (.ref rl)]))
  refine own_cloneI X79 hx hby hZ (by exact hml) hown (own_w hw 139 rfl) (own_w hw 140 rfl) (own_w hw 144 rfl) (own_w hw 142 rfl) (own_w hw 143 rfl) (own_w hw 145 rfl) e79 (H12.keep K64 nin_r0) rfl (H13.keep K64) (by decide) 2 (Nat.le_of_eq rfl) (by decide) 3 (Nat.le_of_ble_eq_true rfl) (by decide) (by decide) d_14_11__98 (pc' := 101) rfl ?_
  intro T80 h80 b80 X80 e80 E80 g80 V80 A80
  have ne_cu_b80 : cu ≠ b80 := Nat.ne_of_lt (g80 ▸ V64.lt)
  have ne_rl_b80 : rl ≠ b80 := Nat.ne_of_lt (g80 ▸ E67_rl.lt)
  have ne_es_b80 : es ≠ b80 := Nat.ne_of_lt (g80 ▸ V71_es.lt)
  have ne_b22_b80 : b22 ≠ b80 := Nat.ne_of_lt (g80 ▸ V73_b22.lt)
  have V81_cu := V64.ext E80
  have Y82_cu := Y66_cu.ext E80
  have E83_rl := E67_rl.ext E80
  have F84_modCount := F68_modCount.ext E80
  have F85_elementData := F69_elementData.ext E80
  have F86_size := F70_size.ext E80
  have V87_es := V71_es.ext E80
  have Y88_es := Y72_es.ext E80
  have V89_b22 := V73_b22.ext E80
  have E90_b22 := E74_b22.ext E80
  have Z80 : n0 ≤ h80.size := Nat.le_trans Z64 E80.1
  have n0_b80 : n0 ≤ b80 := g80 ▸ Z64
  have sz_b80 : h0.size ≤ b80 := g80 ▸ K64.1
  have K80 : Keep h0 h80 [cu, rl, es] := K64.ext E80
  show GoP p e below Φ (T80.setTop (mkF m 101 #[.val (.ref g), .val (.ref aW), .val (.int pt), .val (.int (0 : Int32)), .val (.ref c0), .val (.ref b22), .unset, .unset, .unset] [(.ref b80), (.int (1 : Int32)), (.ref rl)]))
  obtain ⟨T91, X91, e91, st91⟩ := castY X80 hx hZ hown (own_w hw 20 rfl) e80 (Ins.self A80) (g := (mkF m 101 #[.val (.ref g), .val (.ref aW), .val (.int pt), .val (.int (0 : Int32)), .val (.ref c0), .val (.ref b22), .unset, .unset, .unset] [(.ref b80), (.int (1 : Int32)), (.ref rl)])) rfl rfl (hb hby d_14_11__101)
  refine own_step st91 ?_
  show GoP p e below Φ (T91.setTop (mkF m 104 #[.val (.ref g), .val (.ref aW), .val (.int pt), .val (.int (0 : Int32)), .val (.ref c0), .val (.ref b22), .unset, .unset, .unset] [(.ref b80), (.int (1 : Int32)), (.ref rl)]))
  refine own_callF X91 hx hby hZ (by exact hml) hown (x0 := (⟨"java/util/List", "add", "(ILjava/lang/Object;)V"⟩ : MethodName)) (y := (⟨"java/util/ArrayList", "add", "(ILjava/lang/Object;)V"⟩ : MethodName)) (own_w hw 146 rfl) (own_w hw 147 rfl) (own_w hw 148 rfl) (own_w hw 149 rfl) (own_w hw 150 rfl) (own_w hw 151 rfl) (own_w hw 152 rfl) (own_w hw 69 rfl) (own_w hw 27 rfl) rfl (own_w hw 153 rfl) (by decide) e91 0 (by decide) (by decide) (by decide) (by decide) (argsL := [(.int (1 : Int32)), (.ref b80)]) (rest := []) (lenOf pd__ILjava_lang_Object__V rfl) rfl (Nat.le_of_eq rfl) E83_rl (rmAt11 l Z a0 hw rl es b80 r0 mc n0 h80 n0_rl n0_es (Ne.symm ne12_es_rl) E83_rl F84_modCount F85_elementData F86_size V87_es Y88_es A80 (H13.keep K80)) d_14_11__104 (pc' := 109) rfl ?_
  intro v92 T92 L92 X92 hQ92
  obtain ⟨rfl, Nq92, K92, G192, G292, G392, V92⟩ := hQ92
  have V93_cu := V81_cu.keep K92 (ninS (Ne.symm ne5_rl_cu) (ninS (Ne.symm ne6_es_cu) nin0))
  have Y94_cu := Y82_cu.keep K92
  have E95_rl := E83_rl.keep K92
  have Y96_es := Y88_es.keep K92
  have V97_b22 := V89_b22.keep K92 (ninS (Ne.symm ne_rl_b22) (ninS (Ne.symm ne_es_b22) nin0))
  have E98_b22 := E90_b22.keep K92
  have V99_b80 := V80.keep K92 (ninS (Ne.symm ne_rl_b80) (ninS (Ne.symm ne_es_b80) nin0))
  have E100_b80 := A80.keep K92
  have N92 := Fr.app N64 Nq92
  have Z92 : n0 ≤ T92.heap.size := Nat.le_trans Z80 K92.1
  have KK92 : Keep h0 T92.heap [cu, rl, es] := K80.trans K92 (allS (Or.inl (List.mem_of_getElem? (i := 1) rfl)) (allS (Or.inl (List.mem_of_getElem? (i := 2) rfl)) all0))
  show GoP p e below Φ (T92.setTop (mkF m 109 #[.val (.ref g), .val (.ref aW), .val (.int pt), .val (.int (0 : Int32)), .val (.ref c0), .val (.ref b22), .unset, .unset, .unset] []))
  refine own_goto X92 hx hby d_14_11__109 (by decide) (pc' := 202) (by decide) ?_
  exact own_ret0 X92 hx hby fin hret d_14_11__202 (by decide) (by decide) (by exact ⟨rfl, N92, KK92, b22, b80, (H0.keep KK92 nin_g), (H1.keep KK92 nin_g), V93_cu, Y94_cu, V97_b22, (H5.keep KK92 nin_c1), E95_rl, G192, G292, G392, V92, Y96_es, (H12.keep KK92 nin_r0), (H13.keep KK92), V99_b80, E100_b80⟩)
theorem ef_rmCut_0_1_0_1_0 (m : MethodId) (x0 : Addr) (x1 : Addr) (x2 : Int32) : entryFrame m #[(.ref x0), (.ref x1), (.int x2)] 9 = mkF m 0 #[.val (.ref x0), .val (.ref x1), .val (.int x2), .unset, .unset, .unset, .unset, .unset, .unset] [] := by first | (simp [entryFrame, mkF, argsToLocals, Value.category]; done) | rfl
set_option maxRecDepth 65536 in
set_option maxHeartbeats 40000000 in
theorem rmCut_0_1_0_1_0 (l : Launch) (Z : State) (a0 : Array Value) (hw : ∀ d ∈ tables_1, d.before a0 Z = true) (g aW aC cu c0 c1 rl es r0 r1 : Addr) (pt q mc : Int32) (n0 : Nat) (h0 : Heap) (n0_cu : n0 ≤ cu) (n0_rl : n0 ≤ rl) (n0_es : n0 ≤ es) (Z0 : n0 ≤ h0.size) (ox : aW < n0) (hlo : (pt - (1 : Int32)) < q)  (Eg : Exa Z h0 g "com/example/collectary/collectary/broker/Grid") (Exx : Exa Z h0 aW "com/example/collectary/collectary/broker/Grid$Axis") (Fo : Fld Z h0 aW "java/lang/Enum" "ordinal" "I" (.int (0 : Int32))) (SW : Sta Z h0 "com/example/collectary/collectary/broker/Grid$Axis" "WORD" "Lcom/example/collectary/collectary/broker/Grid$Axis;" (.ref aW)) (H0 : Fld Z h0 g "com/example/collectary/collectary/broker/Grid" "cuts" "[[I" (.ref cu)) (H1 : Fld Z h0 g "com/example/collectary/collectary/broker/Grid" "rows" "Ljava/util/List;" (.ref rl)) (H2 : AV Z h0 cu (.array .int) [.ref c0, .ref c1]) (H3 : CM Z h0 cu "[I") (H4 : AV Z h0 c0 .int [(.int q)]) (H5 : AV Z h0 c1 .int []) (H6 : Exa Z h0 rl "java/util/ArrayList") (H7 : Fld Z h0 rl "java/util/AbstractList" "modCount" "I" (.int mc)) (H8 : Fld Z h0 rl "java/util/ArrayList" "elementData" "[Ljava/lang/Object;" (.ref es)) (H9 : Fld Z h0 rl "java/util/ArrayList" "size" "I" (.int (2 : Int32))) (H10 : AV Z h0 es (.object "java/lang/Object") [(.ref r0), (.ref r1), .null, .null, .null, .null, .null, .null, .null, .null]) (H11 : CM Z h0 es "java/lang/Object") (H12 : AV Z h0 r0 .int [(.int (0 : Int32))]) (H13 : Exa Z h0 r0 "[I") (H14 : AV Z h0 r1 .int [(.int (0 : Int32))]) (H15 : Exa Z h0 r1 "[I") : Con l Z (⟨"com/example/collectary/collectary/broker/Grid", "addCut", "(Lcom/example/collectary/collectary/broker/Grid$Axis;I)V"⟩ : MethodName) prog_14_method_11_code 9 none [] ({ frames := 3, cells := 2, slots := 3, locals := 90 } : Room) #[(.ref g), (.ref aW), (.int pt)] h0 (fun v h L => v = none ∧ Fr n0 L ∧ Keep h0 h [cu, rl, es] ∧ ∃ cn rn : Addr, Fld Z h g "com/example/collectary/collectary/broker/Grid" "cuts" "[[I" (.ref cu) ∧ Fld Z h g "com/example/collectary/collectary/broker/Grid" "rows" "Ljava/util/List;" (.ref rl) ∧ AV Z h cu (.array .int) [.ref cn, .ref c1] ∧ CM Z h cu "[I" ∧ AV Z h cn .int [(.int pt), (.int q)] ∧ AV Z h c1 .int [] ∧ Exa Z h rl "java/util/ArrayList" ∧ Fld Z h rl "java/util/AbstractList" "modCount" "I" (.int (mc + (1 : Int32))) ∧ Fld Z h rl "java/util/ArrayList" "elementData" "[Ljava/lang/Object;" (.ref es) ∧ Fld Z h rl "java/util/ArrayList" "size" "I" (.int (3 : Int32)) ∧ AV Z h es (.object "java/lang/Object") [(.ref r0), (.ref rn), (.ref r1), .null, .null, .null, .null, .null, .null, .null] ∧ CM Z h es "java/lang/Object" ∧ AV Z h r0 .int [(.int (0 : Int32))] ∧ Exa Z h r0 "[I" ∧ AV Z h rn .int [(.int (0 : Int32))] ∧ Exa Z h rn "[I" ∧ AV Z h r1 .int [(.int (0 : Int32))] ∧ Exa Z h r1 "[I") := by
  refine Con.of (plainFor_of_name pn_com_example_collectary_collectary_broker_Grid) ?_
  intro p e s m below meth c T X hx hby hml hown hnm hret eT hZ hsh Φ fin
  replace hown : s.vm.findClass "com/example/collectary/collectary/broker/Grid" = some m.cls := hown
  replace hml : 9 = c.maxLocals := hml.symm
  refine own_step (fun tq kq => castTop (ef_rmCut_0_1_0_1_0 m g aW pt) kq) ?_
  have N0 := Fr.nil n0
  have K0 : Keep h0 h0 [cu, rl, es] := Keep.refl h0 [cu, rl, es]
  have ne1_g_cu : g ≠ cu := own_ne_ea Eg (own_w hw 8 rfl) H2
  have ne2_aW_cu : aW ≠ cu := Nat.ne_of_lt (Nat.lt_of_lt_of_le ox n0_cu)
  have ne3_c0_cu : c0 ≠ cu := own_ne_av2 H4 H2 (by decide)
  have ne4_c1_cu : c1 ≠ cu := own_ne_av2 H5 H2 (by decide)
  have ne5_rl_cu : rl ≠ cu := own_ne_ea H6 (own_w hw 26 rfl) H2
  have ne6_es_cu : es ≠ cu := own_ne_av2 H10 H2 (by decide)
  have ne7_r0_cu : r0 ≠ cu := own_ne_av2 H12 H2 (by decide)
  have ne8_r1_cu : r1 ≠ cu := own_ne_av2 H14 H2 (by decide)
  have ne9_g_rl : g ≠ rl := ne_exa Eg H6 (by decide)
  have ne10_aW_rl : aW ≠ rl := Nat.ne_of_lt (Nat.lt_of_lt_of_le ox n0_rl)
  have ne11_c0_rl : c0 ≠ rl := (own_ne_ea H6 (own_w hw 26 rfl) H4).symm
  have ne12_c1_rl : c1 ≠ rl := (own_ne_ea H6 (own_w hw 26 rfl) H5).symm
  have ne13_es_rl : es ≠ rl := (own_ne_ea H6 (own_w hw 26 rfl) H10).symm
  have ne14_r0_rl : r0 ≠ rl := (own_ne_ea H6 (own_w hw 26 rfl) H12).symm
  have ne15_r1_rl : r1 ≠ rl := (own_ne_ea H6 (own_w hw 26 rfl) H14).symm
  have ne16_g_es : g ≠ es := own_ne_ea Eg (own_w hw 8 rfl) H10
  have ne17_aW_es : aW ≠ es := Nat.ne_of_lt (Nat.lt_of_lt_of_le ox n0_es)
  have ne18_c0_es : c0 ≠ es := own_ne_av2 H4 H10 (by decide)
  have ne19_c1_es : c1 ≠ es := own_ne_av2 H5 H10 (by decide)
  have ne20_r0_es : r0 ≠ es := own_ne_av2 H12 H10 (by decide)
  have ne21_r1_es : r1 ≠ es := own_ne_av2 H14 H10 (by decide)
  have nin_g : g ∉ [cu, rl, es] := (ninS ne1_g_cu (ninS ne9_g_rl (ninS ne16_g_es nin0)))
  have lt0_g := Eg.lt
  have nin_aW : aW ∉ [cu, rl, es] := (ninS ne2_aW_cu (ninS ne10_aW_rl (ninS ne17_aW_es nin0)))
  have lt0_aW := Exx.lt
  have nin_c0 : c0 ∉ [cu, rl, es] := (ninS ne3_c0_cu (ninS ne11_c0_rl (ninS ne18_c0_es nin0)))
  have lt0_c0 := H4.lt
  have nin_c1 : c1 ∉ [cu, rl, es] := (ninS ne4_c1_cu (ninS ne12_c1_rl (ninS ne19_c1_es nin0)))
  have lt0_c1 := H5.lt
  have nin_r0 : r0 ∉ [cu, rl, es] := (ninS ne7_r0_cu (ninS ne14_r0_rl (ninS ne20_r0_es nin0)))
  have lt0_r0 := H12.lt
  have nin_r1 : r1 ∉ [cu, rl, es] := (ninS ne8_r1_cu (ninS ne15_r1_rl (ninS ne21_r1_es nin0)))
  have lt0_r1 := H14.lt
  have plain_ws : ∀ x ∈ [cu, rl, es], ∀ c : Cell, h0[x]? = some c → c.vm.isStatics = false := (allS H2.plain (allS (own_plainE H6) (allS H10.plain all0)))
  refine own_aloadN X hx hby d_14_11__0 rfl rfl (pc' := 1) rfl ?_
  refine own_aloadN X hx hby d_14_11__1 rfl rfl (pc' := 2) rfl ?_
  refine own_iloadN X hx hby d_14_11__2 rfl (pc' := 3) rfl ?_
  refine own_iconst X hx hby d_14_11__3 (v := (1 : Int32)) rfl (pc' := 4) rfl ?_
  refine own_isub X hx hby d_14_11__4 (pc' := 5) rfl ?_
  refine own_callV X hx hby hZ (by exact hml) hown (own_w hw 102 rfl) (own_w hw 103 rfl) (own_w hw 105 rfl) (own_w hw 104 rfl) (own_w hw 9 rfl) (own_w hw 106 rfl) (by decide) eT 0 (by decide) (by decide) (by decide) (by decide) (argsL := [(.ref aW), (.int (pt - (1 : Int32)))]) (rest := []) (lenOf pd__Lcom_example_collectary_collectary_broker_Grid_Axis_I_I rfl) rfl (Nat.le_of_eq rfl) Eg (rmIv1_0 l Z a0 hw g aW cu c0 c1 q (pt - (1 : Int32)) h0 Exx Fo H0 H2 H4) d_14_11__5 (pc' := 8) rfl ?_
  intro v22 T22 L22 X22 hQ22
  obtain ⟨rfl, rfl, e22⟩ := hQ22
  rw [List.append_nil] at X22
  replace e22 : T22.heap = h0 := e22
  show GoP p e below Φ (T22.setTop (mkF m 8 #[.val (.ref g), .val (.ref aW), .val (.int pt), .unset, .unset, .unset, .unset, .unset, .unset] [(.int (if (pt - (1 : Int32)) < q then (0 : Int32) else (1 : Int32)))]))
  rw [if_pos hlo]
  refine own_istoreN X22 hx hby d_14_11__8  (Ls' := #[.val (.ref g), .val (.ref aW), .val (.int pt), .val (.int (0 : Int32)), .unset, .unset, .unset, .unset, .unset]) rfl (pc' := 9) rfl ?_
  refine own_aloadN X22 hx hby d_14_11__9 rfl rfl (pc' := 10) rfl ?_
  refine own_getF X22 hx hby hZ hown (host := "") (Or.inl (own_w hw 23 rfl)) Via.refl e22 H0 d_14_11__10 (pc' := 13) rfl ?_
  intro T23 X23 e23
  refine own_aloadN X23 hx hby d_14_11__13 rfl rfl (pc' := 14) rfl ?_
  refine own_callU X23 hx hby hZ (by exact hml) hown (x0 := (⟨"com/example/collectary/collectary/broker/Grid$Axis", "ordinal", "()I"⟩ : MethodName)) (y := (⟨"java/lang/Enum", "ordinal", "()I"⟩ : MethodName)) (own_w hw 52 rfl) (own_w hw 53 rfl) (own_w hw 54 rfl) (own_w hw 56 rfl) (own_w hw 55 rfl) (own_w hw 57 rfl) (own_w hw 58 rfl) (by decide) e23 1 (by decide) (by decide) (by decide) (by decide) (argsL := []) (rest := [(.ref cu)]) (lenOf pd___I rfl) rfl (Nat.le_of_eq rfl) Exx (rmO l Z a0 hw aW (0 : Int32) h0 Fo) d_14_11__14 (pc' := 17) rfl ?_
  intro v24 T24 L24 X24 hQ24
  obtain ⟨rfl, rfl, e24⟩ := hQ24
  rw [List.append_nil] at X24
  replace e24 : T24.heap = h0 := e24
  show GoP p e below Φ (T24.setTop (mkF m 17 #[.val (.ref g), .val (.ref aW), .val (.int pt), .val (.int (0 : Int32)), .unset, .unset, .unset, .unset, .unset] [(.int (0 : Int32)), (.ref cu)]))
  refine own_aaload X24 hx hby hZ e24 H2 rfl (by decide) (v := (.ref c0)) rfl d_14_11__17 (pc' := 18) rfl ?_
  refine own_astore X24 hx hby d_14_11__18 rfl (Ls' := #[.val (.ref g), .val (.ref aW), .val (.int pt), .val (.int (0 : Int32)), .val (.ref c0), .unset, .unset, .unset, .unset]) rfl (pc' := 20) rfl ?_
  refine own_aload X24 hx hby d_14_11__20 rfl rfl (pc' := 22) rfl ?_
  refine own_alen X24 hx hby hZ e24 (n := (1 : Int32)) H4 rfl d_14_11__22 (pc' := 23) rfl ?_
  refine own_iconst X24 hx hby d_14_11__23 (v := (1 : Int32)) rfl (pc' := 24) rfl ?_
  refine own_iadd X24 hx hby d_14_11__24 (pc' := 25) rfl ?_
  show GoP p e below Φ (T24.setTop (mkF m 25 #[.val (.ref g), .val (.ref aW), .val (.int pt), .val (.int (0 : Int32)), .val (.ref c0), .unset, .unset, .unset, .unset] [(.int (2 : Int32))]))
  refine own_newI X24 hx hby hZ (own_w hw 17 rfl) e24 (by decide) 2 (by decide) (by decide) (by decide) (by decide) d_14_11__25 (pc' := 27) rfl ?_
  intro T25 h25 b25 X25 e25 E25 g25 V25 I25 A25
  have ne_cu_b25 : cu ≠ b25 := Nat.ne_of_lt (g25 ▸ H2.lt)
  have ne_rl_b25 : rl ≠ b25 := Nat.ne_of_lt (g25 ▸ H6.lt)
  have ne_es_b25 : es ≠ b25 := Nat.ne_of_lt (g25 ▸ H10.lt)
  have V26_cu := H2.ext E25
  have Y27_cu := H3.ext E25
  have E28_rl := H6.ext E25
  have F29_modCount := H7.ext E25
  have F30_elementData := H8.ext E25
  have F31_size := H9.ext E25
  have V32_es := H10.ext E25
  have Y33_es := H11.ext E25
  have Z25 : n0 ≤ h25.size := Nat.le_trans Z0 E25.1
  have n0_b25 : n0 ≤ b25 := g25 ▸ Z0
  have sz_b25 : h0.size ≤ b25 := g25 ▸ K0.1
  have K25 : Keep h0 h25 [cu, rl, es] := K0.ext E25
  replace V25 : AV Z h25 b25 .int [(.int (0 : Int32)), (.int (0 : Int32))] := V25
  show GoP p e below Φ (T25.setTop (mkF m 27 #[.val (.ref g), .val (.ref aW), .val (.int pt), .val (.int (0 : Int32)), .val (.ref c0), .unset, .unset, .unset, .unset] [(.ref b25)]))
  refine own_astore X25 hx hby d_14_11__27 rfl (Ls' := #[.val (.ref g), .val (.ref aW), .val (.int pt), .val (.int (0 : Int32)), .val (.ref c0), .val (.ref b25), .unset, .unset, .unset]) rfl (pc' := 29) rfl ?_
  refine own_aload X25 hx hby d_14_11__29 rfl rfl (pc' := 31) rfl ?_
  refine own_iconst X25 hx hby d_14_11__31 (v := (0 : Int32)) rfl (pc' := 32) rfl ?_
  refine own_aload X25 hx hby d_14_11__32 rfl rfl (pc' := 34) rfl ?_
  refine own_iconst X25 hx hby d_14_11__34 (v := (0 : Int32)) rfl (pc' := 35) rfl ?_
  refine own_iloadN X25 hx hby d_14_11__35 rfl (pc' := 36) rfl ?_
  refine own_copyV X25 hx hby (dv := (.int 0)) hZ (by exact hml) hown (own_w hw 114 rfl) (own_w hw 117 rfl) (own_w hw 115 rfl) (own_w hw 116 rfl) e25 (H4.keep K25 nin_c0) V25 rfl rfl rfl (by decide) (by decide) (by decide) (Nat.le_of_ble_eq_true rfl) (Nat.le_of_ble_eq_true rfl) N0 n0_b25 (by decide) 0 (Nat.le_of_eq rfl) (by decide) d_14_11__36 (pc' := 39) rfl ?_
  intro T34 h34 L34 X34 e34 Nn34 K34 V34
  replace V34 : AV Z h34 b25 .int [(.int (0 : Int32)), (.int (0 : Int32))] := V34
  have V35_cu := V26_cu.keep K34 (ninS ne_cu_b25 nin0)
  have Y36_cu := Y27_cu.keep K34 
  have E37_rl := E28_rl.keep K34 
  have F38_modCount := F29_modCount.keep K34 (ninS ne_rl_b25 nin0)
  have F39_elementData := F30_elementData.keep K34 (ninS ne_rl_b25 nin0)
  have F40_size := F31_size.keep K34 (ninS ne_rl_b25 nin0)
  have V41_es := V32_es.keep K34 (ninS ne_es_b25 nin0)
  have Y42_es := Y33_es.keep K34 
  have E43_b25 := A25.keep K34 
  have KC34 : Keep h0 h34 [cu, rl, es] := K25.trans K34 (allS (Or.inr sz_b25) all0)
  have ZC34 : n0 ≤ h34.size := Nat.le_trans Z25 K34.1
  refine own_aload X34 hx hby d_14_11__39 rfl rfl (pc' := 41) rfl ?_
  refine own_iloadN X34 hx hby d_14_11__41 rfl (pc' := 42) rfl ?_
  refine own_iloadN X34 hx hby d_14_11__42 rfl (pc' := 43) rfl ?_
  refine own_iastore X34 hx hby hZ e34 V34 (by decide) (Nat.le_of_ble_eq_true rfl) d_14_11__43 (pc' := 44) rfl ?_
  intro T44 h44 X44 e44 W44 V44
  replace V44 : AV Z h44 b25 .int [(.int pt), (.int (0 : Int32))] := V44
  have V45_cu := V35_cu.other W44 ne_cu_b25
  have Y46_cu := Y36_cu.wr W44
  have E47_rl := E37_rl.wr W44
  have F48_modCount := F38_modCount.other W44 (Or.inl ne_rl_b25)
  have F49_elementData := F39_elementData.other W44 (Or.inl ne_rl_b25)
  have F50_size := F40_size.other W44 (Or.inl ne_rl_b25)
  have V51_es := V41_es.other W44 ne_es_b25
  have Y52_es := Y42_es.wr W44
  have E54_b25 := E43_b25.wr W44
  have Z44 : n0 ≤ h44.size := by rw [W44.size]; exact ZC34
  have N44 := Fr.snoc X44 Nn34 n0_b25
  have K44 : Keep h0 h44 [cu, rl, es] := KC34.wr W44 (Or.inr sz_b25)
  refine own_aload X44 hx hby d_14_11__44 rfl rfl (pc' := 46) rfl ?_
  refine own_iloadN X44 hx hby d_14_11__46 rfl (pc' := 47) rfl ?_
  refine own_aload X44 hx hby d_14_11__47 rfl rfl (pc' := 49) rfl ?_
  refine own_iloadN X44 hx hby d_14_11__49 rfl (pc' := 50) rfl ?_
  refine own_iconst X44 hx hby d_14_11__50 (v := (1 : Int32)) rfl (pc' := 51) rfl ?_
  refine own_iadd X44 hx hby d_14_11__51 (pc' := 52) rfl ?_
  show GoP p e below Φ (T44.setTop (mkF m 52 #[.val (.ref g), .val (.ref aW), .val (.int pt), .val (.int (0 : Int32)), .val (.ref c0), .val (.ref b25), .unset, .unset, .unset] [(.int (1 : Int32)), (.ref b25), (.int (0 : Int32)), (.ref c0)]))
  refine own_aload X44 hx hby d_14_11__52 rfl rfl (pc' := 54) rfl ?_
  refine own_alen X44 hx hby hZ e44 (n := (1 : Int32)) (H4.keep K44 nin_c0) rfl d_14_11__54 (pc' := 55) rfl ?_
  refine own_iloadN X44 hx hby d_14_11__55 rfl (pc' := 56) rfl ?_
  refine own_isub X44 hx hby d_14_11__56 (pc' := 57) rfl ?_
  show GoP p e below Φ (T44.setTop (mkF m 57 #[.val (.ref g), .val (.ref aW), .val (.int pt), .val (.int (0 : Int32)), .val (.ref c0), .val (.ref b25), .unset, .unset, .unset] [(.int (1 : Int32)), (.int (1 : Int32)), (.ref b25), (.int (0 : Int32)), (.ref c0)]))
  refine own_copyV X44 hx hby (dv := (.int 0)) hZ (by exact hml) hown (own_w hw 114 rfl) (own_w hw 117 rfl) (own_w hw 115 rfl) (own_w hw 116 rfl) e44 (H4.keep K44 nin_c0) V44 rfl rfl rfl (by decide) (by decide) (by decide) (Nat.le_of_ble_eq_true rfl) (Nat.le_of_ble_eq_true rfl) N44 n0_b25 (by decide) 0 (Nat.le_of_eq rfl) (by decide) d_14_11__57 (pc' := 60) rfl ?_
  intro T55 h55 L55 X55 e55 Nn55 K55 V55
  replace V55 : AV Z h55 b25 .int [(.int pt), (.int q)] := V55
  have V56_cu := V45_cu.keep K55 (ninS ne_cu_b25 nin0)
  have Y57_cu := Y46_cu.keep K55 
  have E58_rl := E47_rl.keep K55 
  have F59_modCount := F48_modCount.keep K55 (ninS ne_rl_b25 nin0)
  have F60_elementData := F49_elementData.keep K55 (ninS ne_rl_b25 nin0)
  have F61_size := F50_size.keep K55 (ninS ne_rl_b25 nin0)
  have V62_es := V51_es.keep K55 (ninS ne_es_b25 nin0)
  have Y63_es := Y52_es.keep K55 
  have E64_b25 := E54_b25.keep K55 
  have KC55 : Keep h0 h55 [cu, rl, es] := K44.trans K55 (allS (Or.inr sz_b25) all0)
  have ZC55 : n0 ≤ h55.size := Nat.le_trans Z44 K55.1
  refine own_aloadN X55 hx hby d_14_11__60 rfl rfl (pc' := 61) rfl ?_
  refine own_getF X55 hx hby hZ hown (host := "") (Or.inl (own_w hw 23 rfl)) Via.refl e55 (H0.keep KC55 nin_g) d_14_11__61 (pc' := 64) rfl ?_
  intro T65 X65 e65
  refine own_aloadN X65 hx hby d_14_11__64 rfl rfl (pc' := 65) rfl ?_
  refine own_callU X65 hx hby hZ (by exact hml) hown (x0 := (⟨"com/example/collectary/collectary/broker/Grid$Axis", "ordinal", "()I"⟩ : MethodName)) (y := (⟨"java/lang/Enum", "ordinal", "()I"⟩ : MethodName)) (own_w hw 52 rfl) (own_w hw 53 rfl) (own_w hw 54 rfl) (own_w hw 56 rfl) (own_w hw 55 rfl) (own_w hw 57 rfl) (own_w hw 58 rfl) (by decide) e65 1 (by decide) (by decide) (by decide) (by decide) (argsL := []) (rest := [(.ref cu)]) (lenOf pd___I rfl) rfl (Nat.le_of_eq rfl) (Exx.keep KC55) (rmO l Z a0 hw aW (0 : Int32) h55 (Fo.keep KC55 nin_aW)) d_14_11__65 (pc' := 68) rfl ?_
  intro v66 T66 L66 X66 hQ66
  obtain ⟨rfl, rfl, e66⟩ := hQ66
  rw [List.append_nil] at X66
  replace e66 : T66.heap = h55 := e66
  show GoP p e below Φ (T66.setTop (mkF m 68 #[.val (.ref g), .val (.ref aW), .val (.int pt), .val (.int (0 : Int32)), .val (.ref c0), .val (.ref b25), .unset, .unset, .unset] [(.int (0 : Int32)), (.ref cu)]))
  refine own_aload X66 hx hby d_14_11__68 rfl rfl (pc' := 70) rfl ?_
  refine own_aastore X66 hx hby hZ e66 V56_cu rfl (own_sto V56_cu Y57_cu (Ins.self E64_b25)) (by decide) (Nat.le_of_ble_eq_true rfl) d_14_11__70 (pc' := 71) rfl ?_
  intro T67 h67 X67 e67 W67 V67
  replace V67 : AV Z h67 cu (.array .int) [(.ref b25), (.ref c1)] := V67
  have Y69_cu := Y57_cu.wr W67
  have E70_rl := E58_rl.wr W67
  have F71_modCount := F59_modCount.other W67 (Or.inl ne5_rl_cu)
  have F72_elementData := F60_elementData.other W67 (Or.inl ne5_rl_cu)
  have F73_size := F61_size.other W67 (Or.inl ne5_rl_cu)
  have V74_es := V62_es.other W67 ne6_es_cu
  have Y75_es := Y63_es.wr W67
  have V76_b25 := V55.other W67 (Ne.symm ne_cu_b25)
  have E77_b25 := E64_b25.wr W67
  have Z67 : n0 ≤ h67.size := by rw [W67.size]; exact ZC55
  have N67 := Fr.snoc X67 Nn55 n0_cu
  have K67 : Keep h0 h67 [cu, rl, es] := KC55.wr W67 (Or.inl (List.mem_of_getElem? (i := 0) rfl))
  refine own_aloadN X67 hx hby d_14_11__71 rfl rfl (pc' := 72) rfl ?_
  refine own_getS X67 hx hby hZ hown (host := "") (Or.inl (own_w hw 51 rfl)) Via.refl e67 (own_stakeep SW K67 plain_ws) d_14_11__72 (pc' := 75) rfl ?_
  intro T78 X78 e78
  refine own_acmp X78 hx hby d_14_11__75 rfl rfl (same := true) (decide_eq_true (congrArg Value.ref rfl)) (by decide) (pc' := 78) (by decide) ?_
  refine own_aloadN X78 hx hby d_14_11__78 rfl rfl (pc' := 79) rfl ?_
  refine own_getF X78 hx hby hZ hown (host := "") (Or.inl (own_w hw 49 rfl)) Via.refl e78 (H1.keep K67 nin_g) d_14_11__79 (pc' := 82) rfl ?_
  intro T79 X79 e79
  refine own_iloadN X79 hx hby d_14_11__82 rfl (pc' := 83) rfl ?_
  refine own_iconst X79 hx hby d_14_11__83 (v := (1 : Int32)) rfl (pc' := 84) rfl ?_
  refine own_iadd X79 hx hby d_14_11__84 (pc' := 85) rfl ?_
  show GoP p e below Φ (T79.setTop (mkF m 85 #[.val (.ref g), .val (.ref aW), .val (.int pt), .val (.int (0 : Int32)), .val (.ref c0), .val (.ref b25), .unset, .unset, .unset] [(.int (1 : Int32)), (.ref rl)]))
  refine own_aloadN X79 hx hby d_14_11__85 rfl rfl (pc' := 86) rfl ?_
  refine own_getF X79 hx hby hZ hown (host := "") (Or.inl (own_w hw 49 rfl)) Via.refl e79 (H1.keep K67 nin_g) d_14_11__86 (pc' := 89) rfl ?_
  intro T80 X80 e80
  refine own_iloadN X80 hx hby d_14_11__89 rfl (pc' := 90) rfl ?_
  refine own_callF X80 hx hby hZ (by exact hml) hown (x0 := (⟨"java/util/List", "get", "(I)Ljava/lang/Object;"⟩ : MethodName)) (y := (⟨"java/util/ArrayList", "get", "(I)Ljava/lang/Object;"⟩ : MethodName)) (own_w hw 118 rfl) (own_w hw 119 rfl) (own_w hw 120 rfl) (own_w hw 121 rfl) (own_w hw 122 rfl) (own_w hw 123 rfl) (own_w hw 124 rfl) (own_w hw 69 rfl) (own_w hw 27 rfl) rfl (own_w hw 125 rfl) (by decide) e80 2 (by decide) (by decide) (by decide) (by decide) (argsL := [(.int (0 : Int32))]) (rest := [(.int (1 : Int32)), (.ref rl)]) (lenOf pd__I_Ljava_lang_Object_ rfl) rfl (Nat.le_of_eq rfl) E70_rl (rmG0 l Z a0 hw rl es r0 (2 : Int32) (.ref r1) .null .null .null .null .null .null .null .null h67 (by decide) E70_rl F73_size F72_elementData V74_es) d_14_11__90 (pc' := 95) rfl ?_
  intro v81 T81 L81 X81 hQ81
  obtain ⟨rfl, rfl, e81⟩ := hQ81
  rw [List.append_nil] at X81
  replace e81 : T81.heap = h67 := e81
  show GoP p e below Φ (T81.setTop (mkF m 95 #[.val (.ref g), .val (.ref aW), .val (.int pt), .val (.int (0 : Int32)), .val (.ref c0), .val (.ref b25), .unset, .unset, .unset] [(.ref r0), (.int (1 : Int32)), (.ref rl)]))
  obtain ⟨T82, X82, e82, st82⟩ := castY X81 hx hZ hown (own_w hw 20 rfl) e81 (Ins.self (H13.keep K67)) (g := (mkF m 95 #[.val (.ref g), .val (.ref aW), .val (.int pt), .val (.int (0 : Int32)), .val (.ref c0), .val (.ref b25), .unset, .unset, .unset] [(.ref r0), (.int (1 : Int32)), (.ref rl)])) rfl rfl (hb hby d_14_11__95)
  refine own_step st82 ?_
  show GoP p e below Φ (T82.setTop (mkF m 98 #[.val (.ref g), .val (.ref aW), .val (.int pt), .val (.int (0 : Int32)), .val (.ref c0), .val (.ref b25), .unset, .unset, .unset] [(.ref r0), (.int (1 : Int32)), (.ref rl)]))
  refine own_cloneI X82 hx hby hZ (by exact hml) hown (own_w hw 139 rfl) (own_w hw 140 rfl) (own_w hw 144 rfl) (own_w hw 142 rfl) (own_w hw 143 rfl) (own_w hw 145 rfl) e82 (H12.keep K67 nin_r0) rfl (H13.keep K67) (by decide) 2 (Nat.le_of_eq rfl) (by decide) 1 (Nat.le_of_ble_eq_true rfl) (by decide) (by decide) d_14_11__98 (pc' := 101) rfl ?_
  intro T83 h83 b83 X83 e83 E83 g83 V83 A83
  have ne_cu_b83 : cu ≠ b83 := Nat.ne_of_lt (g83 ▸ V67.lt)
  have ne_rl_b83 : rl ≠ b83 := Nat.ne_of_lt (g83 ▸ E70_rl.lt)
  have ne_es_b83 : es ≠ b83 := Nat.ne_of_lt (g83 ▸ V74_es.lt)
  have ne_b25_b83 : b25 ≠ b83 := Nat.ne_of_lt (g83 ▸ V76_b25.lt)
  have V84_cu := V67.ext E83
  have Y85_cu := Y69_cu.ext E83
  have E86_rl := E70_rl.ext E83
  have F87_modCount := F71_modCount.ext E83
  have F88_elementData := F72_elementData.ext E83
  have F89_size := F73_size.ext E83
  have V90_es := V74_es.ext E83
  have Y91_es := Y75_es.ext E83
  have V92_b25 := V76_b25.ext E83
  have E93_b25 := E77_b25.ext E83
  have Z83 : n0 ≤ h83.size := Nat.le_trans Z67 E83.1
  have n0_b83 : n0 ≤ b83 := g83 ▸ Z67
  have sz_b83 : h0.size ≤ b83 := g83 ▸ K67.1
  have K83 : Keep h0 h83 [cu, rl, es] := K67.ext E83
  show GoP p e below Φ (T83.setTop (mkF m 101 #[.val (.ref g), .val (.ref aW), .val (.int pt), .val (.int (0 : Int32)), .val (.ref c0), .val (.ref b25), .unset, .unset, .unset] [(.ref b83), (.int (1 : Int32)), (.ref rl)]))
  obtain ⟨T94, X94, e94, st94⟩ := castY X83 hx hZ hown (own_w hw 20 rfl) e83 (Ins.self A83) (g := (mkF m 101 #[.val (.ref g), .val (.ref aW), .val (.int pt), .val (.int (0 : Int32)), .val (.ref c0), .val (.ref b25), .unset, .unset, .unset] [(.ref b83), (.int (1 : Int32)), (.ref rl)])) rfl rfl (hb hby d_14_11__101)
  refine own_step st94 ?_
  show GoP p e below Φ (T94.setTop (mkF m 104 #[.val (.ref g), .val (.ref aW), .val (.int pt), .val (.int (0 : Int32)), .val (.ref c0), .val (.ref b25), .unset, .unset, .unset] [(.ref b83), (.int (1 : Int32)), (.ref rl)]))
  refine own_callF X94 hx hby hZ (by exact hml) hown (x0 := (⟨"java/util/List", "add", "(ILjava/lang/Object;)V"⟩ : MethodName)) (y := (⟨"java/util/ArrayList", "add", "(ILjava/lang/Object;)V"⟩ : MethodName)) (own_w hw 146 rfl) (own_w hw 147 rfl) (own_w hw 148 rfl) (own_w hw 149 rfl) (own_w hw 150 rfl) (own_w hw 151 rfl) (own_w hw 152 rfl) (own_w hw 69 rfl) (own_w hw 27 rfl) rfl (own_w hw 153 rfl) (by decide) e94 0 (by decide) (by decide) (by decide) (by decide) (argsL := [(.int (1 : Int32)), (.ref b83)]) (rest := []) (lenOf pd__ILjava_lang_Object__V rfl) rfl (Nat.le_of_eq rfl) E86_rl (rmAt21 l Z a0 hw rl es b83 r0 r1 mc n0 h83 n0_rl n0_es (Ne.symm ne13_es_rl) E86_rl F87_modCount F88_elementData F89_size V90_es Y91_es A83 (H13.keep K83) (H15.keep K83)) d_14_11__104 (pc' := 109) rfl ?_
  intro v95 T95 L95 X95 hQ95
  obtain ⟨rfl, Nq95, K95, G195, G295, G395, V95⟩ := hQ95
  have V96_cu := V84_cu.keep K95 (ninS (Ne.symm ne5_rl_cu) (ninS (Ne.symm ne6_es_cu) nin0))
  have Y97_cu := Y85_cu.keep K95
  have E98_rl := E86_rl.keep K95
  have Y99_es := Y91_es.keep K95
  have V100_b25 := V92_b25.keep K95 (ninS (Ne.symm ne_rl_b25) (ninS (Ne.symm ne_es_b25) nin0))
  have E101_b25 := E93_b25.keep K95
  have V102_b83 := V83.keep K95 (ninS (Ne.symm ne_rl_b83) (ninS (Ne.symm ne_es_b83) nin0))
  have E103_b83 := A83.keep K95
  have N95 := Fr.app N67 Nq95
  have Z95 : n0 ≤ T95.heap.size := Nat.le_trans Z83 K95.1
  have KK95 : Keep h0 T95.heap [cu, rl, es] := K83.trans K95 (allS (Or.inl (List.mem_of_getElem? (i := 1) rfl)) (allS (Or.inl (List.mem_of_getElem? (i := 2) rfl)) all0))
  show GoP p e below Φ (T95.setTop (mkF m 109 #[.val (.ref g), .val (.ref aW), .val (.int pt), .val (.int (0 : Int32)), .val (.ref c0), .val (.ref b25), .unset, .unset, .unset] []))
  refine own_goto X95 hx hby d_14_11__109 (by decide) (pc' := 202) (by decide) ?_
  exact own_ret0 X95 hx hby fin hret d_14_11__202 (by decide) (by decide) (by exact ⟨rfl, N95, KK95, b25, b83, (H0.keep KK95 nin_g), (H1.keep KK95 nin_g), V96_cu, Y97_cu, V100_b25, (H5.keep KK95 nin_c1), E98_rl, G195, G295, G395, V95, Y99_es, (H12.keep KK95 nin_r0), (H13.keep KK95), V102_b83, E103_b83, (H14.keep KK95 nin_r1), (H15.keep KK95)⟩)
theorem ef_rmCut_0_1_1_1_0 (m : MethodId) (x0 : Addr) (x1 : Addr) (x2 : Int32) : entryFrame m #[(.ref x0), (.ref x1), (.int x2)] 9 = mkF m 0 #[.val (.ref x0), .val (.ref x1), .val (.int x2), .unset, .unset, .unset, .unset, .unset, .unset] [] := by first | (simp [entryFrame, mkF, argsToLocals, Value.category]; done) | rfl
set_option maxRecDepth 65536 in
set_option maxHeartbeats 40000000 in
theorem rmCut_0_1_1_1_0 (l : Launch) (Z : State) (a0 : Array Value) (hw : ∀ d ∈ tables_1, d.before a0 Z = true) (g aW aC cu c0 c1 rl es r0 r1 : Addr) (pt q mc : Int32) (n0 : Nat) (h0 : Heap) (n0_cu : n0 ≤ cu) (n0_rl : n0 ≤ rl) (n0_es : n0 ≤ es) (Z0 : n0 ≤ h0.size) (ox : aW < n0) (hlo : ¬ (pt - (1 : Int32)) < q)  (Eg : Exa Z h0 g "com/example/collectary/collectary/broker/Grid") (Exx : Exa Z h0 aW "com/example/collectary/collectary/broker/Grid$Axis") (Fo : Fld Z h0 aW "java/lang/Enum" "ordinal" "I" (.int (0 : Int32))) (SW : Sta Z h0 "com/example/collectary/collectary/broker/Grid$Axis" "WORD" "Lcom/example/collectary/collectary/broker/Grid$Axis;" (.ref aW)) (H0 : Fld Z h0 g "com/example/collectary/collectary/broker/Grid" "cuts" "[[I" (.ref cu)) (H1 : Fld Z h0 g "com/example/collectary/collectary/broker/Grid" "rows" "Ljava/util/List;" (.ref rl)) (H2 : AV Z h0 cu (.array .int) [.ref c0, .ref c1]) (H3 : CM Z h0 cu "[I") (H4 : AV Z h0 c0 .int [(.int q)]) (H5 : AV Z h0 c1 .int []) (H6 : Exa Z h0 rl "java/util/ArrayList") (H7 : Fld Z h0 rl "java/util/AbstractList" "modCount" "I" (.int mc)) (H8 : Fld Z h0 rl "java/util/ArrayList" "elementData" "[Ljava/lang/Object;" (.ref es)) (H9 : Fld Z h0 rl "java/util/ArrayList" "size" "I" (.int (2 : Int32))) (H10 : AV Z h0 es (.object "java/lang/Object") [(.ref r0), (.ref r1), .null, .null, .null, .null, .null, .null, .null, .null]) (H11 : CM Z h0 es "java/lang/Object") (H12 : AV Z h0 r0 .int [(.int (0 : Int32))]) (H13 : Exa Z h0 r0 "[I") (H14 : AV Z h0 r1 .int [(.int (0 : Int32))]) (H15 : Exa Z h0 r1 "[I") : Con l Z (⟨"com/example/collectary/collectary/broker/Grid", "addCut", "(Lcom/example/collectary/collectary/broker/Grid$Axis;I)V"⟩ : MethodName) prog_14_method_11_code 9 none [] ({ frames := 3, cells := 2, slots := 3, locals := 90 } : Room) #[(.ref g), (.ref aW), (.int pt)] h0 (fun v h L => v = none ∧ Fr n0 L ∧ Keep h0 h [cu, rl, es] ∧ ∃ cn rn : Addr, Fld Z h g "com/example/collectary/collectary/broker/Grid" "cuts" "[[I" (.ref cu) ∧ Fld Z h g "com/example/collectary/collectary/broker/Grid" "rows" "Ljava/util/List;" (.ref rl) ∧ AV Z h cu (.array .int) [.ref cn, .ref c1] ∧ CM Z h cu "[I" ∧ AV Z h cn .int [(.int q), (.int pt)] ∧ AV Z h c1 .int [] ∧ Exa Z h rl "java/util/ArrayList" ∧ Fld Z h rl "java/util/AbstractList" "modCount" "I" (.int (mc + (1 : Int32))) ∧ Fld Z h rl "java/util/ArrayList" "elementData" "[Ljava/lang/Object;" (.ref es) ∧ Fld Z h rl "java/util/ArrayList" "size" "I" (.int (3 : Int32)) ∧ AV Z h es (.object "java/lang/Object") [(.ref r0), (.ref r1), (.ref rn), .null, .null, .null, .null, .null, .null, .null] ∧ CM Z h es "java/lang/Object" ∧ AV Z h r0 .int [(.int (0 : Int32))] ∧ Exa Z h r0 "[I" ∧ AV Z h r1 .int [(.int (0 : Int32))] ∧ Exa Z h r1 "[I" ∧ AV Z h rn .int [(.int (0 : Int32))] ∧ Exa Z h rn "[I") := by
  refine Con.of (plainFor_of_name pn_com_example_collectary_collectary_broker_Grid) ?_
  intro p e s m below meth c T X hx hby hml hown hnm hret eT hZ hsh Φ fin
  replace hown : s.vm.findClass "com/example/collectary/collectary/broker/Grid" = some m.cls := hown
  replace hml : 9 = c.maxLocals := hml.symm
  refine own_step (fun tq kq => castTop (ef_rmCut_0_1_1_1_0 m g aW pt) kq) ?_
  have N0 := Fr.nil n0
  have K0 : Keep h0 h0 [cu, rl, es] := Keep.refl h0 [cu, rl, es]
  have ne1_g_cu : g ≠ cu := own_ne_ea Eg (own_w hw 8 rfl) H2
  have ne2_aW_cu : aW ≠ cu := Nat.ne_of_lt (Nat.lt_of_lt_of_le ox n0_cu)
  have ne3_c0_cu : c0 ≠ cu := own_ne_av2 H4 H2 (by decide)
  have ne4_c1_cu : c1 ≠ cu := own_ne_av2 H5 H2 (by decide)
  have ne5_rl_cu : rl ≠ cu := own_ne_ea H6 (own_w hw 26 rfl) H2
  have ne6_es_cu : es ≠ cu := own_ne_av2 H10 H2 (by decide)
  have ne7_r0_cu : r0 ≠ cu := own_ne_av2 H12 H2 (by decide)
  have ne8_r1_cu : r1 ≠ cu := own_ne_av2 H14 H2 (by decide)
  have ne9_g_rl : g ≠ rl := ne_exa Eg H6 (by decide)
  have ne10_aW_rl : aW ≠ rl := Nat.ne_of_lt (Nat.lt_of_lt_of_le ox n0_rl)
  have ne11_c0_rl : c0 ≠ rl := (own_ne_ea H6 (own_w hw 26 rfl) H4).symm
  have ne12_c1_rl : c1 ≠ rl := (own_ne_ea H6 (own_w hw 26 rfl) H5).symm
  have ne13_es_rl : es ≠ rl := (own_ne_ea H6 (own_w hw 26 rfl) H10).symm
  have ne14_r0_rl : r0 ≠ rl := (own_ne_ea H6 (own_w hw 26 rfl) H12).symm
  have ne15_r1_rl : r1 ≠ rl := (own_ne_ea H6 (own_w hw 26 rfl) H14).symm
  have ne16_g_es : g ≠ es := own_ne_ea Eg (own_w hw 8 rfl) H10
  have ne17_aW_es : aW ≠ es := Nat.ne_of_lt (Nat.lt_of_lt_of_le ox n0_es)
  have ne18_c0_es : c0 ≠ es := own_ne_av2 H4 H10 (by decide)
  have ne19_c1_es : c1 ≠ es := own_ne_av2 H5 H10 (by decide)
  have ne20_r0_es : r0 ≠ es := own_ne_av2 H12 H10 (by decide)
  have ne21_r1_es : r1 ≠ es := own_ne_av2 H14 H10 (by decide)
  have nin_g : g ∉ [cu, rl, es] := (ninS ne1_g_cu (ninS ne9_g_rl (ninS ne16_g_es nin0)))
  have lt0_g := Eg.lt
  have nin_aW : aW ∉ [cu, rl, es] := (ninS ne2_aW_cu (ninS ne10_aW_rl (ninS ne17_aW_es nin0)))
  have lt0_aW := Exx.lt
  have nin_c0 : c0 ∉ [cu, rl, es] := (ninS ne3_c0_cu (ninS ne11_c0_rl (ninS ne18_c0_es nin0)))
  have lt0_c0 := H4.lt
  have nin_c1 : c1 ∉ [cu, rl, es] := (ninS ne4_c1_cu (ninS ne12_c1_rl (ninS ne19_c1_es nin0)))
  have lt0_c1 := H5.lt
  have nin_r0 : r0 ∉ [cu, rl, es] := (ninS ne7_r0_cu (ninS ne14_r0_rl (ninS ne20_r0_es nin0)))
  have lt0_r0 := H12.lt
  have nin_r1 : r1 ∉ [cu, rl, es] := (ninS ne8_r1_cu (ninS ne15_r1_rl (ninS ne21_r1_es nin0)))
  have lt0_r1 := H14.lt
  have plain_ws : ∀ x ∈ [cu, rl, es], ∀ c : Cell, h0[x]? = some c → c.vm.isStatics = false := (allS H2.plain (allS (own_plainE H6) (allS H10.plain all0)))
  refine own_aloadN X hx hby d_14_11__0 rfl rfl (pc' := 1) rfl ?_
  refine own_aloadN X hx hby d_14_11__1 rfl rfl (pc' := 2) rfl ?_
  refine own_iloadN X hx hby d_14_11__2 rfl (pc' := 3) rfl ?_
  refine own_iconst X hx hby d_14_11__3 (v := (1 : Int32)) rfl (pc' := 4) rfl ?_
  refine own_isub X hx hby d_14_11__4 (pc' := 5) rfl ?_
  refine own_callV X hx hby hZ (by exact hml) hown (own_w hw 102 rfl) (own_w hw 103 rfl) (own_w hw 105 rfl) (own_w hw 104 rfl) (own_w hw 9 rfl) (own_w hw 106 rfl) (by decide) eT 0 (by decide) (by decide) (by decide) (by decide) (argsL := [(.ref aW), (.int (pt - (1 : Int32)))]) (rest := []) (lenOf pd__Lcom_example_collectary_collectary_broker_Grid_Axis_I_I rfl) rfl (Nat.le_of_eq rfl) Eg (rmIv1_0 l Z a0 hw g aW cu c0 c1 q (pt - (1 : Int32)) h0 Exx Fo H0 H2 H4) d_14_11__5 (pc' := 8) rfl ?_
  intro v22 T22 L22 X22 hQ22
  obtain ⟨rfl, rfl, e22⟩ := hQ22
  rw [List.append_nil] at X22
  replace e22 : T22.heap = h0 := e22
  show GoP p e below Φ (T22.setTop (mkF m 8 #[.val (.ref g), .val (.ref aW), .val (.int pt), .unset, .unset, .unset, .unset, .unset, .unset] [(.int (if (pt - (1 : Int32)) < q then (0 : Int32) else (1 : Int32)))]))
  rw [if_neg hlo]
  refine own_istoreN X22 hx hby d_14_11__8  (Ls' := #[.val (.ref g), .val (.ref aW), .val (.int pt), .val (.int (1 : Int32)), .unset, .unset, .unset, .unset, .unset]) rfl (pc' := 9) rfl ?_
  refine own_aloadN X22 hx hby d_14_11__9 rfl rfl (pc' := 10) rfl ?_
  refine own_getF X22 hx hby hZ hown (host := "") (Or.inl (own_w hw 23 rfl)) Via.refl e22 H0 d_14_11__10 (pc' := 13) rfl ?_
  intro T23 X23 e23
  refine own_aloadN X23 hx hby d_14_11__13 rfl rfl (pc' := 14) rfl ?_
  refine own_callU X23 hx hby hZ (by exact hml) hown (x0 := (⟨"com/example/collectary/collectary/broker/Grid$Axis", "ordinal", "()I"⟩ : MethodName)) (y := (⟨"java/lang/Enum", "ordinal", "()I"⟩ : MethodName)) (own_w hw 52 rfl) (own_w hw 53 rfl) (own_w hw 54 rfl) (own_w hw 56 rfl) (own_w hw 55 rfl) (own_w hw 57 rfl) (own_w hw 58 rfl) (by decide) e23 1 (by decide) (by decide) (by decide) (by decide) (argsL := []) (rest := [(.ref cu)]) (lenOf pd___I rfl) rfl (Nat.le_of_eq rfl) Exx (rmO l Z a0 hw aW (0 : Int32) h0 Fo) d_14_11__14 (pc' := 17) rfl ?_
  intro v24 T24 L24 X24 hQ24
  obtain ⟨rfl, rfl, e24⟩ := hQ24
  rw [List.append_nil] at X24
  replace e24 : T24.heap = h0 := e24
  show GoP p e below Φ (T24.setTop (mkF m 17 #[.val (.ref g), .val (.ref aW), .val (.int pt), .val (.int (1 : Int32)), .unset, .unset, .unset, .unset, .unset] [(.int (0 : Int32)), (.ref cu)]))
  refine own_aaload X24 hx hby hZ e24 H2 rfl (by decide) (v := (.ref c0)) rfl d_14_11__17 (pc' := 18) rfl ?_
  refine own_astore X24 hx hby d_14_11__18 rfl (Ls' := #[.val (.ref g), .val (.ref aW), .val (.int pt), .val (.int (1 : Int32)), .val (.ref c0), .unset, .unset, .unset, .unset]) rfl (pc' := 20) rfl ?_
  refine own_aload X24 hx hby d_14_11__20 rfl rfl (pc' := 22) rfl ?_
  refine own_alen X24 hx hby hZ e24 (n := (1 : Int32)) H4 rfl d_14_11__22 (pc' := 23) rfl ?_
  refine own_iconst X24 hx hby d_14_11__23 (v := (1 : Int32)) rfl (pc' := 24) rfl ?_
  refine own_iadd X24 hx hby d_14_11__24 (pc' := 25) rfl ?_
  show GoP p e below Φ (T24.setTop (mkF m 25 #[.val (.ref g), .val (.ref aW), .val (.int pt), .val (.int (1 : Int32)), .val (.ref c0), .unset, .unset, .unset, .unset] [(.int (2 : Int32))]))
  refine own_newI X24 hx hby hZ (own_w hw 17 rfl) e24 (by decide) 2 (by decide) (by decide) (by decide) (by decide) d_14_11__25 (pc' := 27) rfl ?_
  intro T25 h25 b25 X25 e25 E25 g25 V25 I25 A25
  have ne_cu_b25 : cu ≠ b25 := Nat.ne_of_lt (g25 ▸ H2.lt)
  have ne_rl_b25 : rl ≠ b25 := Nat.ne_of_lt (g25 ▸ H6.lt)
  have ne_es_b25 : es ≠ b25 := Nat.ne_of_lt (g25 ▸ H10.lt)
  have V26_cu := H2.ext E25
  have Y27_cu := H3.ext E25
  have E28_rl := H6.ext E25
  have F29_modCount := H7.ext E25
  have F30_elementData := H8.ext E25
  have F31_size := H9.ext E25
  have V32_es := H10.ext E25
  have Y33_es := H11.ext E25
  have Z25 : n0 ≤ h25.size := Nat.le_trans Z0 E25.1
  have n0_b25 : n0 ≤ b25 := g25 ▸ Z0
  have sz_b25 : h0.size ≤ b25 := g25 ▸ K0.1
  have K25 : Keep h0 h25 [cu, rl, es] := K0.ext E25
  replace V25 : AV Z h25 b25 .int [(.int (0 : Int32)), (.int (0 : Int32))] := V25
  show GoP p e below Φ (T25.setTop (mkF m 27 #[.val (.ref g), .val (.ref aW), .val (.int pt), .val (.int (1 : Int32)), .val (.ref c0), .unset, .unset, .unset, .unset] [(.ref b25)]))
  refine own_astore X25 hx hby d_14_11__27 rfl (Ls' := #[.val (.ref g), .val (.ref aW), .val (.int pt), .val (.int (1 : Int32)), .val (.ref c0), .val (.ref b25), .unset, .unset, .unset]) rfl (pc' := 29) rfl ?_
  refine own_aload X25 hx hby d_14_11__29 rfl rfl (pc' := 31) rfl ?_
  refine own_iconst X25 hx hby d_14_11__31 (v := (0 : Int32)) rfl (pc' := 32) rfl ?_
  refine own_aload X25 hx hby d_14_11__32 rfl rfl (pc' := 34) rfl ?_
  refine own_iconst X25 hx hby d_14_11__34 (v := (0 : Int32)) rfl (pc' := 35) rfl ?_
  refine own_iloadN X25 hx hby d_14_11__35 rfl (pc' := 36) rfl ?_
  refine own_copyV X25 hx hby (dv := (.int 0)) hZ (by exact hml) hown (own_w hw 114 rfl) (own_w hw 117 rfl) (own_w hw 115 rfl) (own_w hw 116 rfl) e25 (H4.keep K25 nin_c0) V25 rfl rfl rfl (by decide) (by decide) (by decide) (Nat.le_of_ble_eq_true rfl) (Nat.le_of_ble_eq_true rfl) N0 n0_b25 (by decide) 0 (Nat.le_of_eq rfl) (by decide) d_14_11__36 (pc' := 39) rfl ?_
  intro T34 h34 L34 X34 e34 Nn34 K34 V34
  replace V34 : AV Z h34 b25 .int [(.int q), (.int (0 : Int32))] := V34
  have V35_cu := V26_cu.keep K34 (ninS ne_cu_b25 nin0)
  have Y36_cu := Y27_cu.keep K34 
  have E37_rl := E28_rl.keep K34 
  have F38_modCount := F29_modCount.keep K34 (ninS ne_rl_b25 nin0)
  have F39_elementData := F30_elementData.keep K34 (ninS ne_rl_b25 nin0)
  have F40_size := F31_size.keep K34 (ninS ne_rl_b25 nin0)
  have V41_es := V32_es.keep K34 (ninS ne_es_b25 nin0)
  have Y42_es := Y33_es.keep K34 
  have E43_b25 := A25.keep K34 
  have KC34 : Keep h0 h34 [cu, rl, es] := K25.trans K34 (allS (Or.inr sz_b25) all0)
  have ZC34 : n0 ≤ h34.size := Nat.le_trans Z25 K34.1
  refine own_aload X34 hx hby d_14_11__39 rfl rfl (pc' := 41) rfl ?_
  refine own_iloadN X34 hx hby d_14_11__41 rfl (pc' := 42) rfl ?_
  refine own_iloadN X34 hx hby d_14_11__42 rfl (pc' := 43) rfl ?_
  refine own_iastore X34 hx hby hZ e34 V34 (by decide) (Nat.le_of_ble_eq_true rfl) d_14_11__43 (pc' := 44) rfl ?_
  intro T44 h44 X44 e44 W44 V44
  replace V44 : AV Z h44 b25 .int [(.int q), (.int pt)] := V44
  have V45_cu := V35_cu.other W44 ne_cu_b25
  have Y46_cu := Y36_cu.wr W44
  have E47_rl := E37_rl.wr W44
  have F48_modCount := F38_modCount.other W44 (Or.inl ne_rl_b25)
  have F49_elementData := F39_elementData.other W44 (Or.inl ne_rl_b25)
  have F50_size := F40_size.other W44 (Or.inl ne_rl_b25)
  have V51_es := V41_es.other W44 ne_es_b25
  have Y52_es := Y42_es.wr W44
  have E54_b25 := E43_b25.wr W44
  have Z44 : n0 ≤ h44.size := by rw [W44.size]; exact ZC34
  have N44 := Fr.snoc X44 Nn34 n0_b25
  have K44 : Keep h0 h44 [cu, rl, es] := KC34.wr W44 (Or.inr sz_b25)
  refine own_aload X44 hx hby d_14_11__44 rfl rfl (pc' := 46) rfl ?_
  refine own_iloadN X44 hx hby d_14_11__46 rfl (pc' := 47) rfl ?_
  refine own_aload X44 hx hby d_14_11__47 rfl rfl (pc' := 49) rfl ?_
  refine own_iloadN X44 hx hby d_14_11__49 rfl (pc' := 50) rfl ?_
  refine own_iconst X44 hx hby d_14_11__50 (v := (1 : Int32)) rfl (pc' := 51) rfl ?_
  refine own_iadd X44 hx hby d_14_11__51 (pc' := 52) rfl ?_
  show GoP p e below Φ (T44.setTop (mkF m 52 #[.val (.ref g), .val (.ref aW), .val (.int pt), .val (.int (1 : Int32)), .val (.ref c0), .val (.ref b25), .unset, .unset, .unset] [(.int (2 : Int32)), (.ref b25), (.int (1 : Int32)), (.ref c0)]))
  refine own_aload X44 hx hby d_14_11__52 rfl rfl (pc' := 54) rfl ?_
  refine own_alen X44 hx hby hZ e44 (n := (1 : Int32)) (H4.keep K44 nin_c0) rfl d_14_11__54 (pc' := 55) rfl ?_
  refine own_iloadN X44 hx hby d_14_11__55 rfl (pc' := 56) rfl ?_
  refine own_isub X44 hx hby d_14_11__56 (pc' := 57) rfl ?_
  show GoP p e below Φ (T44.setTop (mkF m 57 #[.val (.ref g), .val (.ref aW), .val (.int pt), .val (.int (1 : Int32)), .val (.ref c0), .val (.ref b25), .unset, .unset, .unset] [(.int (0 : Int32)), (.int (2 : Int32)), (.ref b25), (.int (1 : Int32)), (.ref c0)]))
  refine own_copyV X44 hx hby (dv := (.int 0)) hZ (by exact hml) hown (own_w hw 114 rfl) (own_w hw 117 rfl) (own_w hw 115 rfl) (own_w hw 116 rfl) e44 (H4.keep K44 nin_c0) V44 rfl rfl rfl (by decide) (by decide) (by decide) (Nat.le_of_ble_eq_true rfl) (Nat.le_of_ble_eq_true rfl) N44 n0_b25 (by decide) 0 (Nat.le_of_eq rfl) (by decide) d_14_11__57 (pc' := 60) rfl ?_
  intro T55 h55 L55 X55 e55 Nn55 K55 V55
  replace V55 : AV Z h55 b25 .int [(.int q), (.int pt)] := V55
  have V56_cu := V45_cu.keep K55 (ninS ne_cu_b25 nin0)
  have Y57_cu := Y46_cu.keep K55 
  have E58_rl := E47_rl.keep K55 
  have F59_modCount := F48_modCount.keep K55 (ninS ne_rl_b25 nin0)
  have F60_elementData := F49_elementData.keep K55 (ninS ne_rl_b25 nin0)
  have F61_size := F50_size.keep K55 (ninS ne_rl_b25 nin0)
  have V62_es := V51_es.keep K55 (ninS ne_es_b25 nin0)
  have Y63_es := Y52_es.keep K55 
  have E64_b25 := E54_b25.keep K55 
  have KC55 : Keep h0 h55 [cu, rl, es] := K44.trans K55 (allS (Or.inr sz_b25) all0)
  have ZC55 : n0 ≤ h55.size := Nat.le_trans Z44 K55.1
  refine own_aloadN X55 hx hby d_14_11__60 rfl rfl (pc' := 61) rfl ?_
  refine own_getF X55 hx hby hZ hown (host := "") (Or.inl (own_w hw 23 rfl)) Via.refl e55 (H0.keep KC55 nin_g) d_14_11__61 (pc' := 64) rfl ?_
  intro T65 X65 e65
  refine own_aloadN X65 hx hby d_14_11__64 rfl rfl (pc' := 65) rfl ?_
  refine own_callU X65 hx hby hZ (by exact hml) hown (x0 := (⟨"com/example/collectary/collectary/broker/Grid$Axis", "ordinal", "()I"⟩ : MethodName)) (y := (⟨"java/lang/Enum", "ordinal", "()I"⟩ : MethodName)) (own_w hw 52 rfl) (own_w hw 53 rfl) (own_w hw 54 rfl) (own_w hw 56 rfl) (own_w hw 55 rfl) (own_w hw 57 rfl) (own_w hw 58 rfl) (by decide) e65 1 (by decide) (by decide) (by decide) (by decide) (argsL := []) (rest := [(.ref cu)]) (lenOf pd___I rfl) rfl (Nat.le_of_eq rfl) (Exx.keep KC55) (rmO l Z a0 hw aW (0 : Int32) h55 (Fo.keep KC55 nin_aW)) d_14_11__65 (pc' := 68) rfl ?_
  intro v66 T66 L66 X66 hQ66
  obtain ⟨rfl, rfl, e66⟩ := hQ66
  rw [List.append_nil] at X66
  replace e66 : T66.heap = h55 := e66
  show GoP p e below Φ (T66.setTop (mkF m 68 #[.val (.ref g), .val (.ref aW), .val (.int pt), .val (.int (1 : Int32)), .val (.ref c0), .val (.ref b25), .unset, .unset, .unset] [(.int (0 : Int32)), (.ref cu)]))
  refine own_aload X66 hx hby d_14_11__68 rfl rfl (pc' := 70) rfl ?_
  refine own_aastore X66 hx hby hZ e66 V56_cu rfl (own_sto V56_cu Y57_cu (Ins.self E64_b25)) (by decide) (Nat.le_of_ble_eq_true rfl) d_14_11__70 (pc' := 71) rfl ?_
  intro T67 h67 X67 e67 W67 V67
  replace V67 : AV Z h67 cu (.array .int) [(.ref b25), (.ref c1)] := V67
  have Y69_cu := Y57_cu.wr W67
  have E70_rl := E58_rl.wr W67
  have F71_modCount := F59_modCount.other W67 (Or.inl ne5_rl_cu)
  have F72_elementData := F60_elementData.other W67 (Or.inl ne5_rl_cu)
  have F73_size := F61_size.other W67 (Or.inl ne5_rl_cu)
  have V74_es := V62_es.other W67 ne6_es_cu
  have Y75_es := Y63_es.wr W67
  have V76_b25 := V55.other W67 (Ne.symm ne_cu_b25)
  have E77_b25 := E64_b25.wr W67
  have Z67 : n0 ≤ h67.size := by rw [W67.size]; exact ZC55
  have N67 := Fr.snoc X67 Nn55 n0_cu
  have K67 : Keep h0 h67 [cu, rl, es] := KC55.wr W67 (Or.inl (List.mem_of_getElem? (i := 0) rfl))
  refine own_aloadN X67 hx hby d_14_11__71 rfl rfl (pc' := 72) rfl ?_
  refine own_getS X67 hx hby hZ hown (host := "") (Or.inl (own_w hw 51 rfl)) Via.refl e67 (own_stakeep SW K67 plain_ws) d_14_11__72 (pc' := 75) rfl ?_
  intro T78 X78 e78
  refine own_acmp X78 hx hby d_14_11__75 rfl rfl (same := true) (decide_eq_true (congrArg Value.ref rfl)) (by decide) (pc' := 78) (by decide) ?_
  refine own_aloadN X78 hx hby d_14_11__78 rfl rfl (pc' := 79) rfl ?_
  refine own_getF X78 hx hby hZ hown (host := "") (Or.inl (own_w hw 49 rfl)) Via.refl e78 (H1.keep K67 nin_g) d_14_11__79 (pc' := 82) rfl ?_
  intro T79 X79 e79
  refine own_iloadN X79 hx hby d_14_11__82 rfl (pc' := 83) rfl ?_
  refine own_iconst X79 hx hby d_14_11__83 (v := (1 : Int32)) rfl (pc' := 84) rfl ?_
  refine own_iadd X79 hx hby d_14_11__84 (pc' := 85) rfl ?_
  show GoP p e below Φ (T79.setTop (mkF m 85 #[.val (.ref g), .val (.ref aW), .val (.int pt), .val (.int (1 : Int32)), .val (.ref c0), .val (.ref b25), .unset, .unset, .unset] [(.int (2 : Int32)), (.ref rl)]))
  refine own_aloadN X79 hx hby d_14_11__85 rfl rfl (pc' := 86) rfl ?_
  refine own_getF X79 hx hby hZ hown (host := "") (Or.inl (own_w hw 49 rfl)) Via.refl e79 (H1.keep K67 nin_g) d_14_11__86 (pc' := 89) rfl ?_
  intro T80 X80 e80
  refine own_iloadN X80 hx hby d_14_11__89 rfl (pc' := 90) rfl ?_
  refine own_callF X80 hx hby hZ (by exact hml) hown (x0 := (⟨"java/util/List", "get", "(I)Ljava/lang/Object;"⟩ : MethodName)) (y := (⟨"java/util/ArrayList", "get", "(I)Ljava/lang/Object;"⟩ : MethodName)) (own_w hw 118 rfl) (own_w hw 119 rfl) (own_w hw 120 rfl) (own_w hw 121 rfl) (own_w hw 122 rfl) (own_w hw 123 rfl) (own_w hw 124 rfl) (own_w hw 69 rfl) (own_w hw 27 rfl) rfl (own_w hw 125 rfl) (by decide) e80 2 (by decide) (by decide) (by decide) (by decide) (argsL := [(.int (1 : Int32))]) (rest := [(.int (2 : Int32)), (.ref rl)]) (lenOf pd__I_Ljava_lang_Object_ rfl) rfl (Nat.le_of_eq rfl) E70_rl (rmG1 l Z a0 hw rl es r1 (2 : Int32) (.ref r0) .null .null .null .null .null .null .null .null h67 (by decide) E70_rl F73_size F72_elementData V74_es) d_14_11__90 (pc' := 95) rfl ?_
  intro v81 T81 L81 X81 hQ81
  obtain ⟨rfl, rfl, e81⟩ := hQ81
  rw [List.append_nil] at X81
  replace e81 : T81.heap = h67 := e81
  show GoP p e below Φ (T81.setTop (mkF m 95 #[.val (.ref g), .val (.ref aW), .val (.int pt), .val (.int (1 : Int32)), .val (.ref c0), .val (.ref b25), .unset, .unset, .unset] [(.ref r1), (.int (2 : Int32)), (.ref rl)]))
  obtain ⟨T82, X82, e82, st82⟩ := castY X81 hx hZ hown (own_w hw 20 rfl) e81 (Ins.self (H15.keep K67)) (g := (mkF m 95 #[.val (.ref g), .val (.ref aW), .val (.int pt), .val (.int (1 : Int32)), .val (.ref c0), .val (.ref b25), .unset, .unset, .unset] [(.ref r1), (.int (2 : Int32)), (.ref rl)])) rfl rfl (hb hby d_14_11__95)
  refine own_step st82 ?_
  show GoP p e below Φ (T82.setTop (mkF m 98 #[.val (.ref g), .val (.ref aW), .val (.int pt), .val (.int (1 : Int32)), .val (.ref c0), .val (.ref b25), .unset, .unset, .unset] [(.ref r1), (.int (2 : Int32)), (.ref rl)]))
  refine own_cloneI X82 hx hby hZ (by exact hml) hown (own_w hw 139 rfl) (own_w hw 140 rfl) (own_w hw 144 rfl) (own_w hw 142 rfl) (own_w hw 143 rfl) (own_w hw 145 rfl) e82 (H14.keep K67 nin_r1) rfl (H15.keep K67) (by decide) 2 (Nat.le_of_eq rfl) (by decide) 1 (Nat.le_of_ble_eq_true rfl) (by decide) (by decide) d_14_11__98 (pc' := 101) rfl ?_
  intro T83 h83 b83 X83 e83 E83 g83 V83 A83
  have ne_cu_b83 : cu ≠ b83 := Nat.ne_of_lt (g83 ▸ V67.lt)
  have ne_rl_b83 : rl ≠ b83 := Nat.ne_of_lt (g83 ▸ E70_rl.lt)
  have ne_es_b83 : es ≠ b83 := Nat.ne_of_lt (g83 ▸ V74_es.lt)
  have ne_b25_b83 : b25 ≠ b83 := Nat.ne_of_lt (g83 ▸ V76_b25.lt)
  have V84_cu := V67.ext E83
  have Y85_cu := Y69_cu.ext E83
  have E86_rl := E70_rl.ext E83
  have F87_modCount := F71_modCount.ext E83
  have F88_elementData := F72_elementData.ext E83
  have F89_size := F73_size.ext E83
  have V90_es := V74_es.ext E83
  have Y91_es := Y75_es.ext E83
  have V92_b25 := V76_b25.ext E83
  have E93_b25 := E77_b25.ext E83
  have Z83 : n0 ≤ h83.size := Nat.le_trans Z67 E83.1
  have n0_b83 : n0 ≤ b83 := g83 ▸ Z67
  have sz_b83 : h0.size ≤ b83 := g83 ▸ K67.1
  have K83 : Keep h0 h83 [cu, rl, es] := K67.ext E83
  show GoP p e below Φ (T83.setTop (mkF m 101 #[.val (.ref g), .val (.ref aW), .val (.int pt), .val (.int (1 : Int32)), .val (.ref c0), .val (.ref b25), .unset, .unset, .unset] [(.ref b83), (.int (2 : Int32)), (.ref rl)]))
  obtain ⟨T94, X94, e94, st94⟩ := castY X83 hx hZ hown (own_w hw 20 rfl) e83 (Ins.self A83) (g := (mkF m 101 #[.val (.ref g), .val (.ref aW), .val (.int pt), .val (.int (1 : Int32)), .val (.ref c0), .val (.ref b25), .unset, .unset, .unset] [(.ref b83), (.int (2 : Int32)), (.ref rl)])) rfl rfl (hb hby d_14_11__101)
  refine own_step st94 ?_
  show GoP p e below Φ (T94.setTop (mkF m 104 #[.val (.ref g), .val (.ref aW), .val (.int pt), .val (.int (1 : Int32)), .val (.ref c0), .val (.ref b25), .unset, .unset, .unset] [(.ref b83), (.int (2 : Int32)), (.ref rl)]))
  refine own_callF X94 hx hby hZ (by exact hml) hown (x0 := (⟨"java/util/List", "add", "(ILjava/lang/Object;)V"⟩ : MethodName)) (y := (⟨"java/util/ArrayList", "add", "(ILjava/lang/Object;)V"⟩ : MethodName)) (own_w hw 146 rfl) (own_w hw 147 rfl) (own_w hw 148 rfl) (own_w hw 149 rfl) (own_w hw 150 rfl) (own_w hw 151 rfl) (own_w hw 152 rfl) (own_w hw 69 rfl) (own_w hw 27 rfl) rfl (own_w hw 153 rfl) (by decide) e94 0 (by decide) (by decide) (by decide) (by decide) (argsL := [(.int (2 : Int32)), (.ref b83)]) (rest := []) (lenOf pd__ILjava_lang_Object__V rfl) rfl (Nat.le_of_eq rfl) E86_rl (rmAt22 l Z a0 hw rl es b83 r0 r1 mc n0 h83 n0_rl n0_es (Ne.symm ne13_es_rl) E86_rl F87_modCount F88_elementData F89_size V90_es Y91_es A83 (H13.keep K83) (H15.keep K83)) d_14_11__104 (pc' := 109) rfl ?_
  intro v95 T95 L95 X95 hQ95
  obtain ⟨rfl, Nq95, K95, G195, G295, G395, V95⟩ := hQ95
  have V96_cu := V84_cu.keep K95 (ninS (Ne.symm ne5_rl_cu) (ninS (Ne.symm ne6_es_cu) nin0))
  have Y97_cu := Y85_cu.keep K95
  have E98_rl := E86_rl.keep K95
  have Y99_es := Y91_es.keep K95
  have V100_b25 := V92_b25.keep K95 (ninS (Ne.symm ne_rl_b25) (ninS (Ne.symm ne_es_b25) nin0))
  have E101_b25 := E93_b25.keep K95
  have V102_b83 := V83.keep K95 (ninS (Ne.symm ne_rl_b83) (ninS (Ne.symm ne_es_b83) nin0))
  have E103_b83 := A83.keep K95
  have N95 := Fr.app N67 Nq95
  have Z95 : n0 ≤ T95.heap.size := Nat.le_trans Z83 K95.1
  have KK95 : Keep h0 T95.heap [cu, rl, es] := K83.trans K95 (allS (Or.inl (List.mem_of_getElem? (i := 1) rfl)) (allS (Or.inl (List.mem_of_getElem? (i := 2) rfl)) all0))
  show GoP p e below Φ (T95.setTop (mkF m 109 #[.val (.ref g), .val (.ref aW), .val (.int pt), .val (.int (1 : Int32)), .val (.ref c0), .val (.ref b25), .unset, .unset, .unset] []))
  refine own_goto X95 hx hby d_14_11__109 (by decide) (pc' := 202) (by decide) ?_
  exact own_ret0 X95 hx hby fin hret d_14_11__202 (by decide) (by decide) (by exact ⟨rfl, N95, KK95, b25, b83, (H0.keep KK95 nin_g), (H1.keep KK95 nin_g), V96_cu, Y97_cu, V100_b25, (H5.keep KK95 nin_c1), E98_rl, G195, G295, G395, V95, Y99_es, (H12.keep KK95 nin_r0), (H13.keep KK95), (H14.keep KK95 nin_r1), (H15.keep KK95), V102_b83, E103_b83⟩)
theorem ef_rmCut_0_1_0_1_1 (m : MethodId) (x0 : Addr) (x1 : Addr) (x2 : Int32) : entryFrame m #[(.ref x0), (.ref x1), (.int x2)] 9 = mkF m 0 #[.val (.ref x0), .val (.ref x1), .val (.int x2), .unset, .unset, .unset, .unset, .unset, .unset] [] := by first | (simp [entryFrame, mkF, argsToLocals, Value.category]; done) | rfl
set_option maxRecDepth 65536 in
set_option maxHeartbeats 40000000 in
theorem rmCut_0_1_0_1_1 (l : Launch) (Z : State) (a0 : Array Value) (hw : ∀ d ∈ tables_1, d.before a0 Z = true) (g aW aC cu c0 c1 rl es r0 r1 : Addr) (pt q u0 mc : Int32) (n0 : Nat) (h0 : Heap) (n0_cu : n0 ≤ cu) (n0_rl : n0 ≤ rl) (n0_es : n0 ≤ es) (Z0 : n0 ≤ h0.size) (ox : aW < n0) (hlo : (pt - (1 : Int32)) < q)  (Eg : Exa Z h0 g "com/example/collectary/collectary/broker/Grid") (Exx : Exa Z h0 aW "com/example/collectary/collectary/broker/Grid$Axis") (Fo : Fld Z h0 aW "java/lang/Enum" "ordinal" "I" (.int (0 : Int32))) (SW : Sta Z h0 "com/example/collectary/collectary/broker/Grid$Axis" "WORD" "Lcom/example/collectary/collectary/broker/Grid$Axis;" (.ref aW)) (H0 : Fld Z h0 g "com/example/collectary/collectary/broker/Grid" "cuts" "[[I" (.ref cu)) (H1 : Fld Z h0 g "com/example/collectary/collectary/broker/Grid" "rows" "Ljava/util/List;" (.ref rl)) (H2 : AV Z h0 cu (.array .int) [.ref c0, .ref c1]) (H3 : CM Z h0 cu "[I") (H4 : AV Z h0 c0 .int [(.int q)]) (H5 : AV Z h0 c1 .int [(.int u0)]) (H6 : Exa Z h0 rl "java/util/ArrayList") (H7 : Fld Z h0 rl "java/util/AbstractList" "modCount" "I" (.int mc)) (H8 : Fld Z h0 rl "java/util/ArrayList" "elementData" "[Ljava/lang/Object;" (.ref es)) (H9 : Fld Z h0 rl "java/util/ArrayList" "size" "I" (.int (2 : Int32))) (H10 : AV Z h0 es (.object "java/lang/Object") [(.ref r0), (.ref r1), .null, .null, .null, .null, .null, .null, .null, .null]) (H11 : CM Z h0 es "java/lang/Object") (H12 : AV Z h0 r0 .int [(.int (0 : Int32)), (.int (0 : Int32))]) (H13 : Exa Z h0 r0 "[I") (H14 : AV Z h0 r1 .int [(.int (0 : Int32)), (.int (0 : Int32))]) (H15 : Exa Z h0 r1 "[I") : Con l Z (⟨"com/example/collectary/collectary/broker/Grid", "addCut", "(Lcom/example/collectary/collectary/broker/Grid$Axis;I)V"⟩ : MethodName) prog_14_method_11_code 9 none [] ({ frames := 3, cells := 2, slots := 4, locals := 90 } : Room) #[(.ref g), (.ref aW), (.int pt)] h0 (fun v h L => v = none ∧ Fr n0 L ∧ Keep h0 h [cu, rl, es] ∧ ∃ cn rn : Addr, Fld Z h g "com/example/collectary/collectary/broker/Grid" "cuts" "[[I" (.ref cu) ∧ Fld Z h g "com/example/collectary/collectary/broker/Grid" "rows" "Ljava/util/List;" (.ref rl) ∧ AV Z h cu (.array .int) [.ref cn, .ref c1] ∧ CM Z h cu "[I" ∧ AV Z h cn .int [(.int pt), (.int q)] ∧ AV Z h c1 .int [(.int u0)] ∧ Exa Z h rl "java/util/ArrayList" ∧ Fld Z h rl "java/util/AbstractList" "modCount" "I" (.int (mc + (1 : Int32))) ∧ Fld Z h rl "java/util/ArrayList" "elementData" "[Ljava/lang/Object;" (.ref es) ∧ Fld Z h rl "java/util/ArrayList" "size" "I" (.int (3 : Int32)) ∧ AV Z h es (.object "java/lang/Object") [(.ref r0), (.ref rn), (.ref r1), .null, .null, .null, .null, .null, .null, .null] ∧ CM Z h es "java/lang/Object" ∧ AV Z h r0 .int [(.int (0 : Int32)), (.int (0 : Int32))] ∧ Exa Z h r0 "[I" ∧ AV Z h rn .int [(.int (0 : Int32)), (.int (0 : Int32))] ∧ Exa Z h rn "[I" ∧ AV Z h r1 .int [(.int (0 : Int32)), (.int (0 : Int32))] ∧ Exa Z h r1 "[I") := by
  refine Con.of (plainFor_of_name pn_com_example_collectary_collectary_broker_Grid) ?_
  intro p e s m below meth c T X hx hby hml hown hnm hret eT hZ hsh Φ fin
  replace hown : s.vm.findClass "com/example/collectary/collectary/broker/Grid" = some m.cls := hown
  replace hml : 9 = c.maxLocals := hml.symm
  refine own_step (fun tq kq => castTop (ef_rmCut_0_1_0_1_1 m g aW pt) kq) ?_
  have N0 := Fr.nil n0
  have K0 : Keep h0 h0 [cu, rl, es] := Keep.refl h0 [cu, rl, es]
  have ne1_g_cu : g ≠ cu := own_ne_ea Eg (own_w hw 8 rfl) H2
  have ne2_aW_cu : aW ≠ cu := Nat.ne_of_lt (Nat.lt_of_lt_of_le ox n0_cu)
  have ne3_c0_cu : c0 ≠ cu := own_ne_av2 H4 H2 (by decide)
  have ne4_c1_cu : c1 ≠ cu := own_ne_av2 H5 H2 (by decide)
  have ne5_rl_cu : rl ≠ cu := own_ne_ea H6 (own_w hw 26 rfl) H2
  have ne6_es_cu : es ≠ cu := own_ne_av2 H10 H2 (by decide)
  have ne7_r0_cu : r0 ≠ cu := own_ne_av2 H12 H2 (by decide)
  have ne8_r1_cu : r1 ≠ cu := own_ne_av2 H14 H2 (by decide)
  have ne9_g_rl : g ≠ rl := ne_exa Eg H6 (by decide)
  have ne10_aW_rl : aW ≠ rl := Nat.ne_of_lt (Nat.lt_of_lt_of_le ox n0_rl)
  have ne11_c0_rl : c0 ≠ rl := (own_ne_ea H6 (own_w hw 26 rfl) H4).symm
  have ne12_c1_rl : c1 ≠ rl := (own_ne_ea H6 (own_w hw 26 rfl) H5).symm
  have ne13_es_rl : es ≠ rl := (own_ne_ea H6 (own_w hw 26 rfl) H10).symm
  have ne14_r0_rl : r0 ≠ rl := (own_ne_ea H6 (own_w hw 26 rfl) H12).symm
  have ne15_r1_rl : r1 ≠ rl := (own_ne_ea H6 (own_w hw 26 rfl) H14).symm
  have ne16_g_es : g ≠ es := own_ne_ea Eg (own_w hw 8 rfl) H10
  have ne17_aW_es : aW ≠ es := Nat.ne_of_lt (Nat.lt_of_lt_of_le ox n0_es)
  have ne18_c0_es : c0 ≠ es := own_ne_av2 H4 H10 (by decide)
  have ne19_c1_es : c1 ≠ es := own_ne_av2 H5 H10 (by decide)
  have ne20_r0_es : r0 ≠ es := own_ne_av2 H12 H10 (by decide)
  have ne21_r1_es : r1 ≠ es := own_ne_av2 H14 H10 (by decide)
  have nin_g : g ∉ [cu, rl, es] := (ninS ne1_g_cu (ninS ne9_g_rl (ninS ne16_g_es nin0)))
  have lt0_g := Eg.lt
  have nin_aW : aW ∉ [cu, rl, es] := (ninS ne2_aW_cu (ninS ne10_aW_rl (ninS ne17_aW_es nin0)))
  have lt0_aW := Exx.lt
  have nin_c0 : c0 ∉ [cu, rl, es] := (ninS ne3_c0_cu (ninS ne11_c0_rl (ninS ne18_c0_es nin0)))
  have lt0_c0 := H4.lt
  have nin_c1 : c1 ∉ [cu, rl, es] := (ninS ne4_c1_cu (ninS ne12_c1_rl (ninS ne19_c1_es nin0)))
  have lt0_c1 := H5.lt
  have nin_r0 : r0 ∉ [cu, rl, es] := (ninS ne7_r0_cu (ninS ne14_r0_rl (ninS ne20_r0_es nin0)))
  have lt0_r0 := H12.lt
  have nin_r1 : r1 ∉ [cu, rl, es] := (ninS ne8_r1_cu (ninS ne15_r1_rl (ninS ne21_r1_es nin0)))
  have lt0_r1 := H14.lt
  have plain_ws : ∀ x ∈ [cu, rl, es], ∀ c : Cell, h0[x]? = some c → c.vm.isStatics = false := (allS H2.plain (allS (own_plainE H6) (allS H10.plain all0)))
  refine own_aloadN X hx hby d_14_11__0 rfl rfl (pc' := 1) rfl ?_
  refine own_aloadN X hx hby d_14_11__1 rfl rfl (pc' := 2) rfl ?_
  refine own_iloadN X hx hby d_14_11__2 rfl (pc' := 3) rfl ?_
  refine own_iconst X hx hby d_14_11__3 (v := (1 : Int32)) rfl (pc' := 4) rfl ?_
  refine own_isub X hx hby d_14_11__4 (pc' := 5) rfl ?_
  refine own_callV X hx hby hZ (by exact hml) hown (own_w hw 102 rfl) (own_w hw 103 rfl) (own_w hw 105 rfl) (own_w hw 104 rfl) (own_w hw 9 rfl) (own_w hw 106 rfl) (by decide) eT 0 (by decide) (by decide) (by decide) (by decide) (argsL := [(.ref aW), (.int (pt - (1 : Int32)))]) (rest := []) (lenOf pd__Lcom_example_collectary_collectary_broker_Grid_Axis_I_I rfl) rfl (Nat.le_of_eq rfl) Eg (rmIv1_0 l Z a0 hw g aW cu c0 c1 q (pt - (1 : Int32)) h0 Exx Fo H0 H2 H4) d_14_11__5 (pc' := 8) rfl ?_
  intro v22 T22 L22 X22 hQ22
  obtain ⟨rfl, rfl, e22⟩ := hQ22
  rw [List.append_nil] at X22
  replace e22 : T22.heap = h0 := e22
  show GoP p e below Φ (T22.setTop (mkF m 8 #[.val (.ref g), .val (.ref aW), .val (.int pt), .unset, .unset, .unset, .unset, .unset, .unset] [(.int (if (pt - (1 : Int32)) < q then (0 : Int32) else (1 : Int32)))]))
  rw [if_pos hlo]
  refine own_istoreN X22 hx hby d_14_11__8  (Ls' := #[.val (.ref g), .val (.ref aW), .val (.int pt), .val (.int (0 : Int32)), .unset, .unset, .unset, .unset, .unset]) rfl (pc' := 9) rfl ?_
  refine own_aloadN X22 hx hby d_14_11__9 rfl rfl (pc' := 10) rfl ?_
  refine own_getF X22 hx hby hZ hown (host := "") (Or.inl (own_w hw 23 rfl)) Via.refl e22 H0 d_14_11__10 (pc' := 13) rfl ?_
  intro T23 X23 e23
  refine own_aloadN X23 hx hby d_14_11__13 rfl rfl (pc' := 14) rfl ?_
  refine own_callU X23 hx hby hZ (by exact hml) hown (x0 := (⟨"com/example/collectary/collectary/broker/Grid$Axis", "ordinal", "()I"⟩ : MethodName)) (y := (⟨"java/lang/Enum", "ordinal", "()I"⟩ : MethodName)) (own_w hw 52 rfl) (own_w hw 53 rfl) (own_w hw 54 rfl) (own_w hw 56 rfl) (own_w hw 55 rfl) (own_w hw 57 rfl) (own_w hw 58 rfl) (by decide) e23 1 (by decide) (by decide) (by decide) (by decide) (argsL := []) (rest := [(.ref cu)]) (lenOf pd___I rfl) rfl (Nat.le_of_eq rfl) Exx (rmO l Z a0 hw aW (0 : Int32) h0 Fo) d_14_11__14 (pc' := 17) rfl ?_
  intro v24 T24 L24 X24 hQ24
  obtain ⟨rfl, rfl, e24⟩ := hQ24
  rw [List.append_nil] at X24
  replace e24 : T24.heap = h0 := e24
  show GoP p e below Φ (T24.setTop (mkF m 17 #[.val (.ref g), .val (.ref aW), .val (.int pt), .val (.int (0 : Int32)), .unset, .unset, .unset, .unset, .unset] [(.int (0 : Int32)), (.ref cu)]))
  refine own_aaload X24 hx hby hZ e24 H2 rfl (by decide) (v := (.ref c0)) rfl d_14_11__17 (pc' := 18) rfl ?_
  refine own_astore X24 hx hby d_14_11__18 rfl (Ls' := #[.val (.ref g), .val (.ref aW), .val (.int pt), .val (.int (0 : Int32)), .val (.ref c0), .unset, .unset, .unset, .unset]) rfl (pc' := 20) rfl ?_
  refine own_aload X24 hx hby d_14_11__20 rfl rfl (pc' := 22) rfl ?_
  refine own_alen X24 hx hby hZ e24 (n := (1 : Int32)) H4 rfl d_14_11__22 (pc' := 23) rfl ?_
  refine own_iconst X24 hx hby d_14_11__23 (v := (1 : Int32)) rfl (pc' := 24) rfl ?_
  refine own_iadd X24 hx hby d_14_11__24 (pc' := 25) rfl ?_
  show GoP p e below Φ (T24.setTop (mkF m 25 #[.val (.ref g), .val (.ref aW), .val (.int pt), .val (.int (0 : Int32)), .val (.ref c0), .unset, .unset, .unset, .unset] [(.int (2 : Int32))]))
  refine own_newI X24 hx hby hZ (own_w hw 17 rfl) e24 (by decide) 2 (by decide) (by decide) (by decide) (by decide) d_14_11__25 (pc' := 27) rfl ?_
  intro T25 h25 b25 X25 e25 E25 g25 V25 I25 A25
  have ne_cu_b25 : cu ≠ b25 := Nat.ne_of_lt (g25 ▸ H2.lt)
  have ne_rl_b25 : rl ≠ b25 := Nat.ne_of_lt (g25 ▸ H6.lt)
  have ne_es_b25 : es ≠ b25 := Nat.ne_of_lt (g25 ▸ H10.lt)
  have V26_cu := H2.ext E25
  have Y27_cu := H3.ext E25
  have E28_rl := H6.ext E25
  have F29_modCount := H7.ext E25
  have F30_elementData := H8.ext E25
  have F31_size := H9.ext E25
  have V32_es := H10.ext E25
  have Y33_es := H11.ext E25
  have Z25 : n0 ≤ h25.size := Nat.le_trans Z0 E25.1
  have n0_b25 : n0 ≤ b25 := g25 ▸ Z0
  have sz_b25 : h0.size ≤ b25 := g25 ▸ K0.1
  have K25 : Keep h0 h25 [cu, rl, es] := K0.ext E25
  replace V25 : AV Z h25 b25 .int [(.int (0 : Int32)), (.int (0 : Int32))] := V25
  show GoP p e below Φ (T25.setTop (mkF m 27 #[.val (.ref g), .val (.ref aW), .val (.int pt), .val (.int (0 : Int32)), .val (.ref c0), .unset, .unset, .unset, .unset] [(.ref b25)]))
  refine own_astore X25 hx hby d_14_11__27 rfl (Ls' := #[.val (.ref g), .val (.ref aW), .val (.int pt), .val (.int (0 : Int32)), .val (.ref c0), .val (.ref b25), .unset, .unset, .unset]) rfl (pc' := 29) rfl ?_
  refine own_aload X25 hx hby d_14_11__29 rfl rfl (pc' := 31) rfl ?_
  refine own_iconst X25 hx hby d_14_11__31 (v := (0 : Int32)) rfl (pc' := 32) rfl ?_
  refine own_aload X25 hx hby d_14_11__32 rfl rfl (pc' := 34) rfl ?_
  refine own_iconst X25 hx hby d_14_11__34 (v := (0 : Int32)) rfl (pc' := 35) rfl ?_
  refine own_iloadN X25 hx hby d_14_11__35 rfl (pc' := 36) rfl ?_
  refine own_copyV X25 hx hby (dv := (.int 0)) hZ (by exact hml) hown (own_w hw 114 rfl) (own_w hw 117 rfl) (own_w hw 115 rfl) (own_w hw 116 rfl) e25 (H4.keep K25 nin_c0) V25 rfl rfl rfl (by decide) (by decide) (by decide) (Nat.le_of_ble_eq_true rfl) (Nat.le_of_ble_eq_true rfl) N0 n0_b25 (by decide) 0 (Nat.le_of_eq rfl) (by decide) d_14_11__36 (pc' := 39) rfl ?_
  intro T34 h34 L34 X34 e34 Nn34 K34 V34
  replace V34 : AV Z h34 b25 .int [(.int (0 : Int32)), (.int (0 : Int32))] := V34
  have V35_cu := V26_cu.keep K34 (ninS ne_cu_b25 nin0)
  have Y36_cu := Y27_cu.keep K34 
  have E37_rl := E28_rl.keep K34 
  have F38_modCount := F29_modCount.keep K34 (ninS ne_rl_b25 nin0)
  have F39_elementData := F30_elementData.keep K34 (ninS ne_rl_b25 nin0)
  have F40_size := F31_size.keep K34 (ninS ne_rl_b25 nin0)
  have V41_es := V32_es.keep K34 (ninS ne_es_b25 nin0)
  have Y42_es := Y33_es.keep K34 
  have E43_b25 := A25.keep K34 
  have KC34 : Keep h0 h34 [cu, rl, es] := K25.trans K34 (allS (Or.inr sz_b25) all0)
  have ZC34 : n0 ≤ h34.size := Nat.le_trans Z25 K34.1
  refine own_aload X34 hx hby d_14_11__39 rfl rfl (pc' := 41) rfl ?_
  refine own_iloadN X34 hx hby d_14_11__41 rfl (pc' := 42) rfl ?_
  refine own_iloadN X34 hx hby d_14_11__42 rfl (pc' := 43) rfl ?_
  refine own_iastore X34 hx hby hZ e34 V34 (by decide) (Nat.le_of_ble_eq_true rfl) d_14_11__43 (pc' := 44) rfl ?_
  intro T44 h44 X44 e44 W44 V44
  replace V44 : AV Z h44 b25 .int [(.int pt), (.int (0 : Int32))] := V44
  have V45_cu := V35_cu.other W44 ne_cu_b25
  have Y46_cu := Y36_cu.wr W44
  have E47_rl := E37_rl.wr W44
  have F48_modCount := F38_modCount.other W44 (Or.inl ne_rl_b25)
  have F49_elementData := F39_elementData.other W44 (Or.inl ne_rl_b25)
  have F50_size := F40_size.other W44 (Or.inl ne_rl_b25)
  have V51_es := V41_es.other W44 ne_es_b25
  have Y52_es := Y42_es.wr W44
  have E54_b25 := E43_b25.wr W44
  have Z44 : n0 ≤ h44.size := by rw [W44.size]; exact ZC34
  have N44 := Fr.snoc X44 Nn34 n0_b25
  have K44 : Keep h0 h44 [cu, rl, es] := KC34.wr W44 (Or.inr sz_b25)
  refine own_aload X44 hx hby d_14_11__44 rfl rfl (pc' := 46) rfl ?_
  refine own_iloadN X44 hx hby d_14_11__46 rfl (pc' := 47) rfl ?_
  refine own_aload X44 hx hby d_14_11__47 rfl rfl (pc' := 49) rfl ?_
  refine own_iloadN X44 hx hby d_14_11__49 rfl (pc' := 50) rfl ?_
  refine own_iconst X44 hx hby d_14_11__50 (v := (1 : Int32)) rfl (pc' := 51) rfl ?_
  refine own_iadd X44 hx hby d_14_11__51 (pc' := 52) rfl ?_
  show GoP p e below Φ (T44.setTop (mkF m 52 #[.val (.ref g), .val (.ref aW), .val (.int pt), .val (.int (0 : Int32)), .val (.ref c0), .val (.ref b25), .unset, .unset, .unset] [(.int (1 : Int32)), (.ref b25), (.int (0 : Int32)), (.ref c0)]))
  refine own_aload X44 hx hby d_14_11__52 rfl rfl (pc' := 54) rfl ?_
  refine own_alen X44 hx hby hZ e44 (n := (1 : Int32)) (H4.keep K44 nin_c0) rfl d_14_11__54 (pc' := 55) rfl ?_
  refine own_iloadN X44 hx hby d_14_11__55 rfl (pc' := 56) rfl ?_
  refine own_isub X44 hx hby d_14_11__56 (pc' := 57) rfl ?_
  show GoP p e below Φ (T44.setTop (mkF m 57 #[.val (.ref g), .val (.ref aW), .val (.int pt), .val (.int (0 : Int32)), .val (.ref c0), .val (.ref b25), .unset, .unset, .unset] [(.int (1 : Int32)), (.int (1 : Int32)), (.ref b25), (.int (0 : Int32)), (.ref c0)]))
  refine own_copyV X44 hx hby (dv := (.int 0)) hZ (by exact hml) hown (own_w hw 114 rfl) (own_w hw 117 rfl) (own_w hw 115 rfl) (own_w hw 116 rfl) e44 (H4.keep K44 nin_c0) V44 rfl rfl rfl (by decide) (by decide) (by decide) (Nat.le_of_ble_eq_true rfl) (Nat.le_of_ble_eq_true rfl) N44 n0_b25 (by decide) 0 (Nat.le_of_eq rfl) (by decide) d_14_11__57 (pc' := 60) rfl ?_
  intro T55 h55 L55 X55 e55 Nn55 K55 V55
  replace V55 : AV Z h55 b25 .int [(.int pt), (.int q)] := V55
  have V56_cu := V45_cu.keep K55 (ninS ne_cu_b25 nin0)
  have Y57_cu := Y46_cu.keep K55 
  have E58_rl := E47_rl.keep K55 
  have F59_modCount := F48_modCount.keep K55 (ninS ne_rl_b25 nin0)
  have F60_elementData := F49_elementData.keep K55 (ninS ne_rl_b25 nin0)
  have F61_size := F50_size.keep K55 (ninS ne_rl_b25 nin0)
  have V62_es := V51_es.keep K55 (ninS ne_es_b25 nin0)
  have Y63_es := Y52_es.keep K55 
  have E64_b25 := E54_b25.keep K55 
  have KC55 : Keep h0 h55 [cu, rl, es] := K44.trans K55 (allS (Or.inr sz_b25) all0)
  have ZC55 : n0 ≤ h55.size := Nat.le_trans Z44 K55.1
  refine own_aloadN X55 hx hby d_14_11__60 rfl rfl (pc' := 61) rfl ?_
  refine own_getF X55 hx hby hZ hown (host := "") (Or.inl (own_w hw 23 rfl)) Via.refl e55 (H0.keep KC55 nin_g) d_14_11__61 (pc' := 64) rfl ?_
  intro T65 X65 e65
  refine own_aloadN X65 hx hby d_14_11__64 rfl rfl (pc' := 65) rfl ?_
  refine own_callU X65 hx hby hZ (by exact hml) hown (x0 := (⟨"com/example/collectary/collectary/broker/Grid$Axis", "ordinal", "()I"⟩ : MethodName)) (y := (⟨"java/lang/Enum", "ordinal", "()I"⟩ : MethodName)) (own_w hw 52 rfl) (own_w hw 53 rfl) (own_w hw 54 rfl) (own_w hw 56 rfl) (own_w hw 55 rfl) (own_w hw 57 rfl) (own_w hw 58 rfl) (by decide) e65 1 (by decide) (by decide) (by decide) (by decide) (argsL := []) (rest := [(.ref cu)]) (lenOf pd___I rfl) rfl (Nat.le_of_eq rfl) (Exx.keep KC55) (rmO l Z a0 hw aW (0 : Int32) h55 (Fo.keep KC55 nin_aW)) d_14_11__65 (pc' := 68) rfl ?_
  intro v66 T66 L66 X66 hQ66
  obtain ⟨rfl, rfl, e66⟩ := hQ66
  rw [List.append_nil] at X66
  replace e66 : T66.heap = h55 := e66
  show GoP p e below Φ (T66.setTop (mkF m 68 #[.val (.ref g), .val (.ref aW), .val (.int pt), .val (.int (0 : Int32)), .val (.ref c0), .val (.ref b25), .unset, .unset, .unset] [(.int (0 : Int32)), (.ref cu)]))
  refine own_aload X66 hx hby d_14_11__68 rfl rfl (pc' := 70) rfl ?_
  refine own_aastore X66 hx hby hZ e66 V56_cu rfl (own_sto V56_cu Y57_cu (Ins.self E64_b25)) (by decide) (Nat.le_of_ble_eq_true rfl) d_14_11__70 (pc' := 71) rfl ?_
  intro T67 h67 X67 e67 W67 V67
  replace V67 : AV Z h67 cu (.array .int) [(.ref b25), (.ref c1)] := V67
  have Y69_cu := Y57_cu.wr W67
  have E70_rl := E58_rl.wr W67
  have F71_modCount := F59_modCount.other W67 (Or.inl ne5_rl_cu)
  have F72_elementData := F60_elementData.other W67 (Or.inl ne5_rl_cu)
  have F73_size := F61_size.other W67 (Or.inl ne5_rl_cu)
  have V74_es := V62_es.other W67 ne6_es_cu
  have Y75_es := Y63_es.wr W67
  have V76_b25 := V55.other W67 (Ne.symm ne_cu_b25)
  have E77_b25 := E64_b25.wr W67
  have Z67 : n0 ≤ h67.size := by rw [W67.size]; exact ZC55
  have N67 := Fr.snoc X67 Nn55 n0_cu
  have K67 : Keep h0 h67 [cu, rl, es] := KC55.wr W67 (Or.inl (List.mem_of_getElem? (i := 0) rfl))
  refine own_aloadN X67 hx hby d_14_11__71 rfl rfl (pc' := 72) rfl ?_
  refine own_getS X67 hx hby hZ hown (host := "") (Or.inl (own_w hw 51 rfl)) Via.refl e67 (own_stakeep SW K67 plain_ws) d_14_11__72 (pc' := 75) rfl ?_
  intro T78 X78 e78
  refine own_acmp X78 hx hby d_14_11__75 rfl rfl (same := true) (decide_eq_true (congrArg Value.ref rfl)) (by decide) (pc' := 78) (by decide) ?_
  refine own_aloadN X78 hx hby d_14_11__78 rfl rfl (pc' := 79) rfl ?_
  refine own_getF X78 hx hby hZ hown (host := "") (Or.inl (own_w hw 49 rfl)) Via.refl e78 (H1.keep K67 nin_g) d_14_11__79 (pc' := 82) rfl ?_
  intro T79 X79 e79
  refine own_iloadN X79 hx hby d_14_11__82 rfl (pc' := 83) rfl ?_
  refine own_iconst X79 hx hby d_14_11__83 (v := (1 : Int32)) rfl (pc' := 84) rfl ?_
  refine own_iadd X79 hx hby d_14_11__84 (pc' := 85) rfl ?_
  show GoP p e below Φ (T79.setTop (mkF m 85 #[.val (.ref g), .val (.ref aW), .val (.int pt), .val (.int (0 : Int32)), .val (.ref c0), .val (.ref b25), .unset, .unset, .unset] [(.int (1 : Int32)), (.ref rl)]))
  refine own_aloadN X79 hx hby d_14_11__85 rfl rfl (pc' := 86) rfl ?_
  refine own_getF X79 hx hby hZ hown (host := "") (Or.inl (own_w hw 49 rfl)) Via.refl e79 (H1.keep K67 nin_g) d_14_11__86 (pc' := 89) rfl ?_
  intro T80 X80 e80
  refine own_iloadN X80 hx hby d_14_11__89 rfl (pc' := 90) rfl ?_
  refine own_callF X80 hx hby hZ (by exact hml) hown (x0 := (⟨"java/util/List", "get", "(I)Ljava/lang/Object;"⟩ : MethodName)) (y := (⟨"java/util/ArrayList", "get", "(I)Ljava/lang/Object;"⟩ : MethodName)) (own_w hw 118 rfl) (own_w hw 119 rfl) (own_w hw 120 rfl) (own_w hw 121 rfl) (own_w hw 122 rfl) (own_w hw 123 rfl) (own_w hw 124 rfl) (own_w hw 69 rfl) (own_w hw 27 rfl) rfl (own_w hw 125 rfl) (by decide) e80 2 (by decide) (by decide) (by decide) (by decide) (argsL := [(.int (0 : Int32))]) (rest := [(.int (1 : Int32)), (.ref rl)]) (lenOf pd__I_Ljava_lang_Object_ rfl) rfl (Nat.le_of_eq rfl) E70_rl (rmG0 l Z a0 hw rl es r0 (2 : Int32) (.ref r1) .null .null .null .null .null .null .null .null h67 (by decide) E70_rl F73_size F72_elementData V74_es) d_14_11__90 (pc' := 95) rfl ?_
  intro v81 T81 L81 X81 hQ81
  obtain ⟨rfl, rfl, e81⟩ := hQ81
  rw [List.append_nil] at X81
  replace e81 : T81.heap = h67 := e81
  show GoP p e below Φ (T81.setTop (mkF m 95 #[.val (.ref g), .val (.ref aW), .val (.int pt), .val (.int (0 : Int32)), .val (.ref c0), .val (.ref b25), .unset, .unset, .unset] [(.ref r0), (.int (1 : Int32)), (.ref rl)]))
  obtain ⟨T82, X82, e82, st82⟩ := castY X81 hx hZ hown (own_w hw 20 rfl) e81 (Ins.self (H13.keep K67)) (g := (mkF m 95 #[.val (.ref g), .val (.ref aW), .val (.int pt), .val (.int (0 : Int32)), .val (.ref c0), .val (.ref b25), .unset, .unset, .unset] [(.ref r0), (.int (1 : Int32)), (.ref rl)])) rfl rfl (hb hby d_14_11__95)
  refine own_step st82 ?_
  show GoP p e below Φ (T82.setTop (mkF m 98 #[.val (.ref g), .val (.ref aW), .val (.int pt), .val (.int (0 : Int32)), .val (.ref c0), .val (.ref b25), .unset, .unset, .unset] [(.ref r0), (.int (1 : Int32)), (.ref rl)]))
  refine own_cloneI X82 hx hby hZ (by exact hml) hown (own_w hw 139 rfl) (own_w hw 140 rfl) (own_w hw 144 rfl) (own_w hw 142 rfl) (own_w hw 143 rfl) (own_w hw 145 rfl) e82 (H12.keep K67 nin_r0) rfl (H13.keep K67) (by decide) 2 (Nat.le_of_eq rfl) (by decide) 2 (Nat.le_of_ble_eq_true rfl) (by decide) (by decide) d_14_11__98 (pc' := 101) rfl ?_
  intro T83 h83 b83 X83 e83 E83 g83 V83 A83
  have ne_cu_b83 : cu ≠ b83 := Nat.ne_of_lt (g83 ▸ V67.lt)
  have ne_rl_b83 : rl ≠ b83 := Nat.ne_of_lt (g83 ▸ E70_rl.lt)
  have ne_es_b83 : es ≠ b83 := Nat.ne_of_lt (g83 ▸ V74_es.lt)
  have ne_b25_b83 : b25 ≠ b83 := Nat.ne_of_lt (g83 ▸ V76_b25.lt)
  have V84_cu := V67.ext E83
  have Y85_cu := Y69_cu.ext E83
  have E86_rl := E70_rl.ext E83
  have F87_modCount := F71_modCount.ext E83
  have F88_elementData := F72_elementData.ext E83
  have F89_size := F73_size.ext E83
  have V90_es := V74_es.ext E83
  have Y91_es := Y75_es.ext E83
  have V92_b25 := V76_b25.ext E83
  have E93_b25 := E77_b25.ext E83
  have Z83 : n0 ≤ h83.size := Nat.le_trans Z67 E83.1
  have n0_b83 : n0 ≤ b83 := g83 ▸ Z67
  have sz_b83 : h0.size ≤ b83 := g83 ▸ K67.1
  have K83 : Keep h0 h83 [cu, rl, es] := K67.ext E83
  show GoP p e below Φ (T83.setTop (mkF m 101 #[.val (.ref g), .val (.ref aW), .val (.int pt), .val (.int (0 : Int32)), .val (.ref c0), .val (.ref b25), .unset, .unset, .unset] [(.ref b83), (.int (1 : Int32)), (.ref rl)]))
  obtain ⟨T94, X94, e94, st94⟩ := castY X83 hx hZ hown (own_w hw 20 rfl) e83 (Ins.self A83) (g := (mkF m 101 #[.val (.ref g), .val (.ref aW), .val (.int pt), .val (.int (0 : Int32)), .val (.ref c0), .val (.ref b25), .unset, .unset, .unset] [(.ref b83), (.int (1 : Int32)), (.ref rl)])) rfl rfl (hb hby d_14_11__101)
  refine own_step st94 ?_
  show GoP p e below Φ (T94.setTop (mkF m 104 #[.val (.ref g), .val (.ref aW), .val (.int pt), .val (.int (0 : Int32)), .val (.ref c0), .val (.ref b25), .unset, .unset, .unset] [(.ref b83), (.int (1 : Int32)), (.ref rl)]))
  refine own_callF X94 hx hby hZ (by exact hml) hown (x0 := (⟨"java/util/List", "add", "(ILjava/lang/Object;)V"⟩ : MethodName)) (y := (⟨"java/util/ArrayList", "add", "(ILjava/lang/Object;)V"⟩ : MethodName)) (own_w hw 146 rfl) (own_w hw 147 rfl) (own_w hw 148 rfl) (own_w hw 149 rfl) (own_w hw 150 rfl) (own_w hw 151 rfl) (own_w hw 152 rfl) (own_w hw 69 rfl) (own_w hw 27 rfl) rfl (own_w hw 153 rfl) (by decide) e94 0 (by decide) (by decide) (by decide) (by decide) (argsL := [(.int (1 : Int32)), (.ref b83)]) (rest := []) (lenOf pd__ILjava_lang_Object__V rfl) rfl (Nat.le_of_eq rfl) E86_rl (rmAt21 l Z a0 hw rl es b83 r0 r1 mc n0 h83 n0_rl n0_es (Ne.symm ne13_es_rl) E86_rl F87_modCount F88_elementData F89_size V90_es Y91_es A83 (H13.keep K83) (H15.keep K83)) d_14_11__104 (pc' := 109) rfl ?_
  intro v95 T95 L95 X95 hQ95
  obtain ⟨rfl, Nq95, K95, G195, G295, G395, V95⟩ := hQ95
  have V96_cu := V84_cu.keep K95 (ninS (Ne.symm ne5_rl_cu) (ninS (Ne.symm ne6_es_cu) nin0))
  have Y97_cu := Y85_cu.keep K95
  have E98_rl := E86_rl.keep K95
  have Y99_es := Y91_es.keep K95
  have V100_b25 := V92_b25.keep K95 (ninS (Ne.symm ne_rl_b25) (ninS (Ne.symm ne_es_b25) nin0))
  have E101_b25 := E93_b25.keep K95
  have V102_b83 := V83.keep K95 (ninS (Ne.symm ne_rl_b83) (ninS (Ne.symm ne_es_b83) nin0))
  have E103_b83 := A83.keep K95
  have N95 := Fr.app N67 Nq95
  have Z95 : n0 ≤ T95.heap.size := Nat.le_trans Z83 K95.1
  have KK95 : Keep h0 T95.heap [cu, rl, es] := K83.trans K95 (allS (Or.inl (List.mem_of_getElem? (i := 1) rfl)) (allS (Or.inl (List.mem_of_getElem? (i := 2) rfl)) all0))
  show GoP p e below Φ (T95.setTop (mkF m 109 #[.val (.ref g), .val (.ref aW), .val (.int pt), .val (.int (0 : Int32)), .val (.ref c0), .val (.ref b25), .unset, .unset, .unset] []))
  refine own_goto X95 hx hby d_14_11__109 (by decide) (pc' := 202) (by decide) ?_
  exact own_ret0 X95 hx hby fin hret d_14_11__202 (by decide) (by decide) (by exact ⟨rfl, N95, KK95, b25, b83, (H0.keep KK95 nin_g), (H1.keep KK95 nin_g), V96_cu, Y97_cu, V100_b25, (H5.keep KK95 nin_c1), E98_rl, G195, G295, G395, V95, Y99_es, (H12.keep KK95 nin_r0), (H13.keep KK95), V102_b83, E103_b83, (H14.keep KK95 nin_r1), (H15.keep KK95)⟩)
theorem ef_rmCut_0_1_1_1_1 (m : MethodId) (x0 : Addr) (x1 : Addr) (x2 : Int32) : entryFrame m #[(.ref x0), (.ref x1), (.int x2)] 9 = mkF m 0 #[.val (.ref x0), .val (.ref x1), .val (.int x2), .unset, .unset, .unset, .unset, .unset, .unset] [] := by first | (simp [entryFrame, mkF, argsToLocals, Value.category]; done) | rfl
set_option maxRecDepth 65536 in
set_option maxHeartbeats 40000000 in
theorem rmCut_0_1_1_1_1 (l : Launch) (Z : State) (a0 : Array Value) (hw : ∀ d ∈ tables_1, d.before a0 Z = true) (g aW aC cu c0 c1 rl es r0 r1 : Addr) (pt q u0 mc : Int32) (n0 : Nat) (h0 : Heap) (n0_cu : n0 ≤ cu) (n0_rl : n0 ≤ rl) (n0_es : n0 ≤ es) (Z0 : n0 ≤ h0.size) (ox : aW < n0) (hlo : ¬ (pt - (1 : Int32)) < q)  (Eg : Exa Z h0 g "com/example/collectary/collectary/broker/Grid") (Exx : Exa Z h0 aW "com/example/collectary/collectary/broker/Grid$Axis") (Fo : Fld Z h0 aW "java/lang/Enum" "ordinal" "I" (.int (0 : Int32))) (SW : Sta Z h0 "com/example/collectary/collectary/broker/Grid$Axis" "WORD" "Lcom/example/collectary/collectary/broker/Grid$Axis;" (.ref aW)) (H0 : Fld Z h0 g "com/example/collectary/collectary/broker/Grid" "cuts" "[[I" (.ref cu)) (H1 : Fld Z h0 g "com/example/collectary/collectary/broker/Grid" "rows" "Ljava/util/List;" (.ref rl)) (H2 : AV Z h0 cu (.array .int) [.ref c0, .ref c1]) (H3 : CM Z h0 cu "[I") (H4 : AV Z h0 c0 .int [(.int q)]) (H5 : AV Z h0 c1 .int [(.int u0)]) (H6 : Exa Z h0 rl "java/util/ArrayList") (H7 : Fld Z h0 rl "java/util/AbstractList" "modCount" "I" (.int mc)) (H8 : Fld Z h0 rl "java/util/ArrayList" "elementData" "[Ljava/lang/Object;" (.ref es)) (H9 : Fld Z h0 rl "java/util/ArrayList" "size" "I" (.int (2 : Int32))) (H10 : AV Z h0 es (.object "java/lang/Object") [(.ref r0), (.ref r1), .null, .null, .null, .null, .null, .null, .null, .null]) (H11 : CM Z h0 es "java/lang/Object") (H12 : AV Z h0 r0 .int [(.int (0 : Int32)), (.int (0 : Int32))]) (H13 : Exa Z h0 r0 "[I") (H14 : AV Z h0 r1 .int [(.int (0 : Int32)), (.int (0 : Int32))]) (H15 : Exa Z h0 r1 "[I") : Con l Z (⟨"com/example/collectary/collectary/broker/Grid", "addCut", "(Lcom/example/collectary/collectary/broker/Grid$Axis;I)V"⟩ : MethodName) prog_14_method_11_code 9 none [] ({ frames := 3, cells := 2, slots := 4, locals := 90 } : Room) #[(.ref g), (.ref aW), (.int pt)] h0 (fun v h L => v = none ∧ Fr n0 L ∧ Keep h0 h [cu, rl, es] ∧ ∃ cn rn : Addr, Fld Z h g "com/example/collectary/collectary/broker/Grid" "cuts" "[[I" (.ref cu) ∧ Fld Z h g "com/example/collectary/collectary/broker/Grid" "rows" "Ljava/util/List;" (.ref rl) ∧ AV Z h cu (.array .int) [.ref cn, .ref c1] ∧ CM Z h cu "[I" ∧ AV Z h cn .int [(.int q), (.int pt)] ∧ AV Z h c1 .int [(.int u0)] ∧ Exa Z h rl "java/util/ArrayList" ∧ Fld Z h rl "java/util/AbstractList" "modCount" "I" (.int (mc + (1 : Int32))) ∧ Fld Z h rl "java/util/ArrayList" "elementData" "[Ljava/lang/Object;" (.ref es) ∧ Fld Z h rl "java/util/ArrayList" "size" "I" (.int (3 : Int32)) ∧ AV Z h es (.object "java/lang/Object") [(.ref r0), (.ref r1), (.ref rn), .null, .null, .null, .null, .null, .null, .null] ∧ CM Z h es "java/lang/Object" ∧ AV Z h r0 .int [(.int (0 : Int32)), (.int (0 : Int32))] ∧ Exa Z h r0 "[I" ∧ AV Z h r1 .int [(.int (0 : Int32)), (.int (0 : Int32))] ∧ Exa Z h r1 "[I" ∧ AV Z h rn .int [(.int (0 : Int32)), (.int (0 : Int32))] ∧ Exa Z h rn "[I") := by
  refine Con.of (plainFor_of_name pn_com_example_collectary_collectary_broker_Grid) ?_
  intro p e s m below meth c T X hx hby hml hown hnm hret eT hZ hsh Φ fin
  replace hown : s.vm.findClass "com/example/collectary/collectary/broker/Grid" = some m.cls := hown
  replace hml : 9 = c.maxLocals := hml.symm
  refine own_step (fun tq kq => castTop (ef_rmCut_0_1_1_1_1 m g aW pt) kq) ?_
  have N0 := Fr.nil n0
  have K0 : Keep h0 h0 [cu, rl, es] := Keep.refl h0 [cu, rl, es]
  have ne1_g_cu : g ≠ cu := own_ne_ea Eg (own_w hw 8 rfl) H2
  have ne2_aW_cu : aW ≠ cu := Nat.ne_of_lt (Nat.lt_of_lt_of_le ox n0_cu)
  have ne3_c0_cu : c0 ≠ cu := own_ne_av2 H4 H2 (by decide)
  have ne4_c1_cu : c1 ≠ cu := own_ne_av2 H5 H2 (by decide)
  have ne5_rl_cu : rl ≠ cu := own_ne_ea H6 (own_w hw 26 rfl) H2
  have ne6_es_cu : es ≠ cu := own_ne_av2 H10 H2 (by decide)
  have ne7_r0_cu : r0 ≠ cu := own_ne_av2 H12 H2 (by decide)
  have ne8_r1_cu : r1 ≠ cu := own_ne_av2 H14 H2 (by decide)
  have ne9_g_rl : g ≠ rl := ne_exa Eg H6 (by decide)
  have ne10_aW_rl : aW ≠ rl := Nat.ne_of_lt (Nat.lt_of_lt_of_le ox n0_rl)
  have ne11_c0_rl : c0 ≠ rl := (own_ne_ea H6 (own_w hw 26 rfl) H4).symm
  have ne12_c1_rl : c1 ≠ rl := (own_ne_ea H6 (own_w hw 26 rfl) H5).symm
  have ne13_es_rl : es ≠ rl := (own_ne_ea H6 (own_w hw 26 rfl) H10).symm
  have ne14_r0_rl : r0 ≠ rl := (own_ne_ea H6 (own_w hw 26 rfl) H12).symm
  have ne15_r1_rl : r1 ≠ rl := (own_ne_ea H6 (own_w hw 26 rfl) H14).symm
  have ne16_g_es : g ≠ es := own_ne_ea Eg (own_w hw 8 rfl) H10
  have ne17_aW_es : aW ≠ es := Nat.ne_of_lt (Nat.lt_of_lt_of_le ox n0_es)
  have ne18_c0_es : c0 ≠ es := own_ne_av2 H4 H10 (by decide)
  have ne19_c1_es : c1 ≠ es := own_ne_av2 H5 H10 (by decide)
  have ne20_r0_es : r0 ≠ es := own_ne_av2 H12 H10 (by decide)
  have ne21_r1_es : r1 ≠ es := own_ne_av2 H14 H10 (by decide)
  have nin_g : g ∉ [cu, rl, es] := (ninS ne1_g_cu (ninS ne9_g_rl (ninS ne16_g_es nin0)))
  have lt0_g := Eg.lt
  have nin_aW : aW ∉ [cu, rl, es] := (ninS ne2_aW_cu (ninS ne10_aW_rl (ninS ne17_aW_es nin0)))
  have lt0_aW := Exx.lt
  have nin_c0 : c0 ∉ [cu, rl, es] := (ninS ne3_c0_cu (ninS ne11_c0_rl (ninS ne18_c0_es nin0)))
  have lt0_c0 := H4.lt
  have nin_c1 : c1 ∉ [cu, rl, es] := (ninS ne4_c1_cu (ninS ne12_c1_rl (ninS ne19_c1_es nin0)))
  have lt0_c1 := H5.lt
  have nin_r0 : r0 ∉ [cu, rl, es] := (ninS ne7_r0_cu (ninS ne14_r0_rl (ninS ne20_r0_es nin0)))
  have lt0_r0 := H12.lt
  have nin_r1 : r1 ∉ [cu, rl, es] := (ninS ne8_r1_cu (ninS ne15_r1_rl (ninS ne21_r1_es nin0)))
  have lt0_r1 := H14.lt
  have plain_ws : ∀ x ∈ [cu, rl, es], ∀ c : Cell, h0[x]? = some c → c.vm.isStatics = false := (allS H2.plain (allS (own_plainE H6) (allS H10.plain all0)))
  refine own_aloadN X hx hby d_14_11__0 rfl rfl (pc' := 1) rfl ?_
  refine own_aloadN X hx hby d_14_11__1 rfl rfl (pc' := 2) rfl ?_
  refine own_iloadN X hx hby d_14_11__2 rfl (pc' := 3) rfl ?_
  refine own_iconst X hx hby d_14_11__3 (v := (1 : Int32)) rfl (pc' := 4) rfl ?_
  refine own_isub X hx hby d_14_11__4 (pc' := 5) rfl ?_
  refine own_callV X hx hby hZ (by exact hml) hown (own_w hw 102 rfl) (own_w hw 103 rfl) (own_w hw 105 rfl) (own_w hw 104 rfl) (own_w hw 9 rfl) (own_w hw 106 rfl) (by decide) eT 0 (by decide) (by decide) (by decide) (by decide) (argsL := [(.ref aW), (.int (pt - (1 : Int32)))]) (rest := []) (lenOf pd__Lcom_example_collectary_collectary_broker_Grid_Axis_I_I rfl) rfl (Nat.le_of_eq rfl) Eg (rmIv1_0 l Z a0 hw g aW cu c0 c1 q (pt - (1 : Int32)) h0 Exx Fo H0 H2 H4) d_14_11__5 (pc' := 8) rfl ?_
  intro v22 T22 L22 X22 hQ22
  obtain ⟨rfl, rfl, e22⟩ := hQ22
  rw [List.append_nil] at X22
  replace e22 : T22.heap = h0 := e22
  show GoP p e below Φ (T22.setTop (mkF m 8 #[.val (.ref g), .val (.ref aW), .val (.int pt), .unset, .unset, .unset, .unset, .unset, .unset] [(.int (if (pt - (1 : Int32)) < q then (0 : Int32) else (1 : Int32)))]))
  rw [if_neg hlo]
  refine own_istoreN X22 hx hby d_14_11__8  (Ls' := #[.val (.ref g), .val (.ref aW), .val (.int pt), .val (.int (1 : Int32)), .unset, .unset, .unset, .unset, .unset]) rfl (pc' := 9) rfl ?_
  refine own_aloadN X22 hx hby d_14_11__9 rfl rfl (pc' := 10) rfl ?_
  refine own_getF X22 hx hby hZ hown (host := "") (Or.inl (own_w hw 23 rfl)) Via.refl e22 H0 d_14_11__10 (pc' := 13) rfl ?_
  intro T23 X23 e23
  refine own_aloadN X23 hx hby d_14_11__13 rfl rfl (pc' := 14) rfl ?_
  refine own_callU X23 hx hby hZ (by exact hml) hown (x0 := (⟨"com/example/collectary/collectary/broker/Grid$Axis", "ordinal", "()I"⟩ : MethodName)) (y := (⟨"java/lang/Enum", "ordinal", "()I"⟩ : MethodName)) (own_w hw 52 rfl) (own_w hw 53 rfl) (own_w hw 54 rfl) (own_w hw 56 rfl) (own_w hw 55 rfl) (own_w hw 57 rfl) (own_w hw 58 rfl) (by decide) e23 1 (by decide) (by decide) (by decide) (by decide) (argsL := []) (rest := [(.ref cu)]) (lenOf pd___I rfl) rfl (Nat.le_of_eq rfl) Exx (rmO l Z a0 hw aW (0 : Int32) h0 Fo) d_14_11__14 (pc' := 17) rfl ?_
  intro v24 T24 L24 X24 hQ24
  obtain ⟨rfl, rfl, e24⟩ := hQ24
  rw [List.append_nil] at X24
  replace e24 : T24.heap = h0 := e24
  show GoP p e below Φ (T24.setTop (mkF m 17 #[.val (.ref g), .val (.ref aW), .val (.int pt), .val (.int (1 : Int32)), .unset, .unset, .unset, .unset, .unset] [(.int (0 : Int32)), (.ref cu)]))
  refine own_aaload X24 hx hby hZ e24 H2 rfl (by decide) (v := (.ref c0)) rfl d_14_11__17 (pc' := 18) rfl ?_
  refine own_astore X24 hx hby d_14_11__18 rfl (Ls' := #[.val (.ref g), .val (.ref aW), .val (.int pt), .val (.int (1 : Int32)), .val (.ref c0), .unset, .unset, .unset, .unset]) rfl (pc' := 20) rfl ?_
  refine own_aload X24 hx hby d_14_11__20 rfl rfl (pc' := 22) rfl ?_
  refine own_alen X24 hx hby hZ e24 (n := (1 : Int32)) H4 rfl d_14_11__22 (pc' := 23) rfl ?_
  refine own_iconst X24 hx hby d_14_11__23 (v := (1 : Int32)) rfl (pc' := 24) rfl ?_
  refine own_iadd X24 hx hby d_14_11__24 (pc' := 25) rfl ?_
  show GoP p e below Φ (T24.setTop (mkF m 25 #[.val (.ref g), .val (.ref aW), .val (.int pt), .val (.int (1 : Int32)), .val (.ref c0), .unset, .unset, .unset, .unset] [(.int (2 : Int32))]))
  refine own_newI X24 hx hby hZ (own_w hw 17 rfl) e24 (by decide) 2 (by decide) (by decide) (by decide) (by decide) d_14_11__25 (pc' := 27) rfl ?_
  intro T25 h25 b25 X25 e25 E25 g25 V25 I25 A25
  have ne_cu_b25 : cu ≠ b25 := Nat.ne_of_lt (g25 ▸ H2.lt)
  have ne_rl_b25 : rl ≠ b25 := Nat.ne_of_lt (g25 ▸ H6.lt)
  have ne_es_b25 : es ≠ b25 := Nat.ne_of_lt (g25 ▸ H10.lt)
  have V26_cu := H2.ext E25
  have Y27_cu := H3.ext E25
  have E28_rl := H6.ext E25
  have F29_modCount := H7.ext E25
  have F30_elementData := H8.ext E25
  have F31_size := H9.ext E25
  have V32_es := H10.ext E25
  have Y33_es := H11.ext E25
  have Z25 : n0 ≤ h25.size := Nat.le_trans Z0 E25.1
  have n0_b25 : n0 ≤ b25 := g25 ▸ Z0
  have sz_b25 : h0.size ≤ b25 := g25 ▸ K0.1
  have K25 : Keep h0 h25 [cu, rl, es] := K0.ext E25
  replace V25 : AV Z h25 b25 .int [(.int (0 : Int32)), (.int (0 : Int32))] := V25
  show GoP p e below Φ (T25.setTop (mkF m 27 #[.val (.ref g), .val (.ref aW), .val (.int pt), .val (.int (1 : Int32)), .val (.ref c0), .unset, .unset, .unset, .unset] [(.ref b25)]))
  refine own_astore X25 hx hby d_14_11__27 rfl (Ls' := #[.val (.ref g), .val (.ref aW), .val (.int pt), .val (.int (1 : Int32)), .val (.ref c0), .val (.ref b25), .unset, .unset, .unset]) rfl (pc' := 29) rfl ?_
  refine own_aload X25 hx hby d_14_11__29 rfl rfl (pc' := 31) rfl ?_
  refine own_iconst X25 hx hby d_14_11__31 (v := (0 : Int32)) rfl (pc' := 32) rfl ?_
  refine own_aload X25 hx hby d_14_11__32 rfl rfl (pc' := 34) rfl ?_
  refine own_iconst X25 hx hby d_14_11__34 (v := (0 : Int32)) rfl (pc' := 35) rfl ?_
  refine own_iloadN X25 hx hby d_14_11__35 rfl (pc' := 36) rfl ?_
  refine own_copyV X25 hx hby (dv := (.int 0)) hZ (by exact hml) hown (own_w hw 114 rfl) (own_w hw 117 rfl) (own_w hw 115 rfl) (own_w hw 116 rfl) e25 (H4.keep K25 nin_c0) V25 rfl rfl rfl (by decide) (by decide) (by decide) (Nat.le_of_ble_eq_true rfl) (Nat.le_of_ble_eq_true rfl) N0 n0_b25 (by decide) 0 (Nat.le_of_eq rfl) (by decide) d_14_11__36 (pc' := 39) rfl ?_
  intro T34 h34 L34 X34 e34 Nn34 K34 V34
  replace V34 : AV Z h34 b25 .int [(.int q), (.int (0 : Int32))] := V34
  have V35_cu := V26_cu.keep K34 (ninS ne_cu_b25 nin0)
  have Y36_cu := Y27_cu.keep K34 
  have E37_rl := E28_rl.keep K34 
  have F38_modCount := F29_modCount.keep K34 (ninS ne_rl_b25 nin0)
  have F39_elementData := F30_elementData.keep K34 (ninS ne_rl_b25 nin0)
  have F40_size := F31_size.keep K34 (ninS ne_rl_b25 nin0)
  have V41_es := V32_es.keep K34 (ninS ne_es_b25 nin0)
  have Y42_es := Y33_es.keep K34 
  have E43_b25 := A25.keep K34 
  have KC34 : Keep h0 h34 [cu, rl, es] := K25.trans K34 (allS (Or.inr sz_b25) all0)
  have ZC34 : n0 ≤ h34.size := Nat.le_trans Z25 K34.1
  refine own_aload X34 hx hby d_14_11__39 rfl rfl (pc' := 41) rfl ?_
  refine own_iloadN X34 hx hby d_14_11__41 rfl (pc' := 42) rfl ?_
  refine own_iloadN X34 hx hby d_14_11__42 rfl (pc' := 43) rfl ?_
  refine own_iastore X34 hx hby hZ e34 V34 (by decide) (Nat.le_of_ble_eq_true rfl) d_14_11__43 (pc' := 44) rfl ?_
  intro T44 h44 X44 e44 W44 V44
  replace V44 : AV Z h44 b25 .int [(.int q), (.int pt)] := V44
  have V45_cu := V35_cu.other W44 ne_cu_b25
  have Y46_cu := Y36_cu.wr W44
  have E47_rl := E37_rl.wr W44
  have F48_modCount := F38_modCount.other W44 (Or.inl ne_rl_b25)
  have F49_elementData := F39_elementData.other W44 (Or.inl ne_rl_b25)
  have F50_size := F40_size.other W44 (Or.inl ne_rl_b25)
  have V51_es := V41_es.other W44 ne_es_b25
  have Y52_es := Y42_es.wr W44
  have E54_b25 := E43_b25.wr W44
  have Z44 : n0 ≤ h44.size := by rw [W44.size]; exact ZC34
  have N44 := Fr.snoc X44 Nn34 n0_b25
  have K44 : Keep h0 h44 [cu, rl, es] := KC34.wr W44 (Or.inr sz_b25)
  refine own_aload X44 hx hby d_14_11__44 rfl rfl (pc' := 46) rfl ?_
  refine own_iloadN X44 hx hby d_14_11__46 rfl (pc' := 47) rfl ?_
  refine own_aload X44 hx hby d_14_11__47 rfl rfl (pc' := 49) rfl ?_
  refine own_iloadN X44 hx hby d_14_11__49 rfl (pc' := 50) rfl ?_
  refine own_iconst X44 hx hby d_14_11__50 (v := (1 : Int32)) rfl (pc' := 51) rfl ?_
  refine own_iadd X44 hx hby d_14_11__51 (pc' := 52) rfl ?_
  show GoP p e below Φ (T44.setTop (mkF m 52 #[.val (.ref g), .val (.ref aW), .val (.int pt), .val (.int (1 : Int32)), .val (.ref c0), .val (.ref b25), .unset, .unset, .unset] [(.int (2 : Int32)), (.ref b25), (.int (1 : Int32)), (.ref c0)]))
  refine own_aload X44 hx hby d_14_11__52 rfl rfl (pc' := 54) rfl ?_
  refine own_alen X44 hx hby hZ e44 (n := (1 : Int32)) (H4.keep K44 nin_c0) rfl d_14_11__54 (pc' := 55) rfl ?_
  refine own_iloadN X44 hx hby d_14_11__55 rfl (pc' := 56) rfl ?_
  refine own_isub X44 hx hby d_14_11__56 (pc' := 57) rfl ?_
  show GoP p e below Φ (T44.setTop (mkF m 57 #[.val (.ref g), .val (.ref aW), .val (.int pt), .val (.int (1 : Int32)), .val (.ref c0), .val (.ref b25), .unset, .unset, .unset] [(.int (0 : Int32)), (.int (2 : Int32)), (.ref b25), (.int (1 : Int32)), (.ref c0)]))
  refine own_copyV X44 hx hby (dv := (.int 0)) hZ (by exact hml) hown (own_w hw 114 rfl) (own_w hw 117 rfl) (own_w hw 115 rfl) (own_w hw 116 rfl) e44 (H4.keep K44 nin_c0) V44 rfl rfl rfl (by decide) (by decide) (by decide) (Nat.le_of_ble_eq_true rfl) (Nat.le_of_ble_eq_true rfl) N44 n0_b25 (by decide) 0 (Nat.le_of_eq rfl) (by decide) d_14_11__57 (pc' := 60) rfl ?_
  intro T55 h55 L55 X55 e55 Nn55 K55 V55
  replace V55 : AV Z h55 b25 .int [(.int q), (.int pt)] := V55
  have V56_cu := V45_cu.keep K55 (ninS ne_cu_b25 nin0)
  have Y57_cu := Y46_cu.keep K55 
  have E58_rl := E47_rl.keep K55 
  have F59_modCount := F48_modCount.keep K55 (ninS ne_rl_b25 nin0)
  have F60_elementData := F49_elementData.keep K55 (ninS ne_rl_b25 nin0)
  have F61_size := F50_size.keep K55 (ninS ne_rl_b25 nin0)
  have V62_es := V51_es.keep K55 (ninS ne_es_b25 nin0)
  have Y63_es := Y52_es.keep K55 
  have E64_b25 := E54_b25.keep K55 
  have KC55 : Keep h0 h55 [cu, rl, es] := K44.trans K55 (allS (Or.inr sz_b25) all0)
  have ZC55 : n0 ≤ h55.size := Nat.le_trans Z44 K55.1
  refine own_aloadN X55 hx hby d_14_11__60 rfl rfl (pc' := 61) rfl ?_
  refine own_getF X55 hx hby hZ hown (host := "") (Or.inl (own_w hw 23 rfl)) Via.refl e55 (H0.keep KC55 nin_g) d_14_11__61 (pc' := 64) rfl ?_
  intro T65 X65 e65
  refine own_aloadN X65 hx hby d_14_11__64 rfl rfl (pc' := 65) rfl ?_
  refine own_callU X65 hx hby hZ (by exact hml) hown (x0 := (⟨"com/example/collectary/collectary/broker/Grid$Axis", "ordinal", "()I"⟩ : MethodName)) (y := (⟨"java/lang/Enum", "ordinal", "()I"⟩ : MethodName)) (own_w hw 52 rfl) (own_w hw 53 rfl) (own_w hw 54 rfl) (own_w hw 56 rfl) (own_w hw 55 rfl) (own_w hw 57 rfl) (own_w hw 58 rfl) (by decide) e65 1 (by decide) (by decide) (by decide) (by decide) (argsL := []) (rest := [(.ref cu)]) (lenOf pd___I rfl) rfl (Nat.le_of_eq rfl) (Exx.keep KC55) (rmO l Z a0 hw aW (0 : Int32) h55 (Fo.keep KC55 nin_aW)) d_14_11__65 (pc' := 68) rfl ?_
  intro v66 T66 L66 X66 hQ66
  obtain ⟨rfl, rfl, e66⟩ := hQ66
  rw [List.append_nil] at X66
  replace e66 : T66.heap = h55 := e66
  show GoP p e below Φ (T66.setTop (mkF m 68 #[.val (.ref g), .val (.ref aW), .val (.int pt), .val (.int (1 : Int32)), .val (.ref c0), .val (.ref b25), .unset, .unset, .unset] [(.int (0 : Int32)), (.ref cu)]))
  refine own_aload X66 hx hby d_14_11__68 rfl rfl (pc' := 70) rfl ?_
  refine own_aastore X66 hx hby hZ e66 V56_cu rfl (own_sto V56_cu Y57_cu (Ins.self E64_b25)) (by decide) (Nat.le_of_ble_eq_true rfl) d_14_11__70 (pc' := 71) rfl ?_
  intro T67 h67 X67 e67 W67 V67
  replace V67 : AV Z h67 cu (.array .int) [(.ref b25), (.ref c1)] := V67
  have Y69_cu := Y57_cu.wr W67
  have E70_rl := E58_rl.wr W67
  have F71_modCount := F59_modCount.other W67 (Or.inl ne5_rl_cu)
  have F72_elementData := F60_elementData.other W67 (Or.inl ne5_rl_cu)
  have F73_size := F61_size.other W67 (Or.inl ne5_rl_cu)
  have V74_es := V62_es.other W67 ne6_es_cu
  have Y75_es := Y63_es.wr W67
  have V76_b25 := V55.other W67 (Ne.symm ne_cu_b25)
  have E77_b25 := E64_b25.wr W67
  have Z67 : n0 ≤ h67.size := by rw [W67.size]; exact ZC55
  have N67 := Fr.snoc X67 Nn55 n0_cu
  have K67 : Keep h0 h67 [cu, rl, es] := KC55.wr W67 (Or.inl (List.mem_of_getElem? (i := 0) rfl))
  refine own_aloadN X67 hx hby d_14_11__71 rfl rfl (pc' := 72) rfl ?_
  refine own_getS X67 hx hby hZ hown (host := "") (Or.inl (own_w hw 51 rfl)) Via.refl e67 (own_stakeep SW K67 plain_ws) d_14_11__72 (pc' := 75) rfl ?_
  intro T78 X78 e78
  refine own_acmp X78 hx hby d_14_11__75 rfl rfl (same := true) (decide_eq_true (congrArg Value.ref rfl)) (by decide) (pc' := 78) (by decide) ?_
  refine own_aloadN X78 hx hby d_14_11__78 rfl rfl (pc' := 79) rfl ?_
  refine own_getF X78 hx hby hZ hown (host := "") (Or.inl (own_w hw 49 rfl)) Via.refl e78 (H1.keep K67 nin_g) d_14_11__79 (pc' := 82) rfl ?_
  intro T79 X79 e79
  refine own_iloadN X79 hx hby d_14_11__82 rfl (pc' := 83) rfl ?_
  refine own_iconst X79 hx hby d_14_11__83 (v := (1 : Int32)) rfl (pc' := 84) rfl ?_
  refine own_iadd X79 hx hby d_14_11__84 (pc' := 85) rfl ?_
  show GoP p e below Φ (T79.setTop (mkF m 85 #[.val (.ref g), .val (.ref aW), .val (.int pt), .val (.int (1 : Int32)), .val (.ref c0), .val (.ref b25), .unset, .unset, .unset] [(.int (2 : Int32)), (.ref rl)]))
  refine own_aloadN X79 hx hby d_14_11__85 rfl rfl (pc' := 86) rfl ?_
  refine own_getF X79 hx hby hZ hown (host := "") (Or.inl (own_w hw 49 rfl)) Via.refl e79 (H1.keep K67 nin_g) d_14_11__86 (pc' := 89) rfl ?_
  intro T80 X80 e80
  refine own_iloadN X80 hx hby d_14_11__89 rfl (pc' := 90) rfl ?_
  refine own_callF X80 hx hby hZ (by exact hml) hown (x0 := (⟨"java/util/List", "get", "(I)Ljava/lang/Object;"⟩ : MethodName)) (y := (⟨"java/util/ArrayList", "get", "(I)Ljava/lang/Object;"⟩ : MethodName)) (own_w hw 118 rfl) (own_w hw 119 rfl) (own_w hw 120 rfl) (own_w hw 121 rfl) (own_w hw 122 rfl) (own_w hw 123 rfl) (own_w hw 124 rfl) (own_w hw 69 rfl) (own_w hw 27 rfl) rfl (own_w hw 125 rfl) (by decide) e80 2 (by decide) (by decide) (by decide) (by decide) (argsL := [(.int (1 : Int32))]) (rest := [(.int (2 : Int32)), (.ref rl)]) (lenOf pd__I_Ljava_lang_Object_ rfl) rfl (Nat.le_of_eq rfl) E70_rl (rmG1 l Z a0 hw rl es r1 (2 : Int32) (.ref r0) .null .null .null .null .null .null .null .null h67 (by decide) E70_rl F73_size F72_elementData V74_es) d_14_11__90 (pc' := 95) rfl ?_
  intro v81 T81 L81 X81 hQ81
  obtain ⟨rfl, rfl, e81⟩ := hQ81
  rw [List.append_nil] at X81
  replace e81 : T81.heap = h67 := e81
  show GoP p e below Φ (T81.setTop (mkF m 95 #[.val (.ref g), .val (.ref aW), .val (.int pt), .val (.int (1 : Int32)), .val (.ref c0), .val (.ref b25), .unset, .unset, .unset] [(.ref r1), (.int (2 : Int32)), (.ref rl)]))
  obtain ⟨T82, X82, e82, st82⟩ := castY X81 hx hZ hown (own_w hw 20 rfl) e81 (Ins.self (H15.keep K67)) (g := (mkF m 95 #[.val (.ref g), .val (.ref aW), .val (.int pt), .val (.int (1 : Int32)), .val (.ref c0), .val (.ref b25), .unset, .unset, .unset] [(.ref r1), (.int (2 : Int32)), (.ref rl)])) rfl rfl (hb hby d_14_11__95)
  refine own_step st82 ?_
  show GoP p e below Φ (T82.setTop (mkF m 98 #[.val (.ref g), .val (.ref aW), .val (.int pt), .val (.int (1 : Int32)), .val (.ref c0), .val (.ref b25), .unset, .unset, .unset] [(.ref r1), (.int (2 : Int32)), (.ref rl)]))
  refine own_cloneI X82 hx hby hZ (by exact hml) hown (own_w hw 139 rfl) (own_w hw 140 rfl) (own_w hw 144 rfl) (own_w hw 142 rfl) (own_w hw 143 rfl) (own_w hw 145 rfl) e82 (H14.keep K67 nin_r1) rfl (H15.keep K67) (by decide) 2 (Nat.le_of_eq rfl) (by decide) 2 (Nat.le_of_ble_eq_true rfl) (by decide) (by decide) d_14_11__98 (pc' := 101) rfl ?_
  intro T83 h83 b83 X83 e83 E83 g83 V83 A83
  have ne_cu_b83 : cu ≠ b83 := Nat.ne_of_lt (g83 ▸ V67.lt)
  have ne_rl_b83 : rl ≠ b83 := Nat.ne_of_lt (g83 ▸ E70_rl.lt)
  have ne_es_b83 : es ≠ b83 := Nat.ne_of_lt (g83 ▸ V74_es.lt)
  have ne_b25_b83 : b25 ≠ b83 := Nat.ne_of_lt (g83 ▸ V76_b25.lt)
  have V84_cu := V67.ext E83
  have Y85_cu := Y69_cu.ext E83
  have E86_rl := E70_rl.ext E83
  have F87_modCount := F71_modCount.ext E83
  have F88_elementData := F72_elementData.ext E83
  have F89_size := F73_size.ext E83
  have V90_es := V74_es.ext E83
  have Y91_es := Y75_es.ext E83
  have V92_b25 := V76_b25.ext E83
  have E93_b25 := E77_b25.ext E83
  have Z83 : n0 ≤ h83.size := Nat.le_trans Z67 E83.1
  have n0_b83 : n0 ≤ b83 := g83 ▸ Z67
  have sz_b83 : h0.size ≤ b83 := g83 ▸ K67.1
  have K83 : Keep h0 h83 [cu, rl, es] := K67.ext E83
  show GoP p e below Φ (T83.setTop (mkF m 101 #[.val (.ref g), .val (.ref aW), .val (.int pt), .val (.int (1 : Int32)), .val (.ref c0), .val (.ref b25), .unset, .unset, .unset] [(.ref b83), (.int (2 : Int32)), (.ref rl)]))
  obtain ⟨T94, X94, e94, st94⟩ := castY X83 hx hZ hown (own_w hw 20 rfl) e83 (Ins.self A83) (g := (mkF m 101 #[.val (.ref g), .val (.ref aW), .val (.int pt), .val (.int (1 : Int32)), .val (.ref c0), .val (.ref b25), .unset, .unset, .unset] [(.ref b83), (.int (2 : Int32)), (.ref rl)])) rfl rfl (hb hby d_14_11__101)
  refine own_step st94 ?_
  show GoP p e below Φ (T94.setTop (mkF m 104 #[.val (.ref g), .val (.ref aW), .val (.int pt), .val (.int (1 : Int32)), .val (.ref c0), .val (.ref b25), .unset, .unset, .unset] [(.ref b83), (.int (2 : Int32)), (.ref rl)]))
  refine own_callF X94 hx hby hZ (by exact hml) hown (x0 := (⟨"java/util/List", "add", "(ILjava/lang/Object;)V"⟩ : MethodName)) (y := (⟨"java/util/ArrayList", "add", "(ILjava/lang/Object;)V"⟩ : MethodName)) (own_w hw 146 rfl) (own_w hw 147 rfl) (own_w hw 148 rfl) (own_w hw 149 rfl) (own_w hw 150 rfl) (own_w hw 151 rfl) (own_w hw 152 rfl) (own_w hw 69 rfl) (own_w hw 27 rfl) rfl (own_w hw 153 rfl) (by decide) e94 0 (by decide) (by decide) (by decide) (by decide) (argsL := [(.int (2 : Int32)), (.ref b83)]) (rest := []) (lenOf pd__ILjava_lang_Object__V rfl) rfl (Nat.le_of_eq rfl) E86_rl (rmAt22 l Z a0 hw rl es b83 r0 r1 mc n0 h83 n0_rl n0_es (Ne.symm ne13_es_rl) E86_rl F87_modCount F88_elementData F89_size V90_es Y91_es A83 (H13.keep K83) (H15.keep K83)) d_14_11__104 (pc' := 109) rfl ?_
  intro v95 T95 L95 X95 hQ95
  obtain ⟨rfl, Nq95, K95, G195, G295, G395, V95⟩ := hQ95
  have V96_cu := V84_cu.keep K95 (ninS (Ne.symm ne5_rl_cu) (ninS (Ne.symm ne6_es_cu) nin0))
  have Y97_cu := Y85_cu.keep K95
  have E98_rl := E86_rl.keep K95
  have Y99_es := Y91_es.keep K95
  have V100_b25 := V92_b25.keep K95 (ninS (Ne.symm ne_rl_b25) (ninS (Ne.symm ne_es_b25) nin0))
  have E101_b25 := E93_b25.keep K95
  have V102_b83 := V83.keep K95 (ninS (Ne.symm ne_rl_b83) (ninS (Ne.symm ne_es_b83) nin0))
  have E103_b83 := A83.keep K95
  have N95 := Fr.app N67 Nq95
  have Z95 : n0 ≤ T95.heap.size := Nat.le_trans Z83 K95.1
  have KK95 : Keep h0 T95.heap [cu, rl, es] := K83.trans K95 (allS (Or.inl (List.mem_of_getElem? (i := 1) rfl)) (allS (Or.inl (List.mem_of_getElem? (i := 2) rfl)) all0))
  show GoP p e below Φ (T95.setTop (mkF m 109 #[.val (.ref g), .val (.ref aW), .val (.int pt), .val (.int (1 : Int32)), .val (.ref c0), .val (.ref b25), .unset, .unset, .unset] []))
  refine own_goto X95 hx hby d_14_11__109 (by decide) (pc' := 202) (by decide) ?_
  exact own_ret0 X95 hx hby fin hret d_14_11__202 (by decide) (by decide) (by exact ⟨rfl, N95, KK95, b25, b83, (H0.keep KK95 nin_g), (H1.keep KK95 nin_g), V96_cu, Y97_cu, V100_b25, (H5.keep KK95 nin_c1), E98_rl, G195, G295, G395, V95, Y99_es, (H12.keep KK95 nin_r0), (H13.keep KK95), (H14.keep KK95 nin_r1), (H15.keep KK95), V102_b83, E103_b83⟩)
theorem ef_rmCut_1_0_0_0_0 (m : MethodId) (x0 : Addr) (x1 : Addr) (x2 : Int32) : entryFrame m #[(.ref x0), (.ref x1), (.int x2)] 9 = mkF m 0 #[.val (.ref x0), .val (.ref x1), .val (.int x2), .unset, .unset, .unset, .unset, .unset, .unset] [] := by first | (simp [entryFrame, mkF, argsToLocals, Value.category]; done) | rfl
theorem d_14_11__112 : decode prog_14_method_11_code 112 = .ok (.iconst 0, 1) := by decide +kernel
theorem d_14_11__113 : decode prog_14_method_11_code 113 = .ok (.istore 6, 2) := by decide +kernel
theorem d_14_11__115 : decode prog_14_method_11_code 115 = .ok (.iload 6, 2) := by decide +kernel
theorem d_14_11__117 : decode prog_14_method_11_code 117 = .ok (.aload_n 0, 1) := by decide +kernel
theorem d_14_11__118 : decode prog_14_method_11_code 118 = .ok (.getfield 21, 3) := by decide +kernel
theorem d_14_11__121 : decode prog_14_method_11_code 121 = .ok (.invokeinterface 51 1, 5) := by decide +kernel
theorem d_14_11__126 : decode prog_14_method_11_code 126 = .ok (.if_icmp .ge 76, 3) := by decide +kernel
theorem d_14_11__129 : decode prog_14_method_11_code 129 = .ok (.aload_n 0, 1) := by decide +kernel
theorem d_14_11__130 : decode prog_14_method_11_code 130 = .ok (.getfield 21, 3) := by decide +kernel
theorem d_14_11__133 : decode prog_14_method_11_code 133 = .ok (.iload 6, 2) := by decide +kernel
theorem d_14_11__135 : decode prog_14_method_11_code 135 = .ok (.invokeinterface 102 2, 5) := by decide +kernel
theorem d_14_11__140 : decode prog_14_method_11_code 140 = .ok (.checkcast 13, 3) := by decide +kernel
theorem d_14_11__143 : decode prog_14_method_11_code 143 = .ok (.astore 7, 2) := by decide +kernel
theorem d_14_11__145 : decode prog_14_method_11_code 145 = .ok (.aload 7, 2) := by decide +kernel
theorem d_14_11__147 : decode prog_14_method_11_code 147 = .ok (.arraylength, 1) := by decide +kernel
theorem d_14_11__148 : decode prog_14_method_11_code 148 = .ok (.iconst 1, 1) := by decide +kernel
theorem d_14_11__149 : decode prog_14_method_11_code 149 = .ok (.iadd, 1) := by decide +kernel
theorem d_14_11__150 : decode prog_14_method_11_code 150 = .ok (.newarray .int, 2) := by decide +kernel
theorem d_14_11__152 : decode prog_14_method_11_code 152 = .ok (.astore 8, 2) := by decide +kernel
theorem d_14_11__154 : decode prog_14_method_11_code 154 = .ok (.aload 7, 2) := by decide +kernel
theorem d_14_11__156 : decode prog_14_method_11_code 156 = .ok (.iconst 0, 1) := by decide +kernel
theorem d_14_11__157 : decode prog_14_method_11_code 157 = .ok (.aload 8, 2) := by decide +kernel
theorem d_14_11__159 : decode prog_14_method_11_code 159 = .ok (.iconst 0, 1) := by decide +kernel
theorem d_14_11__160 : decode prog_14_method_11_code 160 = .ok (.iload_n 3, 1) := by decide +kernel
theorem d_14_11__161 : decode prog_14_method_11_code 161 = .ok (.iconst 1, 1) := by decide +kernel
theorem d_14_11__162 : decode prog_14_method_11_code 162 = .ok (.iadd, 1) := by decide +kernel
theorem d_14_11__163 : decode prog_14_method_11_code 163 = .ok (.invokestatic 110, 3) := by decide +kernel
theorem d_14_11__166 : decode prog_14_method_11_code 166 = .ok (.aload 7, 2) := by decide +kernel
theorem d_14_11__168 : decode prog_14_method_11_code 168 = .ok (.iload_n 3, 1) := by decide +kernel
theorem d_14_11__169 : decode prog_14_method_11_code 169 = .ok (.aload 8, 2) := by decide +kernel
theorem d_14_11__171 : decode prog_14_method_11_code 171 = .ok (.iload_n 3, 1) := by decide +kernel
theorem d_14_11__172 : decode prog_14_method_11_code 172 = .ok (.iconst 1, 1) := by decide +kernel
theorem d_14_11__173 : decode prog_14_method_11_code 173 = .ok (.iadd, 1) := by decide +kernel
theorem d_14_11__174 : decode prog_14_method_11_code 174 = .ok (.aload 7, 2) := by decide +kernel
theorem d_14_11__176 : decode prog_14_method_11_code 176 = .ok (.arraylength, 1) := by decide +kernel
theorem d_14_11__177 : decode prog_14_method_11_code 177 = .ok (.iload_n 3, 1) := by decide +kernel
theorem d_14_11__178 : decode prog_14_method_11_code 178 = .ok (.isub, 1) := by decide +kernel
theorem d_14_11__179 : decode prog_14_method_11_code 179 = .ok (.invokestatic 110, 3) := by decide +kernel
theorem d_14_11__182 : decode prog_14_method_11_code 182 = .ok (.aload_n 0, 1) := by decide +kernel
theorem d_14_11__183 : decode prog_14_method_11_code 183 = .ok (.getfield 21, 3) := by decide +kernel
theorem d_14_11__186 : decode prog_14_method_11_code 186 = .ok (.iload 6, 2) := by decide +kernel
theorem d_14_11__188 : decode prog_14_method_11_code 188 = .ok (.aload 8, 2) := by decide +kernel
theorem d_14_11__190 : decode prog_14_method_11_code 190 = .ok (.invokeinterface 119 3, 5) := by decide +kernel
theorem pd__ILjava_lang_Object__Ljava_lang_Object_ : parseMethodDescriptor "(ILjava/lang/Object;)Ljava/lang/Object;" = some ⟨[.int, (.object "java/lang/Object")], some (.object "java/lang/Object")⟩ := by decide +kernel
theorem d_14_11__195 : decode prog_14_method_11_code 195 = .ok (.pop, 1) := by decide +kernel
theorem d_14_11__196 : decode prog_14_method_11_code 196 = .ok (.iinc 6 1, 3) := by decide +kernel
theorem d_14_11__199 : decode prog_14_method_11_code 199 = .ok (.goto (-84), 3) := by decide +kernel
set_option maxRecDepth 65536 in
set_option maxHeartbeats 40000000 in
theorem rmCut_1_0_0_0_0 (l : Launch) (Z : State) (a0 : Array Value) (hw : ∀ d ∈ tables_1, d.before a0 Z = true) (g aW aC cu c0 c1 rl es r0 : Addr) (pt mc : Int32) (n0 : Nat) (h0 : Heap) (n0_cu : n0 ≤ cu) (n0_rl : n0 ≤ rl) (n0_es : n0 ≤ es) (Z0 : n0 ≤ h0.size) (ox : aC < n0)  (ne_aC_aW : aC ≠ aW) (Eg : Exa Z h0 g "com/example/collectary/collectary/broker/Grid") (Exx : Exa Z h0 aC "com/example/collectary/collectary/broker/Grid$Axis") (Fo : Fld Z h0 aC "java/lang/Enum" "ordinal" "I" (.int (1 : Int32))) (SW : Sta Z h0 "com/example/collectary/collectary/broker/Grid$Axis" "WORD" "Lcom/example/collectary/collectary/broker/Grid$Axis;" (.ref aW)) (H0 : Fld Z h0 g "com/example/collectary/collectary/broker/Grid" "cuts" "[[I" (.ref cu)) (H1 : Fld Z h0 g "com/example/collectary/collectary/broker/Grid" "rows" "Ljava/util/List;" (.ref rl)) (H2 : AV Z h0 cu (.array .int) [.ref c0, .ref c1]) (H3 : CM Z h0 cu "[I") (H4 : AV Z h0 c0 .int []) (H5 : AV Z h0 c1 .int []) (H6 : Exa Z h0 rl "java/util/ArrayList") (H7 : Fld Z h0 rl "java/util/AbstractList" "modCount" "I" (.int mc)) (H8 : Fld Z h0 rl "java/util/ArrayList" "elementData" "[Ljava/lang/Object;" (.ref es)) (H9 : Fld Z h0 rl "java/util/ArrayList" "size" "I" (.int (1 : Int32))) (H10 : AV Z h0 es (.object "java/lang/Object") [(.ref r0), .null, .null, .null, .null, .null, .null, .null, .null, .null]) (H11 : CM Z h0 es "java/lang/Object") (H12 : AV Z h0 r0 .int [(.int (0 : Int32))]) (H13 : Exa Z h0 r0 "[I") : Con l Z (⟨"com/example/collectary/collectary/broker/Grid", "addCut", "(Lcom/example/collectary/collectary/broker/Grid$Axis;I)V"⟩ : MethodName) prog_14_method_11_code 9 none [] ({ frames := 3, cells := 2, slots := 3, locals := 90 } : Room) #[(.ref g), (.ref aC), (.int pt)] h0 (fun v h L => v = none ∧ Fr n0 L ∧ Keep h0 h [cu, rl, es] ∧ ∃ cn t0 : Addr, Fld Z h g "com/example/collectary/collectary/broker/Grid" "cuts" "[[I" (.ref cu) ∧ Fld Z h g "com/example/collectary/collectary/broker/Grid" "rows" "Ljava/util/List;" (.ref rl) ∧ AV Z h cu (.array .int) [.ref c0, .ref cn] ∧ CM Z h cu "[I" ∧ AV Z h c0 .int [] ∧ AV Z h cn .int [(.int pt)] ∧ Exa Z h rl "java/util/ArrayList" ∧ Fld Z h rl "java/util/AbstractList" "modCount" "I" (.int mc) ∧ Fld Z h rl "java/util/ArrayList" "elementData" "[Ljava/lang/Object;" (.ref es) ∧ Fld Z h rl "java/util/ArrayList" "size" "I" (.int (1 : Int32)) ∧ AV Z h es (.object "java/lang/Object") [(.ref t0), .null, .null, .null, .null, .null, .null, .null, .null, .null] ∧ CM Z h es "java/lang/Object" ∧ AV Z h t0 .int [(.int (0 : Int32)), (.int (0 : Int32))] ∧ Exa Z h t0 "[I") := by
  refine Con.of (plainFor_of_name pn_com_example_collectary_collectary_broker_Grid) ?_
  intro p e s m below meth c T X hx hby hml hown hnm hret eT hZ hsh Φ fin
  replace hown : s.vm.findClass "com/example/collectary/collectary/broker/Grid" = some m.cls := hown
  replace hml : 9 = c.maxLocals := hml.symm
  refine own_step (fun tq kq => castTop (ef_rmCut_1_0_0_0_0 m g aC pt) kq) ?_
  have N0 := Fr.nil n0
  have K0 : Keep h0 h0 [cu, rl, es] := Keep.refl h0 [cu, rl, es]
  have ne1_g_cu : g ≠ cu := own_ne_ea Eg (own_w hw 8 rfl) H2
  have ne2_aC_cu : aC ≠ cu := Nat.ne_of_lt (Nat.lt_of_lt_of_le ox n0_cu)
  have ne3_c0_cu : c0 ≠ cu := own_ne_av2 H4 H2 (by decide)
  have ne4_c1_cu : c1 ≠ cu := own_ne_av2 H5 H2 (by decide)
  have ne5_rl_cu : rl ≠ cu := own_ne_ea H6 (own_w hw 26 rfl) H2
  have ne6_es_cu : es ≠ cu := own_ne_av2 H10 H2 (by decide)
  have ne7_r0_cu : r0 ≠ cu := own_ne_av2 H12 H2 (by decide)
  have ne8_g_rl : g ≠ rl := ne_exa Eg H6 (by decide)
  have ne9_aC_rl : aC ≠ rl := Nat.ne_of_lt (Nat.lt_of_lt_of_le ox n0_rl)
  have ne10_c0_rl : c0 ≠ rl := (own_ne_ea H6 (own_w hw 26 rfl) H4).symm
  have ne11_c1_rl : c1 ≠ rl := (own_ne_ea H6 (own_w hw 26 rfl) H5).symm
  have ne12_es_rl : es ≠ rl := (own_ne_ea H6 (own_w hw 26 rfl) H10).symm
  have ne13_r0_rl : r0 ≠ rl := (own_ne_ea H6 (own_w hw 26 rfl) H12).symm
  have ne14_g_es : g ≠ es := own_ne_ea Eg (own_w hw 8 rfl) H10
  have ne15_aC_es : aC ≠ es := Nat.ne_of_lt (Nat.lt_of_lt_of_le ox n0_es)
  have ne16_c0_es : c0 ≠ es := own_ne_av2 H4 H10 (by decide)
  have ne17_c1_es : c1 ≠ es := own_ne_av2 H5 H10 (by decide)
  have ne18_r0_es : r0 ≠ es := own_ne_av2 H12 H10 (by decide)
  have nin_g : g ∉ [cu, rl, es] := (ninS ne1_g_cu (ninS ne8_g_rl (ninS ne14_g_es nin0)))
  have lt0_g := Eg.lt
  have nin_aC : aC ∉ [cu, rl, es] := (ninS ne2_aC_cu (ninS ne9_aC_rl (ninS ne15_aC_es nin0)))
  have lt0_aC := Exx.lt
  have nin_c0 : c0 ∉ [cu, rl, es] := (ninS ne3_c0_cu (ninS ne10_c0_rl (ninS ne16_c0_es nin0)))
  have lt0_c0 := H4.lt
  have nin_c1 : c1 ∉ [cu, rl, es] := (ninS ne4_c1_cu (ninS ne11_c1_rl (ninS ne17_c1_es nin0)))
  have lt0_c1 := H5.lt
  have nin_r0 : r0 ∉ [cu, rl, es] := (ninS ne7_r0_cu (ninS ne13_r0_rl (ninS ne18_r0_es nin0)))
  have lt0_r0 := H12.lt
  have plain_ws : ∀ x ∈ [cu, rl, es], ∀ c : Cell, h0[x]? = some c → c.vm.isStatics = false := (allS H2.plain (allS (own_plainE H6) (allS H10.plain all0)))
  refine own_aloadN X hx hby d_14_11__0 rfl rfl (pc' := 1) rfl ?_
  refine own_aloadN X hx hby d_14_11__1 rfl rfl (pc' := 2) rfl ?_
  refine own_iloadN X hx hby d_14_11__2 rfl (pc' := 3) rfl ?_
  refine own_iconst X hx hby d_14_11__3 (v := (1 : Int32)) rfl (pc' := 4) rfl ?_
  refine own_isub X hx hby d_14_11__4 (pc' := 5) rfl ?_
  refine own_callV X hx hby hZ (by exact hml) hown (own_w hw 102 rfl) (own_w hw 103 rfl) (own_w hw 105 rfl) (own_w hw 104 rfl) (own_w hw 9 rfl) (own_w hw 106 rfl) (by decide) eT 0 (by decide) (by decide) (by decide) (by decide) (argsL := [(.ref aC), (.int (pt - (1 : Int32)))]) (rest := []) (lenOf pd__Lcom_example_collectary_collectary_broker_Grid_Axis_I_I rfl) rfl (Nat.le_of_eq rfl) Eg (rmIv0_1 l Z a0 hw g aC cu c0 c1  (pt - (1 : Int32)) h0 Exx Fo H0 H2 H5) d_14_11__5 (pc' := 8) rfl ?_
  intro v19 T19 L19 X19 hQ19
  obtain ⟨rfl, rfl, e19⟩ := hQ19
  rw [List.append_nil] at X19
  replace e19 : T19.heap = h0 := e19
  show GoP p e below Φ (T19.setTop (mkF m 8 #[.val (.ref g), .val (.ref aC), .val (.int pt), .unset, .unset, .unset, .unset, .unset, .unset] [(.int (0 : Int32))]))
  refine own_istoreN X19 hx hby d_14_11__8  (Ls' := #[.val (.ref g), .val (.ref aC), .val (.int pt), .val (.int (0 : Int32)), .unset, .unset, .unset, .unset, .unset]) rfl (pc' := 9) rfl ?_
  refine own_aloadN X19 hx hby d_14_11__9 rfl rfl (pc' := 10) rfl ?_
  refine own_getF X19 hx hby hZ hown (host := "") (Or.inl (own_w hw 23 rfl)) Via.refl e19 H0 d_14_11__10 (pc' := 13) rfl ?_
  intro T20 X20 e20
  refine own_aloadN X20 hx hby d_14_11__13 rfl rfl (pc' := 14) rfl ?_
  refine own_callU X20 hx hby hZ (by exact hml) hown (x0 := (⟨"com/example/collectary/collectary/broker/Grid$Axis", "ordinal", "()I"⟩ : MethodName)) (y := (⟨"java/lang/Enum", "ordinal", "()I"⟩ : MethodName)) (own_w hw 52 rfl) (own_w hw 53 rfl) (own_w hw 54 rfl) (own_w hw 56 rfl) (own_w hw 55 rfl) (own_w hw 57 rfl) (own_w hw 58 rfl) (by decide) e20 1 (by decide) (by decide) (by decide) (by decide) (argsL := []) (rest := [(.ref cu)]) (lenOf pd___I rfl) rfl (Nat.le_of_eq rfl) Exx (rmO l Z a0 hw aC (1 : Int32) h0 Fo) d_14_11__14 (pc' := 17) rfl ?_
  intro v21 T21 L21 X21 hQ21
  obtain ⟨rfl, rfl, e21⟩ := hQ21
  rw [List.append_nil] at X21
  replace e21 : T21.heap = h0 := e21
  show GoP p e below Φ (T21.setTop (mkF m 17 #[.val (.ref g), .val (.ref aC), .val (.int pt), .val (.int (0 : Int32)), .unset, .unset, .unset, .unset, .unset] [(.int (1 : Int32)), (.ref cu)]))
  refine own_aaload X21 hx hby hZ e21 H2 rfl (by decide) (v := (.ref c1)) rfl d_14_11__17 (pc' := 18) rfl ?_
  refine own_astore X21 hx hby d_14_11__18 rfl (Ls' := #[.val (.ref g), .val (.ref aC), .val (.int pt), .val (.int (0 : Int32)), .val (.ref c1), .unset, .unset, .unset, .unset]) rfl (pc' := 20) rfl ?_
  refine own_aload X21 hx hby d_14_11__20 rfl rfl (pc' := 22) rfl ?_
  refine own_alen X21 hx hby hZ e21 (n := (0 : Int32)) H5 rfl d_14_11__22 (pc' := 23) rfl ?_
  refine own_iconst X21 hx hby d_14_11__23 (v := (1 : Int32)) rfl (pc' := 24) rfl ?_
  refine own_iadd X21 hx hby d_14_11__24 (pc' := 25) rfl ?_
  show GoP p e below Φ (T21.setTop (mkF m 25 #[.val (.ref g), .val (.ref aC), .val (.int pt), .val (.int (0 : Int32)), .val (.ref c1), .unset, .unset, .unset, .unset] [(.int (1 : Int32))]))
  refine own_newI X21 hx hby hZ (own_w hw 17 rfl) e21 (by decide) 1 (by decide) (by decide) (by decide) (by decide) d_14_11__25 (pc' := 27) rfl ?_
  intro T22 h22 b22 X22 e22 E22 g22 V22 I22 A22
  have ne_cu_b22 : cu ≠ b22 := Nat.ne_of_lt (g22 ▸ H2.lt)
  have ne_rl_b22 : rl ≠ b22 := Nat.ne_of_lt (g22 ▸ H6.lt)
  have ne_es_b22 : es ≠ b22 := Nat.ne_of_lt (g22 ▸ H10.lt)
  have V23_cu := H2.ext E22
  have Y24_cu := H3.ext E22
  have E25_rl := H6.ext E22
  have F26_modCount := H7.ext E22
  have F27_elementData := H8.ext E22
  have F28_size := H9.ext E22
  have V29_es := H10.ext E22
  have Y30_es := H11.ext E22
  have Z22 : n0 ≤ h22.size := Nat.le_trans Z0 E22.1
  have n0_b22 : n0 ≤ b22 := g22 ▸ Z0
  have sz_b22 : h0.size ≤ b22 := g22 ▸ K0.1
  have K22 : Keep h0 h22 [cu, rl, es] := K0.ext E22
  replace V22 : AV Z h22 b22 .int [(.int (0 : Int32))] := V22
  show GoP p e below Φ (T22.setTop (mkF m 27 #[.val (.ref g), .val (.ref aC), .val (.int pt), .val (.int (0 : Int32)), .val (.ref c1), .unset, .unset, .unset, .unset] [(.ref b22)]))
  refine own_astore X22 hx hby d_14_11__27 rfl (Ls' := #[.val (.ref g), .val (.ref aC), .val (.int pt), .val (.int (0 : Int32)), .val (.ref c1), .val (.ref b22), .unset, .unset, .unset]) rfl (pc' := 29) rfl ?_
  refine own_aload X22 hx hby d_14_11__29 rfl rfl (pc' := 31) rfl ?_
  refine own_iconst X22 hx hby d_14_11__31 (v := (0 : Int32)) rfl (pc' := 32) rfl ?_
  refine own_aload X22 hx hby d_14_11__32 rfl rfl (pc' := 34) rfl ?_
  refine own_iconst X22 hx hby d_14_11__34 (v := (0 : Int32)) rfl (pc' := 35) rfl ?_
  refine own_iloadN X22 hx hby d_14_11__35 rfl (pc' := 36) rfl ?_
  refine own_copyV X22 hx hby (dv := (.int 0)) hZ (by exact hml) hown (own_w hw 114 rfl) (own_w hw 117 rfl) (own_w hw 115 rfl) (own_w hw 116 rfl) e22 (H5.keep K22 nin_c1) V22 rfl rfl rfl (by decide) (by decide) (by decide) (Nat.le_of_ble_eq_true rfl) (Nat.le_of_ble_eq_true rfl) N0 n0_b22 (by decide) 0 (Nat.le_of_eq rfl) (by decide) d_14_11__36 (pc' := 39) rfl ?_
  intro T31 h31 L31 X31 e31 Nn31 K31 V31
  replace V31 : AV Z h31 b22 .int [(.int (0 : Int32))] := V31
  have V32_cu := V23_cu.keep K31 (ninS ne_cu_b22 nin0)
  have Y33_cu := Y24_cu.keep K31 
  have E34_rl := E25_rl.keep K31 
  have F35_modCount := F26_modCount.keep K31 (ninS ne_rl_b22 nin0)
  have F36_elementData := F27_elementData.keep K31 (ninS ne_rl_b22 nin0)
  have F37_size := F28_size.keep K31 (ninS ne_rl_b22 nin0)
  have V38_es := V29_es.keep K31 (ninS ne_es_b22 nin0)
  have Y39_es := Y30_es.keep K31 
  have E40_b22 := A22.keep K31 
  have KC31 : Keep h0 h31 [cu, rl, es] := K22.trans K31 (allS (Or.inr sz_b22) all0)
  have ZC31 : n0 ≤ h31.size := Nat.le_trans Z22 K31.1
  refine own_aload X31 hx hby d_14_11__39 rfl rfl (pc' := 41) rfl ?_
  refine own_iloadN X31 hx hby d_14_11__41 rfl (pc' := 42) rfl ?_
  refine own_iloadN X31 hx hby d_14_11__42 rfl (pc' := 43) rfl ?_
  refine own_iastore X31 hx hby hZ e31 V31 (by decide) (Nat.le_of_ble_eq_true rfl) d_14_11__43 (pc' := 44) rfl ?_
  intro T41 h41 X41 e41 W41 V41
  replace V41 : AV Z h41 b22 .int [(.int pt)] := V41
  have V42_cu := V32_cu.other W41 ne_cu_b22
  have Y43_cu := Y33_cu.wr W41
  have E44_rl := E34_rl.wr W41
  have F45_modCount := F35_modCount.other W41 (Or.inl ne_rl_b22)
  have F46_elementData := F36_elementData.other W41 (Or.inl ne_rl_b22)
  have F47_size := F37_size.other W41 (Or.inl ne_rl_b22)
  have V48_es := V38_es.other W41 ne_es_b22
  have Y49_es := Y39_es.wr W41
  have E51_b22 := E40_b22.wr W41
  have Z41 : n0 ≤ h41.size := by rw [W41.size]; exact ZC31
  have N41 := Fr.snoc X41 Nn31 n0_b22
  have K41 : Keep h0 h41 [cu, rl, es] := KC31.wr W41 (Or.inr sz_b22)
  refine own_aload X41 hx hby d_14_11__44 rfl rfl (pc' := 46) rfl ?_
  refine own_iloadN X41 hx hby d_14_11__46 rfl (pc' := 47) rfl ?_
  refine own_aload X41 hx hby d_14_11__47 rfl rfl (pc' := 49) rfl ?_
  refine own_iloadN X41 hx hby d_14_11__49 rfl (pc' := 50) rfl ?_
  refine own_iconst X41 hx hby d_14_11__50 (v := (1 : Int32)) rfl (pc' := 51) rfl ?_
  refine own_iadd X41 hx hby d_14_11__51 (pc' := 52) rfl ?_
  show GoP p e below Φ (T41.setTop (mkF m 52 #[.val (.ref g), .val (.ref aC), .val (.int pt), .val (.int (0 : Int32)), .val (.ref c1), .val (.ref b22), .unset, .unset, .unset] [(.int (1 : Int32)), (.ref b22), (.int (0 : Int32)), (.ref c1)]))
  refine own_aload X41 hx hby d_14_11__52 rfl rfl (pc' := 54) rfl ?_
  refine own_alen X41 hx hby hZ e41 (n := (0 : Int32)) (H5.keep K41 nin_c1) rfl d_14_11__54 (pc' := 55) rfl ?_
  refine own_iloadN X41 hx hby d_14_11__55 rfl (pc' := 56) rfl ?_
  refine own_isub X41 hx hby d_14_11__56 (pc' := 57) rfl ?_
  show GoP p e below Φ (T41.setTop (mkF m 57 #[.val (.ref g), .val (.ref aC), .val (.int pt), .val (.int (0 : Int32)), .val (.ref c1), .val (.ref b22), .unset, .unset, .unset] [(.int (0 : Int32)), (.int (1 : Int32)), (.ref b22), (.int (0 : Int32)), (.ref c1)]))
  refine own_copyV X41 hx hby (dv := (.int 0)) hZ (by exact hml) hown (own_w hw 114 rfl) (own_w hw 117 rfl) (own_w hw 115 rfl) (own_w hw 116 rfl) e41 (H5.keep K41 nin_c1) V41 rfl rfl rfl (by decide) (by decide) (by decide) (Nat.le_of_ble_eq_true rfl) (Nat.le_of_ble_eq_true rfl) N41 n0_b22 (by decide) 0 (Nat.le_of_eq rfl) (by decide) d_14_11__57 (pc' := 60) rfl ?_
  intro T52 h52 L52 X52 e52 Nn52 K52 V52
  replace V52 : AV Z h52 b22 .int [(.int pt)] := V52
  have V53_cu := V42_cu.keep K52 (ninS ne_cu_b22 nin0)
  have Y54_cu := Y43_cu.keep K52 
  have E55_rl := E44_rl.keep K52 
  have F56_modCount := F45_modCount.keep K52 (ninS ne_rl_b22 nin0)
  have F57_elementData := F46_elementData.keep K52 (ninS ne_rl_b22 nin0)
  have F58_size := F47_size.keep K52 (ninS ne_rl_b22 nin0)
  have V59_es := V48_es.keep K52 (ninS ne_es_b22 nin0)
  have Y60_es := Y49_es.keep K52 
  have E61_b22 := E51_b22.keep K52 
  have KC52 : Keep h0 h52 [cu, rl, es] := K41.trans K52 (allS (Or.inr sz_b22) all0)
  have ZC52 : n0 ≤ h52.size := Nat.le_trans Z41 K52.1
  refine own_aloadN X52 hx hby d_14_11__60 rfl rfl (pc' := 61) rfl ?_
  refine own_getF X52 hx hby hZ hown (host := "") (Or.inl (own_w hw 23 rfl)) Via.refl e52 (H0.keep KC52 nin_g) d_14_11__61 (pc' := 64) rfl ?_
  intro T62 X62 e62
  refine own_aloadN X62 hx hby d_14_11__64 rfl rfl (pc' := 65) rfl ?_
  refine own_callU X62 hx hby hZ (by exact hml) hown (x0 := (⟨"com/example/collectary/collectary/broker/Grid$Axis", "ordinal", "()I"⟩ : MethodName)) (y := (⟨"java/lang/Enum", "ordinal", "()I"⟩ : MethodName)) (own_w hw 52 rfl) (own_w hw 53 rfl) (own_w hw 54 rfl) (own_w hw 56 rfl) (own_w hw 55 rfl) (own_w hw 57 rfl) (own_w hw 58 rfl) (by decide) e62 1 (by decide) (by decide) (by decide) (by decide) (argsL := []) (rest := [(.ref cu)]) (lenOf pd___I rfl) rfl (Nat.le_of_eq rfl) (Exx.keep KC52) (rmO l Z a0 hw aC (1 : Int32) h52 (Fo.keep KC52 nin_aC)) d_14_11__65 (pc' := 68) rfl ?_
  intro v63 T63 L63 X63 hQ63
  obtain ⟨rfl, rfl, e63⟩ := hQ63
  rw [List.append_nil] at X63
  replace e63 : T63.heap = h52 := e63
  show GoP p e below Φ (T63.setTop (mkF m 68 #[.val (.ref g), .val (.ref aC), .val (.int pt), .val (.int (0 : Int32)), .val (.ref c1), .val (.ref b22), .unset, .unset, .unset] [(.int (1 : Int32)), (.ref cu)]))
  refine own_aload X63 hx hby d_14_11__68 rfl rfl (pc' := 70) rfl ?_
  refine own_aastore X63 hx hby hZ e63 V53_cu rfl (own_sto V53_cu Y54_cu (Ins.self E61_b22)) (by decide) (Nat.le_of_ble_eq_true rfl) d_14_11__70 (pc' := 71) rfl ?_
  intro T64 h64 X64 e64 W64 V64
  replace V64 : AV Z h64 cu (.array .int) [(.ref c0), (.ref b22)] := V64
  have Y66_cu := Y54_cu.wr W64
  have E67_rl := E55_rl.wr W64
  have F68_modCount := F56_modCount.other W64 (Or.inl ne5_rl_cu)
  have F69_elementData := F57_elementData.other W64 (Or.inl ne5_rl_cu)
  have F70_size := F58_size.other W64 (Or.inl ne5_rl_cu)
  have V71_es := V59_es.other W64 ne6_es_cu
  have Y72_es := Y60_es.wr W64
  have V73_b22 := V52.other W64 (Ne.symm ne_cu_b22)
  have E74_b22 := E61_b22.wr W64
  have Z64 : n0 ≤ h64.size := by rw [W64.size]; exact ZC52
  have N64 := Fr.snoc X64 Nn52 n0_cu
  have K64 : Keep h0 h64 [cu, rl, es] := KC52.wr W64 (Or.inl (List.mem_of_getElem? (i := 0) rfl))
  refine own_aloadN X64 hx hby d_14_11__71 rfl rfl (pc' := 72) rfl ?_
  refine own_getS X64 hx hby hZ hown (host := "") (Or.inl (own_w hw 51 rfl)) Via.refl e64 (own_stakeep SW K64 plain_ws) d_14_11__72 (pc' := 75) rfl ?_
  intro T75 X75 e75
  refine own_acmp X75 hx hby d_14_11__75 rfl rfl (same := false) (decide_eq_false (fun q => ne_aC_aW (Value.ref.inj q))) (by decide) (pc' := 112) (by decide) ?_
  refine own_iconst X75 hx hby d_14_11__112 (v := (0 : Int32)) rfl (pc' := 113) rfl ?_
  refine own_istore X75 hx hby d_14_11__113  (Ls' := #[.val (.ref g), .val (.ref aC), .val (.int pt), .val (.int (0 : Int32)), .val (.ref c1), .val (.ref b22), .val (.int (0 : Int32)), .unset, .unset]) rfl (pc' := 115) rfl ?_
  refine own_iload X75 hx hby d_14_11__115 rfl (pc' := 117) rfl ?_
  refine own_aloadN X75 hx hby d_14_11__117 rfl rfl (pc' := 118) rfl ?_
  refine own_getF X75 hx hby hZ hown (host := "") (Or.inl (own_w hw 49 rfl)) Via.refl e75 (H1.keep K64 nin_g) d_14_11__118 (pc' := 121) rfl ?_
  intro T76 X76 e76
  refine own_callF X76 hx hby hZ (by exact hml) hown (x0 := (⟨"java/util/List", "size", "()I"⟩ : MethodName)) (y := (⟨"java/util/ArrayList", "size", "()I"⟩ : MethodName)) (own_w hw 160 rfl) (own_w hw 161 rfl) (own_w hw 162 rfl) (own_w hw 163 rfl) (own_w hw 164 rfl) (own_w hw 165 rfl) (own_w hw 166 rfl) (own_w hw 69 rfl) (own_w hw 27 rfl) rfl (own_w hw 167 rfl) (by decide) e76 1 (by decide) (by decide) (by decide) (by decide) (argsL := []) (rest := [(.int (0 : Int32))]) (lenOf pd___I rfl) rfl (Nat.le_of_eq rfl) E67_rl (rmSz l Z a0 hw rl (1 : Int32) h64 F70_size) d_14_11__121 (pc' := 126) rfl ?_
  intro v77 T77 L77 X77 hQ77
  obtain ⟨rfl, rfl, e77⟩ := hQ77
  rw [List.append_nil] at X77
  replace e77 : T77.heap = h64 := e77
  show GoP p e below Φ (T77.setTop (mkF m 126 #[.val (.ref g), .val (.ref aC), .val (.int pt), .val (.int (0 : Int32)), .val (.ref c1), .val (.ref b22), .val (.int (0 : Int32)), .unset, .unset] [(.int (1 : Int32)), (.int (0 : Int32))]))
  refine own_icmpN X77 hx hby d_14_11__126 (tlt (by decide)).2.1 (pc' := 129) rfl ?_
  refine own_aloadN X77 hx hby d_14_11__129 rfl rfl (pc' := 130) rfl ?_
  refine own_getF X77 hx hby hZ hown (host := "") (Or.inl (own_w hw 49 rfl)) Via.refl e77 (H1.keep K64 nin_g) d_14_11__130 (pc' := 133) rfl ?_
  intro T78 X78 e78
  refine own_iload X78 hx hby d_14_11__133 rfl (pc' := 135) rfl ?_
  refine own_callF X78 hx hby hZ (by exact hml) hown (x0 := (⟨"java/util/List", "get", "(I)Ljava/lang/Object;"⟩ : MethodName)) (y := (⟨"java/util/ArrayList", "get", "(I)Ljava/lang/Object;"⟩ : MethodName)) (own_w hw 118 rfl) (own_w hw 119 rfl) (own_w hw 120 rfl) (own_w hw 121 rfl) (own_w hw 122 rfl) (own_w hw 123 rfl) (own_w hw 124 rfl) (own_w hw 69 rfl) (own_w hw 27 rfl) rfl (own_w hw 125 rfl) (by decide) e78 0 (by decide) (by decide) (by decide) (by decide) (argsL := [(.int (0 : Int32))]) (rest := []) (lenOf pd__I_Ljava_lang_Object_ rfl) rfl (Nat.le_of_eq rfl) E67_rl (rmG0 l Z a0 hw rl es r0 (1 : Int32) .null .null .null .null .null .null .null .null .null h64 (by decide) E67_rl F70_size F69_elementData V71_es) d_14_11__135 (pc' := 140) rfl ?_
  intro v79 T79 L79 X79 hQ79
  obtain ⟨rfl, rfl, e79⟩ := hQ79
  rw [List.append_nil] at X79
  replace e79 : T79.heap = h64 := e79
  show GoP p e below Φ (T79.setTop (mkF m 140 #[.val (.ref g), .val (.ref aC), .val (.int pt), .val (.int (0 : Int32)), .val (.ref c1), .val (.ref b22), .val (.int (0 : Int32)), .unset, .unset] [(.ref r0)]))
  obtain ⟨T80, X80, e80, st80⟩ := castY X79 hx hZ hown (own_w hw 20 rfl) e79 (Ins.self (H13.keep K64)) (g := (mkF m 140 #[.val (.ref g), .val (.ref aC), .val (.int pt), .val (.int (0 : Int32)), .val (.ref c1), .val (.ref b22), .val (.int (0 : Int32)), .unset, .unset] [(.ref r0)])) rfl rfl (hb hby d_14_11__140)
  refine own_step st80 ?_
  show GoP p e below Φ (T80.setTop (mkF m 143 #[.val (.ref g), .val (.ref aC), .val (.int pt), .val (.int (0 : Int32)), .val (.ref c1), .val (.ref b22), .val (.int (0 : Int32)), .unset, .unset] [(.ref r0)]))
  refine own_astore X80 hx hby d_14_11__143 rfl (Ls' := #[.val (.ref g), .val (.ref aC), .val (.int pt), .val (.int (0 : Int32)), .val (.ref c1), .val (.ref b22), .val (.int (0 : Int32)), .val (.ref r0), .unset]) rfl (pc' := 145) rfl ?_
  refine own_aload X80 hx hby d_14_11__145 rfl rfl (pc' := 147) rfl ?_
  refine own_alen X80 hx hby hZ e80 (n := (1 : Int32)) (H12.keep K64 nin_r0) rfl d_14_11__147 (pc' := 148) rfl ?_
  refine own_iconst X80 hx hby d_14_11__148 (v := (1 : Int32)) rfl (pc' := 149) rfl ?_
  refine own_iadd X80 hx hby d_14_11__149 (pc' := 150) rfl ?_
  show GoP p e below Φ (T80.setTop (mkF m 150 #[.val (.ref g), .val (.ref aC), .val (.int pt), .val (.int (0 : Int32)), .val (.ref c1), .val (.ref b22), .val (.int (0 : Int32)), .val (.ref r0), .unset] [(.int (2 : Int32))]))
  refine own_newI X80 hx hby hZ (own_w hw 17 rfl) e80 (by decide) 2 (by decide) (by decide) (by decide) (by decide) d_14_11__150 (pc' := 152) rfl ?_
  intro T81 h81 b81 X81 e81 E81 g81 V81 I81 A81
  have ne_cu_b81 : cu ≠ b81 := Nat.ne_of_lt (g81 ▸ V64.lt)
  have ne_rl_b81 : rl ≠ b81 := Nat.ne_of_lt (g81 ▸ E67_rl.lt)
  have ne_es_b81 : es ≠ b81 := Nat.ne_of_lt (g81 ▸ V71_es.lt)
  have ne_b22_b81 : b22 ≠ b81 := Nat.ne_of_lt (g81 ▸ V73_b22.lt)
  have V82_cu := V64.ext E81
  have Y83_cu := Y66_cu.ext E81
  have E84_rl := E67_rl.ext E81
  have F85_modCount := F68_modCount.ext E81
  have F86_elementData := F69_elementData.ext E81
  have F87_size := F70_size.ext E81
  have V88_es := V71_es.ext E81
  have Y89_es := Y72_es.ext E81
  have V90_b22 := V73_b22.ext E81
  have E91_b22 := E74_b22.ext E81
  have Z81 : n0 ≤ h81.size := Nat.le_trans Z64 E81.1
  have n0_b81 : n0 ≤ b81 := g81 ▸ Z64
  have sz_b81 : h0.size ≤ b81 := g81 ▸ K64.1
  have K81 : Keep h0 h81 [cu, rl, es] := K64.ext E81
  replace V81 : AV Z h81 b81 .int [(.int (0 : Int32)), (.int (0 : Int32))] := V81
  show GoP p e below Φ (T81.setTop (mkF m 152 #[.val (.ref g), .val (.ref aC), .val (.int pt), .val (.int (0 : Int32)), .val (.ref c1), .val (.ref b22), .val (.int (0 : Int32)), .val (.ref r0), .unset] [(.ref b81)]))
  refine own_astore X81 hx hby d_14_11__152 rfl (Ls' := #[.val (.ref g), .val (.ref aC), .val (.int pt), .val (.int (0 : Int32)), .val (.ref c1), .val (.ref b22), .val (.int (0 : Int32)), .val (.ref r0), .val (.ref b81)]) rfl (pc' := 154) rfl ?_
  refine own_aload X81 hx hby d_14_11__154 rfl rfl (pc' := 156) rfl ?_
  refine own_iconst X81 hx hby d_14_11__156 (v := (0 : Int32)) rfl (pc' := 157) rfl ?_
  refine own_aload X81 hx hby d_14_11__157 rfl rfl (pc' := 159) rfl ?_
  refine own_iconst X81 hx hby d_14_11__159 (v := (0 : Int32)) rfl (pc' := 160) rfl ?_
  refine own_iloadN X81 hx hby d_14_11__160 rfl (pc' := 161) rfl ?_
  refine own_iconst X81 hx hby d_14_11__161 (v := (1 : Int32)) rfl (pc' := 162) rfl ?_
  refine own_iadd X81 hx hby d_14_11__162 (pc' := 163) rfl ?_
  show GoP p e below Φ (T81.setTop (mkF m 163 #[.val (.ref g), .val (.ref aC), .val (.int pt), .val (.int (0 : Int32)), .val (.ref c1), .val (.ref b22), .val (.int (0 : Int32)), .val (.ref r0), .val (.ref b81)] [(.int (1 : Int32)), (.int (0 : Int32)), (.ref b81), (.int (0 : Int32)), (.ref r0)]))
  refine own_copyV X81 hx hby (dv := (.int 0)) hZ (by exact hml) hown (own_w hw 114 rfl) (own_w hw 117 rfl) (own_w hw 115 rfl) (own_w hw 116 rfl) e81 (H12.keep K81 nin_r0) V81 rfl rfl rfl (by decide) (by decide) (by decide) (Nat.le_of_ble_eq_true rfl) (Nat.le_of_ble_eq_true rfl) N64 n0_b81 (by decide) 0 (Nat.le_of_eq rfl) (by decide) d_14_11__163 (pc' := 166) rfl ?_
  intro T92 h92 L92 X92 e92 Nn92 K92 V92
  replace V92 : AV Z h92 b81 .int [(.int (0 : Int32)), (.int (0 : Int32))] := V92
  have V93_cu := V82_cu.keep K92 (ninS ne_cu_b81 nin0)
  have Y94_cu := Y83_cu.keep K92 
  have E95_rl := E84_rl.keep K92 
  have F96_modCount := F85_modCount.keep K92 (ninS ne_rl_b81 nin0)
  have F97_elementData := F86_elementData.keep K92 (ninS ne_rl_b81 nin0)
  have F98_size := F87_size.keep K92 (ninS ne_rl_b81 nin0)
  have V99_es := V88_es.keep K92 (ninS ne_es_b81 nin0)
  have Y100_es := Y89_es.keep K92 
  have V101_b22 := V90_b22.keep K92 (ninS ne_b22_b81 nin0)
  have E102_b22 := E91_b22.keep K92 
  have E103_b81 := A81.keep K92 
  have KC92 : Keep h0 h92 [cu, rl, es] := K81.trans K92 (allS (Or.inr sz_b81) all0)
  have ZC92 : n0 ≤ h92.size := Nat.le_trans Z81 K92.1
  refine own_aload X92 hx hby d_14_11__166 rfl rfl (pc' := 168) rfl ?_
  refine own_iloadN X92 hx hby d_14_11__168 rfl (pc' := 169) rfl ?_
  refine own_aload X92 hx hby d_14_11__169 rfl rfl (pc' := 171) rfl ?_
  refine own_iloadN X92 hx hby d_14_11__171 rfl (pc' := 172) rfl ?_
  refine own_iconst X92 hx hby d_14_11__172 (v := (1 : Int32)) rfl (pc' := 173) rfl ?_
  refine own_iadd X92 hx hby d_14_11__173 (pc' := 174) rfl ?_
  show GoP p e below Φ (T92.setTop (mkF m 174 #[.val (.ref g), .val (.ref aC), .val (.int pt), .val (.int (0 : Int32)), .val (.ref c1), .val (.ref b22), .val (.int (0 : Int32)), .val (.ref r0), .val (.ref b81)] [(.int (1 : Int32)), (.ref b81), (.int (0 : Int32)), (.ref r0)]))
  refine own_aload X92 hx hby d_14_11__174 rfl rfl (pc' := 176) rfl ?_
  refine own_alen X92 hx hby hZ e92 (n := (1 : Int32)) (H12.keep KC92 nin_r0) rfl d_14_11__176 (pc' := 177) rfl ?_
  refine own_iloadN X92 hx hby d_14_11__177 rfl (pc' := 178) rfl ?_
  refine own_isub X92 hx hby d_14_11__178 (pc' := 179) rfl ?_
  show GoP p e below Φ (T92.setTop (mkF m 179 #[.val (.ref g), .val (.ref aC), .val (.int pt), .val (.int (0 : Int32)), .val (.ref c1), .val (.ref b22), .val (.int (0 : Int32)), .val (.ref r0), .val (.ref b81)] [(.int (1 : Int32)), (.int (1 : Int32)), (.ref b81), (.int (0 : Int32)), (.ref r0)]))
  refine own_copyV X92 hx hby (dv := (.int 0)) hZ (by exact hml) hown (own_w hw 114 rfl) (own_w hw 117 rfl) (own_w hw 115 rfl) (own_w hw 116 rfl) e92 (H12.keep KC92 nin_r0) V92 rfl rfl rfl (by decide) (by decide) (by decide) (Nat.le_of_ble_eq_true rfl) (Nat.le_of_ble_eq_true rfl) Nn92 n0_b81 (by decide) 0 (Nat.le_of_eq rfl) (by decide) d_14_11__179 (pc' := 182) rfl ?_
  intro T104 h104 L104 X104 e104 Nn104 K104 V104
  replace V104 : AV Z h104 b81 .int [(.int (0 : Int32)), (.int (0 : Int32))] := V104
  have V105_cu := V93_cu.keep K104 (ninS ne_cu_b81 nin0)
  have Y106_cu := Y94_cu.keep K104 
  have E107_rl := E95_rl.keep K104 
  have F108_modCount := F96_modCount.keep K104 (ninS ne_rl_b81 nin0)
  have F109_elementData := F97_elementData.keep K104 (ninS ne_rl_b81 nin0)
  have F110_size := F98_size.keep K104 (ninS ne_rl_b81 nin0)
  have V111_es := V99_es.keep K104 (ninS ne_es_b81 nin0)
  have Y112_es := Y100_es.keep K104 
  have V113_b22 := V101_b22.keep K104 (ninS ne_b22_b81 nin0)
  have E114_b22 := E102_b22.keep K104 
  have E115_b81 := E103_b81.keep K104 
  have KC104 : Keep h0 h104 [cu, rl, es] := KC92.trans K104 (allS (Or.inr sz_b81) all0)
  have ZC104 : n0 ≤ h104.size := Nat.le_trans ZC92 K104.1
  refine own_aloadN X104 hx hby d_14_11__182 rfl rfl (pc' := 183) rfl ?_
  refine own_getF X104 hx hby hZ hown (host := "") (Or.inl (own_w hw 49 rfl)) Via.refl e104 (H1.keep KC104 nin_g) d_14_11__183 (pc' := 186) rfl ?_
  intro T116 X116 e116
  refine own_iload X116 hx hby d_14_11__186 rfl (pc' := 188) rfl ?_
  refine own_aload X116 hx hby d_14_11__188 rfl rfl (pc' := 190) rfl ?_
  refine own_callF X116 hx hby hZ (by exact hml) hown (x0 := (⟨"java/util/List", "set", "(ILjava/lang/Object;)Ljava/lang/Object;"⟩ : MethodName)) (y := (⟨"java/util/ArrayList", "set", "(ILjava/lang/Object;)Ljava/lang/Object;"⟩ : MethodName)) (own_w hw 168 rfl) (own_w hw 169 rfl) (own_w hw 170 rfl) (own_w hw 171 rfl) (own_w hw 172 rfl) (own_w hw 173 rfl) (own_w hw 174 rfl) (own_w hw 69 rfl) (own_w hw 27 rfl) rfl (own_w hw 175 rfl) (by decide) e116 0 (by decide) (by decide) (by decide) (by decide) (argsL := [(.int (0 : Int32)), (.ref b81)]) (rest := []) (lenOf pd__ILjava_lang_Object__Ljava_lang_Object_ rfl) rfl (Nat.le_of_eq rfl) E107_rl (rmS0 l Z a0 hw rl es r0 b81 (1 : Int32) .null .null .null .null .null .null .null .null .null n0 h104 n0_es (Ne.symm ne12_es_rl) (Ne.symm ne_es_b81) (by decide) Y112_es E115_b81 E107_rl F110_size F109_elementData V111_es) d_14_11__190 (pc' := 195) rfl ?_
  intro v117 T117 L117 X117 hQ117
  obtain ⟨rfl, Nq117, K117, V117⟩ := hQ117
  have V118_cu := V105_cu.keep K117 (ninS (Ne.symm ne6_es_cu) nin0)
  have Y119_cu := Y106_cu.keep K117
  have E120_rl := E107_rl.keep K117
  have F121_modCount := F108_modCount.keep K117 (ninS (Ne.symm ne12_es_rl) nin0)
  have F122_elementData := F109_elementData.keep K117 (ninS (Ne.symm ne12_es_rl) nin0)
  have F123_size := F110_size.keep K117 (ninS (Ne.symm ne12_es_rl) nin0)
  have Y124_es := Y112_es.keep K117
  have V125_b22 := V113_b22.keep K117 (ninS (Ne.symm ne_es_b22) nin0)
  have E126_b22 := E114_b22.keep K117
  have V127_b81 := V104.keep K117 (ninS (Ne.symm ne_es_b81) nin0)
  have E128_b81 := E115_b81.keep K117
  have N117 := Fr.app Nn104 Nq117
  have Z117 : n0 ≤ T117.heap.size := Nat.le_trans ZC104 K117.1
  have KK117 : Keep h0 T117.heap [cu, rl, es] := KC104.trans K117 (allS (Or.inl (List.mem_of_getElem? (i := 2) rfl)) all0)
  show GoP p e below Φ (T117.setTop (mkF m 195 #[.val (.ref g), .val (.ref aC), .val (.int pt), .val (.int (0 : Int32)), .val (.ref c1), .val (.ref b22), .val (.int (0 : Int32)), .val (.ref r0), .val (.ref b81)] [(.ref r0)]))
  refine own_pop X117 hx hby d_14_11__195 rfl (pc' := 196) rfl ?_
  refine own_iinc X117 hx hby d_14_11__196 rfl (v := (1 : Int32)) rfl (Ls' := #[.val (.ref g), .val (.ref aC), .val (.int pt), .val (.int (0 : Int32)), .val (.ref c1), .val (.ref b22), .val (.int (1 : Int32)), .val (.ref r0), .val (.ref b81)]) rfl (pc' := 199) rfl ?_
  refine own_goto X117 hx hby d_14_11__199 (by decide) (pc' := 115) (by decide) ?_
  refine own_iload X117 hx hby d_14_11__115 rfl (pc' := 117) rfl ?_
  refine own_aloadN X117 hx hby d_14_11__117 rfl rfl (pc' := 118) rfl ?_
  refine own_getF X117 hx hby hZ hown (host := "") (Or.inl (own_w hw 49 rfl)) Via.refl rfl (H1.keep KK117 nin_g) d_14_11__118 (pc' := 121) rfl ?_
  intro T129 X129 e129
  refine own_callF X129 hx hby hZ (by exact hml) hown (x0 := (⟨"java/util/List", "size", "()I"⟩ : MethodName)) (y := (⟨"java/util/ArrayList", "size", "()I"⟩ : MethodName)) (own_w hw 160 rfl) (own_w hw 161 rfl) (own_w hw 162 rfl) (own_w hw 163 rfl) (own_w hw 164 rfl) (own_w hw 165 rfl) (own_w hw 166 rfl) (own_w hw 69 rfl) (own_w hw 27 rfl) rfl (own_w hw 167 rfl) (by decide) e129 1 (by decide) (by decide) (by decide) (by decide) (argsL := []) (rest := [(.int (1 : Int32))]) (lenOf pd___I rfl) rfl (Nat.le_of_eq rfl) E120_rl (rmSz l Z a0 hw rl (1 : Int32) T117.heap F123_size) d_14_11__121 (pc' := 126) rfl ?_
  intro v130 T130 L130 X130 hQ130
  obtain ⟨rfl, rfl, e130⟩ := hQ130
  rw [List.append_nil] at X130
  replace e130 : T130.heap = T117.heap := e130
  show GoP p e below Φ (T130.setTop (mkF m 126 #[.val (.ref g), .val (.ref aC), .val (.int pt), .val (.int (0 : Int32)), .val (.ref c1), .val (.ref b22), .val (.int (1 : Int32)), .val (.ref r0), .val (.ref b81)] [(.int (1 : Int32)), (.int (1 : Int32))]))
  refine own_icmpY X130 hx hby d_14_11__126 (flt (by decide)).2.1 (by decide) (pc' := 202) (by decide) ?_
  exact own_ret0 X130 hx hby fin hret d_14_11__202 (by decide) (by decide) (by rw [e130]; exact ⟨rfl, N117, KK117, b22, b81, (H0.keep KK117 nin_g), (H1.keep KK117 nin_g), V118_cu, Y119_cu, (H4.keep KK117 nin_c0), V125_b22, E120_rl, F121_modCount, F122_elementData, F123_size, V117, Y124_es, V127_b81, E128_b81⟩)
theorem ef_rmCut_1_1_0_0_1 (m : MethodId) (x0 : Addr) (x1 : Addr) (x2 : Int32) : entryFrame m #[(.ref x0), (.ref x1), (.int x2)] 9 = mkF m 0 #[.val (.ref x0), .val (.ref x1), .val (.int x2), .unset, .unset, .unset, .unset, .unset, .unset] [] := by first | (simp [entryFrame, mkF, argsToLocals, Value.category]; done) | rfl
set_option maxRecDepth 65536 in
set_option maxHeartbeats 40000000 in
theorem rmCut_1_1_0_0_1 (l : Launch) (Z : State) (a0 : Array Value) (hw : ∀ d ∈ tables_1, d.before a0 Z = true) (g aW aC cu c0 c1 rl es r0 : Addr) (pt q mc : Int32) (n0 : Nat) (h0 : Heap) (n0_cu : n0 ≤ cu) (n0_rl : n0 ≤ rl) (n0_es : n0 ≤ es) (Z0 : n0 ≤ h0.size) (ox : aC < n0) (hlo : (pt - (1 : Int32)) < q) (ne_aC_aW : aC ≠ aW) (Eg : Exa Z h0 g "com/example/collectary/collectary/broker/Grid") (Exx : Exa Z h0 aC "com/example/collectary/collectary/broker/Grid$Axis") (Fo : Fld Z h0 aC "java/lang/Enum" "ordinal" "I" (.int (1 : Int32))) (SW : Sta Z h0 "com/example/collectary/collectary/broker/Grid$Axis" "WORD" "Lcom/example/collectary/collectary/broker/Grid$Axis;" (.ref aW)) (H0 : Fld Z h0 g "com/example/collectary/collectary/broker/Grid" "cuts" "[[I" (.ref cu)) (H1 : Fld Z h0 g "com/example/collectary/collectary/broker/Grid" "rows" "Ljava/util/List;" (.ref rl)) (H2 : AV Z h0 cu (.array .int) [.ref c0, .ref c1]) (H3 : CM Z h0 cu "[I") (H4 : AV Z h0 c0 .int []) (H5 : AV Z h0 c1 .int [(.int q)]) (H6 : Exa Z h0 rl "java/util/ArrayList") (H7 : Fld Z h0 rl "java/util/AbstractList" "modCount" "I" (.int mc)) (H8 : Fld Z h0 rl "java/util/ArrayList" "elementData" "[Ljava/lang/Object;" (.ref es)) (H9 : Fld Z h0 rl "java/util/ArrayList" "size" "I" (.int (1 : Int32))) (H10 : AV Z h0 es (.object "java/lang/Object") [(.ref r0), .null, .null, .null, .null, .null, .null, .null, .null, .null]) (H11 : CM Z h0 es "java/lang/Object") (H12 : AV Z h0 r0 .int [(.int (0 : Int32)), (.int (0 : Int32))]) (H13 : Exa Z h0 r0 "[I") : Con l Z (⟨"com/example/collectary/collectary/broker/Grid", "addCut", "(Lcom/example/collectary/collectary/broker/Grid$Axis;I)V"⟩ : MethodName) prog_14_method_11_code 9 none [] ({ frames := 3, cells := 2, slots := 5, locals := 90 } : Room) #[(.ref g), (.ref aC), (.int pt)] h0 (fun v h L => v = none ∧ Fr n0 L ∧ Keep h0 h [cu, rl, es] ∧ ∃ cn t0 : Addr, Fld Z h g "com/example/collectary/collectary/broker/Grid" "cuts" "[[I" (.ref cu) ∧ Fld Z h g "com/example/collectary/collectary/broker/Grid" "rows" "Ljava/util/List;" (.ref rl) ∧ AV Z h cu (.array .int) [.ref c0, .ref cn] ∧ CM Z h cu "[I" ∧ AV Z h c0 .int [] ∧ AV Z h cn .int [(.int pt), (.int q)] ∧ Exa Z h rl "java/util/ArrayList" ∧ Fld Z h rl "java/util/AbstractList" "modCount" "I" (.int mc) ∧ Fld Z h rl "java/util/ArrayList" "elementData" "[Ljava/lang/Object;" (.ref es) ∧ Fld Z h rl "java/util/ArrayList" "size" "I" (.int (1 : Int32)) ∧ AV Z h es (.object "java/lang/Object") [(.ref t0), .null, .null, .null, .null, .null, .null, .null, .null, .null] ∧ CM Z h es "java/lang/Object" ∧ AV Z h t0 .int [(.int (0 : Int32)), (.int (0 : Int32)), (.int (0 : Int32))] ∧ Exa Z h t0 "[I") := by
  refine Con.of (plainFor_of_name pn_com_example_collectary_collectary_broker_Grid) ?_
  intro p e s m below meth c T X hx hby hml hown hnm hret eT hZ hsh Φ fin
  replace hown : s.vm.findClass "com/example/collectary/collectary/broker/Grid" = some m.cls := hown
  replace hml : 9 = c.maxLocals := hml.symm
  refine own_step (fun tq kq => castTop (ef_rmCut_1_1_0_0_1 m g aC pt) kq) ?_
  have N0 := Fr.nil n0
  have K0 : Keep h0 h0 [cu, rl, es] := Keep.refl h0 [cu, rl, es]
  have ne1_g_cu : g ≠ cu := own_ne_ea Eg (own_w hw 8 rfl) H2
  have ne2_aC_cu : aC ≠ cu := Nat.ne_of_lt (Nat.lt_of_lt_of_le ox n0_cu)
  have ne3_c0_cu : c0 ≠ cu := own_ne_av2 H4 H2 (by decide)
  have ne4_c1_cu : c1 ≠ cu := own_ne_av2 H5 H2 (by decide)
  have ne5_rl_cu : rl ≠ cu := own_ne_ea H6 (own_w hw 26 rfl) H2
  have ne6_es_cu : es ≠ cu := own_ne_av2 H10 H2 (by decide)
  have ne7_r0_cu : r0 ≠ cu := own_ne_av2 H12 H2 (by decide)
  have ne8_g_rl : g ≠ rl := ne_exa Eg H6 (by decide)
  have ne9_aC_rl : aC ≠ rl := Nat.ne_of_lt (Nat.lt_of_lt_of_le ox n0_rl)
  have ne10_c0_rl : c0 ≠ rl := (own_ne_ea H6 (own_w hw 26 rfl) H4).symm
  have ne11_c1_rl : c1 ≠ rl := (own_ne_ea H6 (own_w hw 26 rfl) H5).symm
  have ne12_es_rl : es ≠ rl := (own_ne_ea H6 (own_w hw 26 rfl) H10).symm
  have ne13_r0_rl : r0 ≠ rl := (own_ne_ea H6 (own_w hw 26 rfl) H12).symm
  have ne14_g_es : g ≠ es := own_ne_ea Eg (own_w hw 8 rfl) H10
  have ne15_aC_es : aC ≠ es := Nat.ne_of_lt (Nat.lt_of_lt_of_le ox n0_es)
  have ne16_c0_es : c0 ≠ es := own_ne_av2 H4 H10 (by decide)
  have ne17_c1_es : c1 ≠ es := own_ne_av2 H5 H10 (by decide)
  have ne18_r0_es : r0 ≠ es := own_ne_av2 H12 H10 (by decide)
  have nin_g : g ∉ [cu, rl, es] := (ninS ne1_g_cu (ninS ne8_g_rl (ninS ne14_g_es nin0)))
  have lt0_g := Eg.lt
  have nin_aC : aC ∉ [cu, rl, es] := (ninS ne2_aC_cu (ninS ne9_aC_rl (ninS ne15_aC_es nin0)))
  have lt0_aC := Exx.lt
  have nin_c0 : c0 ∉ [cu, rl, es] := (ninS ne3_c0_cu (ninS ne10_c0_rl (ninS ne16_c0_es nin0)))
  have lt0_c0 := H4.lt
  have nin_c1 : c1 ∉ [cu, rl, es] := (ninS ne4_c1_cu (ninS ne11_c1_rl (ninS ne17_c1_es nin0)))
  have lt0_c1 := H5.lt
  have nin_r0 : r0 ∉ [cu, rl, es] := (ninS ne7_r0_cu (ninS ne13_r0_rl (ninS ne18_r0_es nin0)))
  have lt0_r0 := H12.lt
  have plain_ws : ∀ x ∈ [cu, rl, es], ∀ c : Cell, h0[x]? = some c → c.vm.isStatics = false := (allS H2.plain (allS (own_plainE H6) (allS H10.plain all0)))
  refine own_aloadN X hx hby d_14_11__0 rfl rfl (pc' := 1) rfl ?_
  refine own_aloadN X hx hby d_14_11__1 rfl rfl (pc' := 2) rfl ?_
  refine own_iloadN X hx hby d_14_11__2 rfl (pc' := 3) rfl ?_
  refine own_iconst X hx hby d_14_11__3 (v := (1 : Int32)) rfl (pc' := 4) rfl ?_
  refine own_isub X hx hby d_14_11__4 (pc' := 5) rfl ?_
  refine own_callV X hx hby hZ (by exact hml) hown (own_w hw 102 rfl) (own_w hw 103 rfl) (own_w hw 105 rfl) (own_w hw 104 rfl) (own_w hw 9 rfl) (own_w hw 106 rfl) (by decide) eT 0 (by decide) (by decide) (by decide) (by decide) (argsL := [(.ref aC), (.int (pt - (1 : Int32)))]) (rest := []) (lenOf pd__Lcom_example_collectary_collectary_broker_Grid_Axis_I_I rfl) rfl (Nat.le_of_eq rfl) Eg (rmIv1_1 l Z a0 hw g aC cu c0 c1 q (pt - (1 : Int32)) h0 Exx Fo H0 H2 H5) d_14_11__5 (pc' := 8) rfl ?_
  intro v19 T19 L19 X19 hQ19
  obtain ⟨rfl, rfl, e19⟩ := hQ19
  rw [List.append_nil] at X19
  replace e19 : T19.heap = h0 := e19
  show GoP p e below Φ (T19.setTop (mkF m 8 #[.val (.ref g), .val (.ref aC), .val (.int pt), .unset, .unset, .unset, .unset, .unset, .unset] [(.int (if (pt - (1 : Int32)) < q then (0 : Int32) else (1 : Int32)))]))
  rw [if_pos hlo]
  refine own_istoreN X19 hx hby d_14_11__8  (Ls' := #[.val (.ref g), .val (.ref aC), .val (.int pt), .val (.int (0 : Int32)), .unset, .unset, .unset, .unset, .unset]) rfl (pc' := 9) rfl ?_
  refine own_aloadN X19 hx hby d_14_11__9 rfl rfl (pc' := 10) rfl ?_
  refine own_getF X19 hx hby hZ hown (host := "") (Or.inl (own_w hw 23 rfl)) Via.refl e19 H0 d_14_11__10 (pc' := 13) rfl ?_
  intro T20 X20 e20
  refine own_aloadN X20 hx hby d_14_11__13 rfl rfl (pc' := 14) rfl ?_
  refine own_callU X20 hx hby hZ (by exact hml) hown (x0 := (⟨"com/example/collectary/collectary/broker/Grid$Axis", "ordinal", "()I"⟩ : MethodName)) (y := (⟨"java/lang/Enum", "ordinal", "()I"⟩ : MethodName)) (own_w hw 52 rfl) (own_w hw 53 rfl) (own_w hw 54 rfl) (own_w hw 56 rfl) (own_w hw 55 rfl) (own_w hw 57 rfl) (own_w hw 58 rfl) (by decide) e20 1 (by decide) (by decide) (by decide) (by decide) (argsL := []) (rest := [(.ref cu)]) (lenOf pd___I rfl) rfl (Nat.le_of_eq rfl) Exx (rmO l Z a0 hw aC (1 : Int32) h0 Fo) d_14_11__14 (pc' := 17) rfl ?_
  intro v21 T21 L21 X21 hQ21
  obtain ⟨rfl, rfl, e21⟩ := hQ21
  rw [List.append_nil] at X21
  replace e21 : T21.heap = h0 := e21
  show GoP p e below Φ (T21.setTop (mkF m 17 #[.val (.ref g), .val (.ref aC), .val (.int pt), .val (.int (0 : Int32)), .unset, .unset, .unset, .unset, .unset] [(.int (1 : Int32)), (.ref cu)]))
  refine own_aaload X21 hx hby hZ e21 H2 rfl (by decide) (v := (.ref c1)) rfl d_14_11__17 (pc' := 18) rfl ?_
  refine own_astore X21 hx hby d_14_11__18 rfl (Ls' := #[.val (.ref g), .val (.ref aC), .val (.int pt), .val (.int (0 : Int32)), .val (.ref c1), .unset, .unset, .unset, .unset]) rfl (pc' := 20) rfl ?_
  refine own_aload X21 hx hby d_14_11__20 rfl rfl (pc' := 22) rfl ?_
  refine own_alen X21 hx hby hZ e21 (n := (1 : Int32)) H5 rfl d_14_11__22 (pc' := 23) rfl ?_
  refine own_iconst X21 hx hby d_14_11__23 (v := (1 : Int32)) rfl (pc' := 24) rfl ?_
  refine own_iadd X21 hx hby d_14_11__24 (pc' := 25) rfl ?_
  show GoP p e below Φ (T21.setTop (mkF m 25 #[.val (.ref g), .val (.ref aC), .val (.int pt), .val (.int (0 : Int32)), .val (.ref c1), .unset, .unset, .unset, .unset] [(.int (2 : Int32))]))
  refine own_newI X21 hx hby hZ (own_w hw 17 rfl) e21 (by decide) 2 (by decide) (by decide) (by decide) (by decide) d_14_11__25 (pc' := 27) rfl ?_
  intro T22 h22 b22 X22 e22 E22 g22 V22 I22 A22
  have ne_cu_b22 : cu ≠ b22 := Nat.ne_of_lt (g22 ▸ H2.lt)
  have ne_rl_b22 : rl ≠ b22 := Nat.ne_of_lt (g22 ▸ H6.lt)
  have ne_es_b22 : es ≠ b22 := Nat.ne_of_lt (g22 ▸ H10.lt)
  have V23_cu := H2.ext E22
  have Y24_cu := H3.ext E22
  have E25_rl := H6.ext E22
  have F26_modCount := H7.ext E22
  have F27_elementData := H8.ext E22
  have F28_size := H9.ext E22
  have V29_es := H10.ext E22
  have Y30_es := H11.ext E22
  have Z22 : n0 ≤ h22.size := Nat.le_trans Z0 E22.1
  have n0_b22 : n0 ≤ b22 := g22 ▸ Z0
  have sz_b22 : h0.size ≤ b22 := g22 ▸ K0.1
  have K22 : Keep h0 h22 [cu, rl, es] := K0.ext E22
  replace V22 : AV Z h22 b22 .int [(.int (0 : Int32)), (.int (0 : Int32))] := V22
  show GoP p e below Φ (T22.setTop (mkF m 27 #[.val (.ref g), .val (.ref aC), .val (.int pt), .val (.int (0 : Int32)), .val (.ref c1), .unset, .unset, .unset, .unset] [(.ref b22)]))
  refine own_astore X22 hx hby d_14_11__27 rfl (Ls' := #[.val (.ref g), .val (.ref aC), .val (.int pt), .val (.int (0 : Int32)), .val (.ref c1), .val (.ref b22), .unset, .unset, .unset]) rfl (pc' := 29) rfl ?_
  refine own_aload X22 hx hby d_14_11__29 rfl rfl (pc' := 31) rfl ?_
  refine own_iconst X22 hx hby d_14_11__31 (v := (0 : Int32)) rfl (pc' := 32) rfl ?_
  refine own_aload X22 hx hby d_14_11__32 rfl rfl (pc' := 34) rfl ?_
  refine own_iconst X22 hx hby d_14_11__34 (v := (0 : Int32)) rfl (pc' := 35) rfl ?_
  refine own_iloadN X22 hx hby d_14_11__35 rfl (pc' := 36) rfl ?_
  refine own_copyV X22 hx hby (dv := (.int 0)) hZ (by exact hml) hown (own_w hw 114 rfl) (own_w hw 117 rfl) (own_w hw 115 rfl) (own_w hw 116 rfl) e22 (H5.keep K22 nin_c1) V22 rfl rfl rfl (by decide) (by decide) (by decide) (Nat.le_of_ble_eq_true rfl) (Nat.le_of_ble_eq_true rfl) N0 n0_b22 (by decide) 0 (Nat.le_of_eq rfl) (by decide) d_14_11__36 (pc' := 39) rfl ?_
  intro T31 h31 L31 X31 e31 Nn31 K31 V31
  replace V31 : AV Z h31 b22 .int [(.int (0 : Int32)), (.int (0 : Int32))] := V31
  have V32_cu := V23_cu.keep K31 (ninS ne_cu_b22 nin0)
  have Y33_cu := Y24_cu.keep K31 
  have E34_rl := E25_rl.keep K31 
  have F35_modCount := F26_modCount.keep K31 (ninS ne_rl_b22 nin0)
  have F36_elementData := F27_elementData.keep K31 (ninS ne_rl_b22 nin0)
  have F37_size := F28_size.keep K31 (ninS ne_rl_b22 nin0)
  have V38_es := V29_es.keep K31 (ninS ne_es_b22 nin0)
  have Y39_es := Y30_es.keep K31 
  have E40_b22 := A22.keep K31 
  have KC31 : Keep h0 h31 [cu, rl, es] := K22.trans K31 (allS (Or.inr sz_b22) all0)
  have ZC31 : n0 ≤ h31.size := Nat.le_trans Z22 K31.1
  refine own_aload X31 hx hby d_14_11__39 rfl rfl (pc' := 41) rfl ?_
  refine own_iloadN X31 hx hby d_14_11__41 rfl (pc' := 42) rfl ?_
  refine own_iloadN X31 hx hby d_14_11__42 rfl (pc' := 43) rfl ?_
  refine own_iastore X31 hx hby hZ e31 V31 (by decide) (Nat.le_of_ble_eq_true rfl) d_14_11__43 (pc' := 44) rfl ?_
  intro T41 h41 X41 e41 W41 V41
  replace V41 : AV Z h41 b22 .int [(.int pt), (.int (0 : Int32))] := V41
  have V42_cu := V32_cu.other W41 ne_cu_b22
  have Y43_cu := Y33_cu.wr W41
  have E44_rl := E34_rl.wr W41
  have F45_modCount := F35_modCount.other W41 (Or.inl ne_rl_b22)
  have F46_elementData := F36_elementData.other W41 (Or.inl ne_rl_b22)
  have F47_size := F37_size.other W41 (Or.inl ne_rl_b22)
  have V48_es := V38_es.other W41 ne_es_b22
  have Y49_es := Y39_es.wr W41
  have E51_b22 := E40_b22.wr W41
  have Z41 : n0 ≤ h41.size := by rw [W41.size]; exact ZC31
  have N41 := Fr.snoc X41 Nn31 n0_b22
  have K41 : Keep h0 h41 [cu, rl, es] := KC31.wr W41 (Or.inr sz_b22)
  refine own_aload X41 hx hby d_14_11__44 rfl rfl (pc' := 46) rfl ?_
  refine own_iloadN X41 hx hby d_14_11__46 rfl (pc' := 47) rfl ?_
  refine own_aload X41 hx hby d_14_11__47 rfl rfl (pc' := 49) rfl ?_
  refine own_iloadN X41 hx hby d_14_11__49 rfl (pc' := 50) rfl ?_
  refine own_iconst X41 hx hby d_14_11__50 (v := (1 : Int32)) rfl (pc' := 51) rfl ?_
  refine own_iadd X41 hx hby d_14_11__51 (pc' := 52) rfl ?_
  show GoP p e below Φ (T41.setTop (mkF m 52 #[.val (.ref g), .val (.ref aC), .val (.int pt), .val (.int (0 : Int32)), .val (.ref c1), .val (.ref b22), .unset, .unset, .unset] [(.int (1 : Int32)), (.ref b22), (.int (0 : Int32)), (.ref c1)]))
  refine own_aload X41 hx hby d_14_11__52 rfl rfl (pc' := 54) rfl ?_
  refine own_alen X41 hx hby hZ e41 (n := (1 : Int32)) (H5.keep K41 nin_c1) rfl d_14_11__54 (pc' := 55) rfl ?_
  refine own_iloadN X41 hx hby d_14_11__55 rfl (pc' := 56) rfl ?_
  refine own_isub X41 hx hby d_14_11__56 (pc' := 57) rfl ?_
  show GoP p e below Φ (T41.setTop (mkF m 57 #[.val (.ref g), .val (.ref aC), .val (.int pt), .val (.int (0 : Int32)), .val (.ref c1), .val (.ref b22), .unset, .unset, .unset] [(.int (1 : Int32)), (.int (1 : Int32)), (.ref b22), (.int (0 : Int32)), (.ref c1)]))
  refine own_copyV X41 hx hby (dv := (.int 0)) hZ (by exact hml) hown (own_w hw 114 rfl) (own_w hw 117 rfl) (own_w hw 115 rfl) (own_w hw 116 rfl) e41 (H5.keep K41 nin_c1) V41 rfl rfl rfl (by decide) (by decide) (by decide) (Nat.le_of_ble_eq_true rfl) (Nat.le_of_ble_eq_true rfl) N41 n0_b22 (by decide) 0 (Nat.le_of_eq rfl) (by decide) d_14_11__57 (pc' := 60) rfl ?_
  intro T52 h52 L52 X52 e52 Nn52 K52 V52
  replace V52 : AV Z h52 b22 .int [(.int pt), (.int q)] := V52
  have V53_cu := V42_cu.keep K52 (ninS ne_cu_b22 nin0)
  have Y54_cu := Y43_cu.keep K52 
  have E55_rl := E44_rl.keep K52 
  have F56_modCount := F45_modCount.keep K52 (ninS ne_rl_b22 nin0)
  have F57_elementData := F46_elementData.keep K52 (ninS ne_rl_b22 nin0)
  have F58_size := F47_size.keep K52 (ninS ne_rl_b22 nin0)
  have V59_es := V48_es.keep K52 (ninS ne_es_b22 nin0)
  have Y60_es := Y49_es.keep K52 
  have E61_b22 := E51_b22.keep K52 
  have KC52 : Keep h0 h52 [cu, rl, es] := K41.trans K52 (allS (Or.inr sz_b22) all0)
  have ZC52 : n0 ≤ h52.size := Nat.le_trans Z41 K52.1
  refine own_aloadN X52 hx hby d_14_11__60 rfl rfl (pc' := 61) rfl ?_
  refine own_getF X52 hx hby hZ hown (host := "") (Or.inl (own_w hw 23 rfl)) Via.refl e52 (H0.keep KC52 nin_g) d_14_11__61 (pc' := 64) rfl ?_
  intro T62 X62 e62
  refine own_aloadN X62 hx hby d_14_11__64 rfl rfl (pc' := 65) rfl ?_
  refine own_callU X62 hx hby hZ (by exact hml) hown (x0 := (⟨"com/example/collectary/collectary/broker/Grid$Axis", "ordinal", "()I"⟩ : MethodName)) (y := (⟨"java/lang/Enum", "ordinal", "()I"⟩ : MethodName)) (own_w hw 52 rfl) (own_w hw 53 rfl) (own_w hw 54 rfl) (own_w hw 56 rfl) (own_w hw 55 rfl) (own_w hw 57 rfl) (own_w hw 58 rfl) (by decide) e62 1 (by decide) (by decide) (by decide) (by decide) (argsL := []) (rest := [(.ref cu)]) (lenOf pd___I rfl) rfl (Nat.le_of_eq rfl) (Exx.keep KC52) (rmO l Z a0 hw aC (1 : Int32) h52 (Fo.keep KC52 nin_aC)) d_14_11__65 (pc' := 68) rfl ?_
  intro v63 T63 L63 X63 hQ63
  obtain ⟨rfl, rfl, e63⟩ := hQ63
  rw [List.append_nil] at X63
  replace e63 : T63.heap = h52 := e63
  show GoP p e below Φ (T63.setTop (mkF m 68 #[.val (.ref g), .val (.ref aC), .val (.int pt), .val (.int (0 : Int32)), .val (.ref c1), .val (.ref b22), .unset, .unset, .unset] [(.int (1 : Int32)), (.ref cu)]))
  refine own_aload X63 hx hby d_14_11__68 rfl rfl (pc' := 70) rfl ?_
  refine own_aastore X63 hx hby hZ e63 V53_cu rfl (own_sto V53_cu Y54_cu (Ins.self E61_b22)) (by decide) (Nat.le_of_ble_eq_true rfl) d_14_11__70 (pc' := 71) rfl ?_
  intro T64 h64 X64 e64 W64 V64
  replace V64 : AV Z h64 cu (.array .int) [(.ref c0), (.ref b22)] := V64
  have Y66_cu := Y54_cu.wr W64
  have E67_rl := E55_rl.wr W64
  have F68_modCount := F56_modCount.other W64 (Or.inl ne5_rl_cu)
  have F69_elementData := F57_elementData.other W64 (Or.inl ne5_rl_cu)
  have F70_size := F58_size.other W64 (Or.inl ne5_rl_cu)
  have V71_es := V59_es.other W64 ne6_es_cu
  have Y72_es := Y60_es.wr W64
  have V73_b22 := V52.other W64 (Ne.symm ne_cu_b22)
  have E74_b22 := E61_b22.wr W64
  have Z64 : n0 ≤ h64.size := by rw [W64.size]; exact ZC52
  have N64 := Fr.snoc X64 Nn52 n0_cu
  have K64 : Keep h0 h64 [cu, rl, es] := KC52.wr W64 (Or.inl (List.mem_of_getElem? (i := 0) rfl))
  refine own_aloadN X64 hx hby d_14_11__71 rfl rfl (pc' := 72) rfl ?_
  refine own_getS X64 hx hby hZ hown (host := "") (Or.inl (own_w hw 51 rfl)) Via.refl e64 (own_stakeep SW K64 plain_ws) d_14_11__72 (pc' := 75) rfl ?_
  intro T75 X75 e75
  refine own_acmp X75 hx hby d_14_11__75 rfl rfl (same := false) (decide_eq_false (fun q => ne_aC_aW (Value.ref.inj q))) (by decide) (pc' := 112) (by decide) ?_
  refine own_iconst X75 hx hby d_14_11__112 (v := (0 : Int32)) rfl (pc' := 113) rfl ?_
  refine own_istore X75 hx hby d_14_11__113  (Ls' := #[.val (.ref g), .val (.ref aC), .val (.int pt), .val (.int (0 : Int32)), .val (.ref c1), .val (.ref b22), .val (.int (0 : Int32)), .unset, .unset]) rfl (pc' := 115) rfl ?_
  refine own_iload X75 hx hby d_14_11__115 rfl (pc' := 117) rfl ?_
  refine own_aloadN X75 hx hby d_14_11__117 rfl rfl (pc' := 118) rfl ?_
  refine own_getF X75 hx hby hZ hown (host := "") (Or.inl (own_w hw 49 rfl)) Via.refl e75 (H1.keep K64 nin_g) d_14_11__118 (pc' := 121) rfl ?_
  intro T76 X76 e76
  refine own_callF X76 hx hby hZ (by exact hml) hown (x0 := (⟨"java/util/List", "size", "()I"⟩ : MethodName)) (y := (⟨"java/util/ArrayList", "size", "()I"⟩ : MethodName)) (own_w hw 160 rfl) (own_w hw 161 rfl) (own_w hw 162 rfl) (own_w hw 163 rfl) (own_w hw 164 rfl) (own_w hw 165 rfl) (own_w hw 166 rfl) (own_w hw 69 rfl) (own_w hw 27 rfl) rfl (own_w hw 167 rfl) (by decide) e76 1 (by decide) (by decide) (by decide) (by decide) (argsL := []) (rest := [(.int (0 : Int32))]) (lenOf pd___I rfl) rfl (Nat.le_of_eq rfl) E67_rl (rmSz l Z a0 hw rl (1 : Int32) h64 F70_size) d_14_11__121 (pc' := 126) rfl ?_
  intro v77 T77 L77 X77 hQ77
  obtain ⟨rfl, rfl, e77⟩ := hQ77
  rw [List.append_nil] at X77
  replace e77 : T77.heap = h64 := e77
  show GoP p e below Φ (T77.setTop (mkF m 126 #[.val (.ref g), .val (.ref aC), .val (.int pt), .val (.int (0 : Int32)), .val (.ref c1), .val (.ref b22), .val (.int (0 : Int32)), .unset, .unset] [(.int (1 : Int32)), (.int (0 : Int32))]))
  refine own_icmpN X77 hx hby d_14_11__126 (tlt (by decide)).2.1 (pc' := 129) rfl ?_
  refine own_aloadN X77 hx hby d_14_11__129 rfl rfl (pc' := 130) rfl ?_
  refine own_getF X77 hx hby hZ hown (host := "") (Or.inl (own_w hw 49 rfl)) Via.refl e77 (H1.keep K64 nin_g) d_14_11__130 (pc' := 133) rfl ?_
  intro T78 X78 e78
  refine own_iload X78 hx hby d_14_11__133 rfl (pc' := 135) rfl ?_
  refine own_callF X78 hx hby hZ (by exact hml) hown (x0 := (⟨"java/util/List", "get", "(I)Ljava/lang/Object;"⟩ : MethodName)) (y := (⟨"java/util/ArrayList", "get", "(I)Ljava/lang/Object;"⟩ : MethodName)) (own_w hw 118 rfl) (own_w hw 119 rfl) (own_w hw 120 rfl) (own_w hw 121 rfl) (own_w hw 122 rfl) (own_w hw 123 rfl) (own_w hw 124 rfl) (own_w hw 69 rfl) (own_w hw 27 rfl) rfl (own_w hw 125 rfl) (by decide) e78 0 (by decide) (by decide) (by decide) (by decide) (argsL := [(.int (0 : Int32))]) (rest := []) (lenOf pd__I_Ljava_lang_Object_ rfl) rfl (Nat.le_of_eq rfl) E67_rl (rmG0 l Z a0 hw rl es r0 (1 : Int32) .null .null .null .null .null .null .null .null .null h64 (by decide) E67_rl F70_size F69_elementData V71_es) d_14_11__135 (pc' := 140) rfl ?_
  intro v79 T79 L79 X79 hQ79
  obtain ⟨rfl, rfl, e79⟩ := hQ79
  rw [List.append_nil] at X79
  replace e79 : T79.heap = h64 := e79
  show GoP p e below Φ (T79.setTop (mkF m 140 #[.val (.ref g), .val (.ref aC), .val (.int pt), .val (.int (0 : Int32)), .val (.ref c1), .val (.ref b22), .val (.int (0 : Int32)), .unset, .unset] [(.ref r0)]))
  obtain ⟨T80, X80, e80, st80⟩ := castY X79 hx hZ hown (own_w hw 20 rfl) e79 (Ins.self (H13.keep K64)) (g := (mkF m 140 #[.val (.ref g), .val (.ref aC), .val (.int pt), .val (.int (0 : Int32)), .val (.ref c1), .val (.ref b22), .val (.int (0 : Int32)), .unset, .unset] [(.ref r0)])) rfl rfl (hb hby d_14_11__140)
  refine own_step st80 ?_
  show GoP p e below Φ (T80.setTop (mkF m 143 #[.val (.ref g), .val (.ref aC), .val (.int pt), .val (.int (0 : Int32)), .val (.ref c1), .val (.ref b22), .val (.int (0 : Int32)), .unset, .unset] [(.ref r0)]))
  refine own_astore X80 hx hby d_14_11__143 rfl (Ls' := #[.val (.ref g), .val (.ref aC), .val (.int pt), .val (.int (0 : Int32)), .val (.ref c1), .val (.ref b22), .val (.int (0 : Int32)), .val (.ref r0), .unset]) rfl (pc' := 145) rfl ?_
  refine own_aload X80 hx hby d_14_11__145 rfl rfl (pc' := 147) rfl ?_
  refine own_alen X80 hx hby hZ e80 (n := (2 : Int32)) (H12.keep K64 nin_r0) rfl d_14_11__147 (pc' := 148) rfl ?_
  refine own_iconst X80 hx hby d_14_11__148 (v := (1 : Int32)) rfl (pc' := 149) rfl ?_
  refine own_iadd X80 hx hby d_14_11__149 (pc' := 150) rfl ?_
  show GoP p e below Φ (T80.setTop (mkF m 150 #[.val (.ref g), .val (.ref aC), .val (.int pt), .val (.int (0 : Int32)), .val (.ref c1), .val (.ref b22), .val (.int (0 : Int32)), .val (.ref r0), .unset] [(.int (3 : Int32))]))
  refine own_newI X80 hx hby hZ (own_w hw 17 rfl) e80 (by decide) 3 (by decide) (by decide) (by decide) (by decide) d_14_11__150 (pc' := 152) rfl ?_
  intro T81 h81 b81 X81 e81 E81 g81 V81 I81 A81
  have ne_cu_b81 : cu ≠ b81 := Nat.ne_of_lt (g81 ▸ V64.lt)
  have ne_rl_b81 : rl ≠ b81 := Nat.ne_of_lt (g81 ▸ E67_rl.lt)
  have ne_es_b81 : es ≠ b81 := Nat.ne_of_lt (g81 ▸ V71_es.lt)
  have ne_b22_b81 : b22 ≠ b81 := Nat.ne_of_lt (g81 ▸ V73_b22.lt)
  have V82_cu := V64.ext E81
  have Y83_cu := Y66_cu.ext E81
  have E84_rl := E67_rl.ext E81
  have F85_modCount := F68_modCount.ext E81
  have F86_elementData := F69_elementData.ext E81
  have F87_size := F70_size.ext E81
  have V88_es := V71_es.ext E81
  have Y89_es := Y72_es.ext E81
  have V90_b22 := V73_b22.ext E81
  have E91_b22 := E74_b22.ext E81
  have Z81 : n0 ≤ h81.size := Nat.le_trans Z64 E81.1
  have n0_b81 : n0 ≤ b81 := g81 ▸ Z64
  have sz_b81 : h0.size ≤ b81 := g81 ▸ K64.1
  have K81 : Keep h0 h81 [cu, rl, es] := K64.ext E81
  replace V81 : AV Z h81 b81 .int [(.int (0 : Int32)), (.int (0 : Int32)), (.int (0 : Int32))] := V81
  show GoP p e below Φ (T81.setTop (mkF m 152 #[.val (.ref g), .val (.ref aC), .val (.int pt), .val (.int (0 : Int32)), .val (.ref c1), .val (.ref b22), .val (.int (0 : Int32)), .val (.ref r0), .unset] [(.ref b81)]))
  refine own_astore X81 hx hby d_14_11__152 rfl (Ls' := #[.val (.ref g), .val (.ref aC), .val (.int pt), .val (.int (0 : Int32)), .val (.ref c1), .val (.ref b22), .val (.int (0 : Int32)), .val (.ref r0), .val (.ref b81)]) rfl (pc' := 154) rfl ?_
  refine own_aload X81 hx hby d_14_11__154 rfl rfl (pc' := 156) rfl ?_
  refine own_iconst X81 hx hby d_14_11__156 (v := (0 : Int32)) rfl (pc' := 157) rfl ?_
  refine own_aload X81 hx hby d_14_11__157 rfl rfl (pc' := 159) rfl ?_
  refine own_iconst X81 hx hby d_14_11__159 (v := (0 : Int32)) rfl (pc' := 160) rfl ?_
  refine own_iloadN X81 hx hby d_14_11__160 rfl (pc' := 161) rfl ?_
  refine own_iconst X81 hx hby d_14_11__161 (v := (1 : Int32)) rfl (pc' := 162) rfl ?_
  refine own_iadd X81 hx hby d_14_11__162 (pc' := 163) rfl ?_
  show GoP p e below Φ (T81.setTop (mkF m 163 #[.val (.ref g), .val (.ref aC), .val (.int pt), .val (.int (0 : Int32)), .val (.ref c1), .val (.ref b22), .val (.int (0 : Int32)), .val (.ref r0), .val (.ref b81)] [(.int (1 : Int32)), (.int (0 : Int32)), (.ref b81), (.int (0 : Int32)), (.ref r0)]))
  refine own_copyV X81 hx hby (dv := (.int 0)) hZ (by exact hml) hown (own_w hw 114 rfl) (own_w hw 117 rfl) (own_w hw 115 rfl) (own_w hw 116 rfl) e81 (H12.keep K81 nin_r0) V81 rfl rfl rfl (by decide) (by decide) (by decide) (Nat.le_of_ble_eq_true rfl) (Nat.le_of_ble_eq_true rfl) N64 n0_b81 (by decide) 0 (Nat.le_of_eq rfl) (by decide) d_14_11__163 (pc' := 166) rfl ?_
  intro T92 h92 L92 X92 e92 Nn92 K92 V92
  replace V92 : AV Z h92 b81 .int [(.int (0 : Int32)), (.int (0 : Int32)), (.int (0 : Int32))] := V92
  have V93_cu := V82_cu.keep K92 (ninS ne_cu_b81 nin0)
  have Y94_cu := Y83_cu.keep K92 
  have E95_rl := E84_rl.keep K92 
  have F96_modCount := F85_modCount.keep K92 (ninS ne_rl_b81 nin0)
  have F97_elementData := F86_elementData.keep K92 (ninS ne_rl_b81 nin0)
  have F98_size := F87_size.keep K92 (ninS ne_rl_b81 nin0)
  have V99_es := V88_es.keep K92 (ninS ne_es_b81 nin0)
  have Y100_es := Y89_es.keep K92 
  have V101_b22 := V90_b22.keep K92 (ninS ne_b22_b81 nin0)
  have E102_b22 := E91_b22.keep K92 
  have E103_b81 := A81.keep K92 
  have KC92 : Keep h0 h92 [cu, rl, es] := K81.trans K92 (allS (Or.inr sz_b81) all0)
  have ZC92 : n0 ≤ h92.size := Nat.le_trans Z81 K92.1
  refine own_aload X92 hx hby d_14_11__166 rfl rfl (pc' := 168) rfl ?_
  refine own_iloadN X92 hx hby d_14_11__168 rfl (pc' := 169) rfl ?_
  refine own_aload X92 hx hby d_14_11__169 rfl rfl (pc' := 171) rfl ?_
  refine own_iloadN X92 hx hby d_14_11__171 rfl (pc' := 172) rfl ?_
  refine own_iconst X92 hx hby d_14_11__172 (v := (1 : Int32)) rfl (pc' := 173) rfl ?_
  refine own_iadd X92 hx hby d_14_11__173 (pc' := 174) rfl ?_
  show GoP p e below Φ (T92.setTop (mkF m 174 #[.val (.ref g), .val (.ref aC), .val (.int pt), .val (.int (0 : Int32)), .val (.ref c1), .val (.ref b22), .val (.int (0 : Int32)), .val (.ref r0), .val (.ref b81)] [(.int (1 : Int32)), (.ref b81), (.int (0 : Int32)), (.ref r0)]))
  refine own_aload X92 hx hby d_14_11__174 rfl rfl (pc' := 176) rfl ?_
  refine own_alen X92 hx hby hZ e92 (n := (2 : Int32)) (H12.keep KC92 nin_r0) rfl d_14_11__176 (pc' := 177) rfl ?_
  refine own_iloadN X92 hx hby d_14_11__177 rfl (pc' := 178) rfl ?_
  refine own_isub X92 hx hby d_14_11__178 (pc' := 179) rfl ?_
  show GoP p e below Φ (T92.setTop (mkF m 179 #[.val (.ref g), .val (.ref aC), .val (.int pt), .val (.int (0 : Int32)), .val (.ref c1), .val (.ref b22), .val (.int (0 : Int32)), .val (.ref r0), .val (.ref b81)] [(.int (2 : Int32)), (.int (1 : Int32)), (.ref b81), (.int (0 : Int32)), (.ref r0)]))
  refine own_copyV X92 hx hby (dv := (.int 0)) hZ (by exact hml) hown (own_w hw 114 rfl) (own_w hw 117 rfl) (own_w hw 115 rfl) (own_w hw 116 rfl) e92 (H12.keep KC92 nin_r0) V92 rfl rfl rfl (by decide) (by decide) (by decide) (Nat.le_of_ble_eq_true rfl) (Nat.le_of_ble_eq_true rfl) Nn92 n0_b81 (by decide) 0 (Nat.le_of_eq rfl) (by decide) d_14_11__179 (pc' := 182) rfl ?_
  intro T104 h104 L104 X104 e104 Nn104 K104 V104
  replace V104 : AV Z h104 b81 .int [(.int (0 : Int32)), (.int (0 : Int32)), (.int (0 : Int32))] := V104
  have V105_cu := V93_cu.keep K104 (ninS ne_cu_b81 nin0)
  have Y106_cu := Y94_cu.keep K104 
  have E107_rl := E95_rl.keep K104 
  have F108_modCount := F96_modCount.keep K104 (ninS ne_rl_b81 nin0)
  have F109_elementData := F97_elementData.keep K104 (ninS ne_rl_b81 nin0)
  have F110_size := F98_size.keep K104 (ninS ne_rl_b81 nin0)
  have V111_es := V99_es.keep K104 (ninS ne_es_b81 nin0)
  have Y112_es := Y100_es.keep K104 
  have V113_b22 := V101_b22.keep K104 (ninS ne_b22_b81 nin0)
  have E114_b22 := E102_b22.keep K104 
  have E115_b81 := E103_b81.keep K104 
  have KC104 : Keep h0 h104 [cu, rl, es] := KC92.trans K104 (allS (Or.inr sz_b81) all0)
  have ZC104 : n0 ≤ h104.size := Nat.le_trans ZC92 K104.1
  refine own_aloadN X104 hx hby d_14_11__182 rfl rfl (pc' := 183) rfl ?_
  refine own_getF X104 hx hby hZ hown (host := "") (Or.inl (own_w hw 49 rfl)) Via.refl e104 (H1.keep KC104 nin_g) d_14_11__183 (pc' := 186) rfl ?_
  intro T116 X116 e116
  refine own_iload X116 hx hby d_14_11__186 rfl (pc' := 188) rfl ?_
  refine own_aload X116 hx hby d_14_11__188 rfl rfl (pc' := 190) rfl ?_
  refine own_callF X116 hx hby hZ (by exact hml) hown (x0 := (⟨"java/util/List", "set", "(ILjava/lang/Object;)Ljava/lang/Object;"⟩ : MethodName)) (y := (⟨"java/util/ArrayList", "set", "(ILjava/lang/Object;)Ljava/lang/Object;"⟩ : MethodName)) (own_w hw 168 rfl) (own_w hw 169 rfl) (own_w hw 170 rfl) (own_w hw 171 rfl) (own_w hw 172 rfl) (own_w hw 173 rfl) (own_w hw 174 rfl) (own_w hw 69 rfl) (own_w hw 27 rfl) rfl (own_w hw 175 rfl) (by decide) e116 0 (by decide) (by decide) (by decide) (by decide) (argsL := [(.int (0 : Int32)), (.ref b81)]) (rest := []) (lenOf pd__ILjava_lang_Object__Ljava_lang_Object_ rfl) rfl (Nat.le_of_eq rfl) E107_rl (rmS0 l Z a0 hw rl es r0 b81 (1 : Int32) .null .null .null .null .null .null .null .null .null n0 h104 n0_es (Ne.symm ne12_es_rl) (Ne.symm ne_es_b81) (by decide) Y112_es E115_b81 E107_rl F110_size F109_elementData V111_es) d_14_11__190 (pc' := 195) rfl ?_
  intro v117 T117 L117 X117 hQ117
  obtain ⟨rfl, Nq117, K117, V117⟩ := hQ117
  have V118_cu := V105_cu.keep K117 (ninS (Ne.symm ne6_es_cu) nin0)
  have Y119_cu := Y106_cu.keep K117
  have E120_rl := E107_rl.keep K117
  have F121_modCount := F108_modCount.keep K117 (ninS (Ne.symm ne12_es_rl) nin0)
  have F122_elementData := F109_elementData.keep K117 (ninS (Ne.symm ne12_es_rl) nin0)
  have F123_size := F110_size.keep K117 (ninS (Ne.symm ne12_es_rl) nin0)
  have Y124_es := Y112_es.keep K117
  have V125_b22 := V113_b22.keep K117 (ninS (Ne.symm ne_es_b22) nin0)
  have E126_b22 := E114_b22.keep K117
  have V127_b81 := V104.keep K117 (ninS (Ne.symm ne_es_b81) nin0)
  have E128_b81 := E115_b81.keep K117
  have N117 := Fr.app Nn104 Nq117
  have Z117 : n0 ≤ T117.heap.size := Nat.le_trans ZC104 K117.1
  have KK117 : Keep h0 T117.heap [cu, rl, es] := KC104.trans K117 (allS (Or.inl (List.mem_of_getElem? (i := 2) rfl)) all0)
  show GoP p e below Φ (T117.setTop (mkF m 195 #[.val (.ref g), .val (.ref aC), .val (.int pt), .val (.int (0 : Int32)), .val (.ref c1), .val (.ref b22), .val (.int (0 : Int32)), .val (.ref r0), .val (.ref b81)] [(.ref r0)]))
  refine own_pop X117 hx hby d_14_11__195 rfl (pc' := 196) rfl ?_
  refine own_iinc X117 hx hby d_14_11__196 rfl (v := (1 : Int32)) rfl (Ls' := #[.val (.ref g), .val (.ref aC), .val (.int pt), .val (.int (0 : Int32)), .val (.ref c1), .val (.ref b22), .val (.int (1 : Int32)), .val (.ref r0), .val (.ref b81)]) rfl (pc' := 199) rfl ?_
  refine own_goto X117 hx hby d_14_11__199 (by decide) (pc' := 115) (by decide) ?_
  refine own_iload X117 hx hby d_14_11__115 rfl (pc' := 117) rfl ?_
  refine own_aloadN X117 hx hby d_14_11__117 rfl rfl (pc' := 118) rfl ?_
  refine own_getF X117 hx hby hZ hown (host := "") (Or.inl (own_w hw 49 rfl)) Via.refl rfl (H1.keep KK117 nin_g) d_14_11__118 (pc' := 121) rfl ?_
  intro T129 X129 e129
  refine own_callF X129 hx hby hZ (by exact hml) hown (x0 := (⟨"java/util/List", "size", "()I"⟩ : MethodName)) (y := (⟨"java/util/ArrayList", "size", "()I"⟩ : MethodName)) (own_w hw 160 rfl) (own_w hw 161 rfl) (own_w hw 162 rfl) (own_w hw 163 rfl) (own_w hw 164 rfl) (own_w hw 165 rfl) (own_w hw 166 rfl) (own_w hw 69 rfl) (own_w hw 27 rfl) rfl (own_w hw 167 rfl) (by decide) e129 1 (by decide) (by decide) (by decide) (by decide) (argsL := []) (rest := [(.int (1 : Int32))]) (lenOf pd___I rfl) rfl (Nat.le_of_eq rfl) E120_rl (rmSz l Z a0 hw rl (1 : Int32) T117.heap F123_size) d_14_11__121 (pc' := 126) rfl ?_
  intro v130 T130 L130 X130 hQ130
  obtain ⟨rfl, rfl, e130⟩ := hQ130
  rw [List.append_nil] at X130
  replace e130 : T130.heap = T117.heap := e130
  show GoP p e below Φ (T130.setTop (mkF m 126 #[.val (.ref g), .val (.ref aC), .val (.int pt), .val (.int (0 : Int32)), .val (.ref c1), .val (.ref b22), .val (.int (1 : Int32)), .val (.ref r0), .val (.ref b81)] [(.int (1 : Int32)), (.int (1 : Int32))]))
  refine own_icmpY X130 hx hby d_14_11__126 (flt (by decide)).2.1 (by decide) (pc' := 202) (by decide) ?_
  exact own_ret0 X130 hx hby fin hret d_14_11__202 (by decide) (by decide) (by rw [e130]; exact ⟨rfl, N117, KK117, b22, b81, (H0.keep KK117 nin_g), (H1.keep KK117 nin_g), V118_cu, Y119_cu, (H4.keep KK117 nin_c0), V125_b22, E120_rl, F121_modCount, F122_elementData, F123_size, V117, Y124_es, V127_b81, E128_b81⟩)
theorem ef_rmCut_1_1_1_0_1 (m : MethodId) (x0 : Addr) (x1 : Addr) (x2 : Int32) : entryFrame m #[(.ref x0), (.ref x1), (.int x2)] 9 = mkF m 0 #[.val (.ref x0), .val (.ref x1), .val (.int x2), .unset, .unset, .unset, .unset, .unset, .unset] [] := by first | (simp [entryFrame, mkF, argsToLocals, Value.category]; done) | rfl
set_option maxRecDepth 65536 in
set_option maxHeartbeats 40000000 in
theorem rmCut_1_1_1_0_1 (l : Launch) (Z : State) (a0 : Array Value) (hw : ∀ d ∈ tables_1, d.before a0 Z = true) (g aW aC cu c0 c1 rl es r0 : Addr) (pt q mc : Int32) (n0 : Nat) (h0 : Heap) (n0_cu : n0 ≤ cu) (n0_rl : n0 ≤ rl) (n0_es : n0 ≤ es) (Z0 : n0 ≤ h0.size) (ox : aC < n0) (hlo : ¬ (pt - (1 : Int32)) < q) (ne_aC_aW : aC ≠ aW) (Eg : Exa Z h0 g "com/example/collectary/collectary/broker/Grid") (Exx : Exa Z h0 aC "com/example/collectary/collectary/broker/Grid$Axis") (Fo : Fld Z h0 aC "java/lang/Enum" "ordinal" "I" (.int (1 : Int32))) (SW : Sta Z h0 "com/example/collectary/collectary/broker/Grid$Axis" "WORD" "Lcom/example/collectary/collectary/broker/Grid$Axis;" (.ref aW)) (H0 : Fld Z h0 g "com/example/collectary/collectary/broker/Grid" "cuts" "[[I" (.ref cu)) (H1 : Fld Z h0 g "com/example/collectary/collectary/broker/Grid" "rows" "Ljava/util/List;" (.ref rl)) (H2 : AV Z h0 cu (.array .int) [.ref c0, .ref c1]) (H3 : CM Z h0 cu "[I") (H4 : AV Z h0 c0 .int []) (H5 : AV Z h0 c1 .int [(.int q)]) (H6 : Exa Z h0 rl "java/util/ArrayList") (H7 : Fld Z h0 rl "java/util/AbstractList" "modCount" "I" (.int mc)) (H8 : Fld Z h0 rl "java/util/ArrayList" "elementData" "[Ljava/lang/Object;" (.ref es)) (H9 : Fld Z h0 rl "java/util/ArrayList" "size" "I" (.int (1 : Int32))) (H10 : AV Z h0 es (.object "java/lang/Object") [(.ref r0), .null, .null, .null, .null, .null, .null, .null, .null, .null]) (H11 : CM Z h0 es "java/lang/Object") (H12 : AV Z h0 r0 .int [(.int (0 : Int32)), (.int (0 : Int32))]) (H13 : Exa Z h0 r0 "[I") : Con l Z (⟨"com/example/collectary/collectary/broker/Grid", "addCut", "(Lcom/example/collectary/collectary/broker/Grid$Axis;I)V"⟩ : MethodName) prog_14_method_11_code 9 none [] ({ frames := 3, cells := 2, slots := 5, locals := 90 } : Room) #[(.ref g), (.ref aC), (.int pt)] h0 (fun v h L => v = none ∧ Fr n0 L ∧ Keep h0 h [cu, rl, es] ∧ ∃ cn t0 : Addr, Fld Z h g "com/example/collectary/collectary/broker/Grid" "cuts" "[[I" (.ref cu) ∧ Fld Z h g "com/example/collectary/collectary/broker/Grid" "rows" "Ljava/util/List;" (.ref rl) ∧ AV Z h cu (.array .int) [.ref c0, .ref cn] ∧ CM Z h cu "[I" ∧ AV Z h c0 .int [] ∧ AV Z h cn .int [(.int q), (.int pt)] ∧ Exa Z h rl "java/util/ArrayList" ∧ Fld Z h rl "java/util/AbstractList" "modCount" "I" (.int mc) ∧ Fld Z h rl "java/util/ArrayList" "elementData" "[Ljava/lang/Object;" (.ref es) ∧ Fld Z h rl "java/util/ArrayList" "size" "I" (.int (1 : Int32)) ∧ AV Z h es (.object "java/lang/Object") [(.ref t0), .null, .null, .null, .null, .null, .null, .null, .null, .null] ∧ CM Z h es "java/lang/Object" ∧ AV Z h t0 .int [(.int (0 : Int32)), (.int (0 : Int32)), (.int (0 : Int32))] ∧ Exa Z h t0 "[I") := by
  refine Con.of (plainFor_of_name pn_com_example_collectary_collectary_broker_Grid) ?_
  intro p e s m below meth c T X hx hby hml hown hnm hret eT hZ hsh Φ fin
  replace hown : s.vm.findClass "com/example/collectary/collectary/broker/Grid" = some m.cls := hown
  replace hml : 9 = c.maxLocals := hml.symm
  refine own_step (fun tq kq => castTop (ef_rmCut_1_1_1_0_1 m g aC pt) kq) ?_
  have N0 := Fr.nil n0
  have K0 : Keep h0 h0 [cu, rl, es] := Keep.refl h0 [cu, rl, es]
  have ne1_g_cu : g ≠ cu := own_ne_ea Eg (own_w hw 8 rfl) H2
  have ne2_aC_cu : aC ≠ cu := Nat.ne_of_lt (Nat.lt_of_lt_of_le ox n0_cu)
  have ne3_c0_cu : c0 ≠ cu := own_ne_av2 H4 H2 (by decide)
  have ne4_c1_cu : c1 ≠ cu := own_ne_av2 H5 H2 (by decide)
  have ne5_rl_cu : rl ≠ cu := own_ne_ea H6 (own_w hw 26 rfl) H2
  have ne6_es_cu : es ≠ cu := own_ne_av2 H10 H2 (by decide)
  have ne7_r0_cu : r0 ≠ cu := own_ne_av2 H12 H2 (by decide)
  have ne8_g_rl : g ≠ rl := ne_exa Eg H6 (by decide)
  have ne9_aC_rl : aC ≠ rl := Nat.ne_of_lt (Nat.lt_of_lt_of_le ox n0_rl)
  have ne10_c0_rl : c0 ≠ rl := (own_ne_ea H6 (own_w hw 26 rfl) H4).symm
  have ne11_c1_rl : c1 ≠ rl := (own_ne_ea H6 (own_w hw 26 rfl) H5).symm
  have ne12_es_rl : es ≠ rl := (own_ne_ea H6 (own_w hw 26 rfl) H10).symm
  have ne13_r0_rl : r0 ≠ rl := (own_ne_ea H6 (own_w hw 26 rfl) H12).symm
  have ne14_g_es : g ≠ es := own_ne_ea Eg (own_w hw 8 rfl) H10
  have ne15_aC_es : aC ≠ es := Nat.ne_of_lt (Nat.lt_of_lt_of_le ox n0_es)
  have ne16_c0_es : c0 ≠ es := own_ne_av2 H4 H10 (by decide)
  have ne17_c1_es : c1 ≠ es := own_ne_av2 H5 H10 (by decide)
  have ne18_r0_es : r0 ≠ es := own_ne_av2 H12 H10 (by decide)
  have nin_g : g ∉ [cu, rl, es] := (ninS ne1_g_cu (ninS ne8_g_rl (ninS ne14_g_es nin0)))
  have lt0_g := Eg.lt
  have nin_aC : aC ∉ [cu, rl, es] := (ninS ne2_aC_cu (ninS ne9_aC_rl (ninS ne15_aC_es nin0)))
  have lt0_aC := Exx.lt
  have nin_c0 : c0 ∉ [cu, rl, es] := (ninS ne3_c0_cu (ninS ne10_c0_rl (ninS ne16_c0_es nin0)))
  have lt0_c0 := H4.lt
  have nin_c1 : c1 ∉ [cu, rl, es] := (ninS ne4_c1_cu (ninS ne11_c1_rl (ninS ne17_c1_es nin0)))
  have lt0_c1 := H5.lt
  have nin_r0 : r0 ∉ [cu, rl, es] := (ninS ne7_r0_cu (ninS ne13_r0_rl (ninS ne18_r0_es nin0)))
  have lt0_r0 := H12.lt
  have plain_ws : ∀ x ∈ [cu, rl, es], ∀ c : Cell, h0[x]? = some c → c.vm.isStatics = false := (allS H2.plain (allS (own_plainE H6) (allS H10.plain all0)))
  refine own_aloadN X hx hby d_14_11__0 rfl rfl (pc' := 1) rfl ?_
  refine own_aloadN X hx hby d_14_11__1 rfl rfl (pc' := 2) rfl ?_
  refine own_iloadN X hx hby d_14_11__2 rfl (pc' := 3) rfl ?_
  refine own_iconst X hx hby d_14_11__3 (v := (1 : Int32)) rfl (pc' := 4) rfl ?_
  refine own_isub X hx hby d_14_11__4 (pc' := 5) rfl ?_
  refine own_callV X hx hby hZ (by exact hml) hown (own_w hw 102 rfl) (own_w hw 103 rfl) (own_w hw 105 rfl) (own_w hw 104 rfl) (own_w hw 9 rfl) (own_w hw 106 rfl) (by decide) eT 0 (by decide) (by decide) (by decide) (by decide) (argsL := [(.ref aC), (.int (pt - (1 : Int32)))]) (rest := []) (lenOf pd__Lcom_example_collectary_collectary_broker_Grid_Axis_I_I rfl) rfl (Nat.le_of_eq rfl) Eg (rmIv1_1 l Z a0 hw g aC cu c0 c1 q (pt - (1 : Int32)) h0 Exx Fo H0 H2 H5) d_14_11__5 (pc' := 8) rfl ?_
  intro v19 T19 L19 X19 hQ19
  obtain ⟨rfl, rfl, e19⟩ := hQ19
  rw [List.append_nil] at X19
  replace e19 : T19.heap = h0 := e19
  show GoP p e below Φ (T19.setTop (mkF m 8 #[.val (.ref g), .val (.ref aC), .val (.int pt), .unset, .unset, .unset, .unset, .unset, .unset] [(.int (if (pt - (1 : Int32)) < q then (0 : Int32) else (1 : Int32)))]))
  rw [if_neg hlo]
  refine own_istoreN X19 hx hby d_14_11__8  (Ls' := #[.val (.ref g), .val (.ref aC), .val (.int pt), .val (.int (1 : Int32)), .unset, .unset, .unset, .unset, .unset]) rfl (pc' := 9) rfl ?_
  refine own_aloadN X19 hx hby d_14_11__9 rfl rfl (pc' := 10) rfl ?_
  refine own_getF X19 hx hby hZ hown (host := "") (Or.inl (own_w hw 23 rfl)) Via.refl e19 H0 d_14_11__10 (pc' := 13) rfl ?_
  intro T20 X20 e20
  refine own_aloadN X20 hx hby d_14_11__13 rfl rfl (pc' := 14) rfl ?_
  refine own_callU X20 hx hby hZ (by exact hml) hown (x0 := (⟨"com/example/collectary/collectary/broker/Grid$Axis", "ordinal", "()I"⟩ : MethodName)) (y := (⟨"java/lang/Enum", "ordinal", "()I"⟩ : MethodName)) (own_w hw 52 rfl) (own_w hw 53 rfl) (own_w hw 54 rfl) (own_w hw 56 rfl) (own_w hw 55 rfl) (own_w hw 57 rfl) (own_w hw 58 rfl) (by decide) e20 1 (by decide) (by decide) (by decide) (by decide) (argsL := []) (rest := [(.ref cu)]) (lenOf pd___I rfl) rfl (Nat.le_of_eq rfl) Exx (rmO l Z a0 hw aC (1 : Int32) h0 Fo) d_14_11__14 (pc' := 17) rfl ?_
  intro v21 T21 L21 X21 hQ21
  obtain ⟨rfl, rfl, e21⟩ := hQ21
  rw [List.append_nil] at X21
  replace e21 : T21.heap = h0 := e21
  show GoP p e below Φ (T21.setTop (mkF m 17 #[.val (.ref g), .val (.ref aC), .val (.int pt), .val (.int (1 : Int32)), .unset, .unset, .unset, .unset, .unset] [(.int (1 : Int32)), (.ref cu)]))
  refine own_aaload X21 hx hby hZ e21 H2 rfl (by decide) (v := (.ref c1)) rfl d_14_11__17 (pc' := 18) rfl ?_
  refine own_astore X21 hx hby d_14_11__18 rfl (Ls' := #[.val (.ref g), .val (.ref aC), .val (.int pt), .val (.int (1 : Int32)), .val (.ref c1), .unset, .unset, .unset, .unset]) rfl (pc' := 20) rfl ?_
  refine own_aload X21 hx hby d_14_11__20 rfl rfl (pc' := 22) rfl ?_
  refine own_alen X21 hx hby hZ e21 (n := (1 : Int32)) H5 rfl d_14_11__22 (pc' := 23) rfl ?_
  refine own_iconst X21 hx hby d_14_11__23 (v := (1 : Int32)) rfl (pc' := 24) rfl ?_
  refine own_iadd X21 hx hby d_14_11__24 (pc' := 25) rfl ?_
  show GoP p e below Φ (T21.setTop (mkF m 25 #[.val (.ref g), .val (.ref aC), .val (.int pt), .val (.int (1 : Int32)), .val (.ref c1), .unset, .unset, .unset, .unset] [(.int (2 : Int32))]))
  refine own_newI X21 hx hby hZ (own_w hw 17 rfl) e21 (by decide) 2 (by decide) (by decide) (by decide) (by decide) d_14_11__25 (pc' := 27) rfl ?_
  intro T22 h22 b22 X22 e22 E22 g22 V22 I22 A22
  have ne_cu_b22 : cu ≠ b22 := Nat.ne_of_lt (g22 ▸ H2.lt)
  have ne_rl_b22 : rl ≠ b22 := Nat.ne_of_lt (g22 ▸ H6.lt)
  have ne_es_b22 : es ≠ b22 := Nat.ne_of_lt (g22 ▸ H10.lt)
  have V23_cu := H2.ext E22
  have Y24_cu := H3.ext E22
  have E25_rl := H6.ext E22
  have F26_modCount := H7.ext E22
  have F27_elementData := H8.ext E22
  have F28_size := H9.ext E22
  have V29_es := H10.ext E22
  have Y30_es := H11.ext E22
  have Z22 : n0 ≤ h22.size := Nat.le_trans Z0 E22.1
  have n0_b22 : n0 ≤ b22 := g22 ▸ Z0
  have sz_b22 : h0.size ≤ b22 := g22 ▸ K0.1
  have K22 : Keep h0 h22 [cu, rl, es] := K0.ext E22
  replace V22 : AV Z h22 b22 .int [(.int (0 : Int32)), (.int (0 : Int32))] := V22
  show GoP p e below Φ (T22.setTop (mkF m 27 #[.val (.ref g), .val (.ref aC), .val (.int pt), .val (.int (1 : Int32)), .val (.ref c1), .unset, .unset, .unset, .unset] [(.ref b22)]))
  refine own_astore X22 hx hby d_14_11__27 rfl (Ls' := #[.val (.ref g), .val (.ref aC), .val (.int pt), .val (.int (1 : Int32)), .val (.ref c1), .val (.ref b22), .unset, .unset, .unset]) rfl (pc' := 29) rfl ?_
  refine own_aload X22 hx hby d_14_11__29 rfl rfl (pc' := 31) rfl ?_
  refine own_iconst X22 hx hby d_14_11__31 (v := (0 : Int32)) rfl (pc' := 32) rfl ?_
  refine own_aload X22 hx hby d_14_11__32 rfl rfl (pc' := 34) rfl ?_
  refine own_iconst X22 hx hby d_14_11__34 (v := (0 : Int32)) rfl (pc' := 35) rfl ?_
  refine own_iloadN X22 hx hby d_14_11__35 rfl (pc' := 36) rfl ?_
  refine own_copyV X22 hx hby (dv := (.int 0)) hZ (by exact hml) hown (own_w hw 114 rfl) (own_w hw 117 rfl) (own_w hw 115 rfl) (own_w hw 116 rfl) e22 (H5.keep K22 nin_c1) V22 rfl rfl rfl (by decide) (by decide) (by decide) (Nat.le_of_ble_eq_true rfl) (Nat.le_of_ble_eq_true rfl) N0 n0_b22 (by decide) 0 (Nat.le_of_eq rfl) (by decide) d_14_11__36 (pc' := 39) rfl ?_
  intro T31 h31 L31 X31 e31 Nn31 K31 V31
  replace V31 : AV Z h31 b22 .int [(.int q), (.int (0 : Int32))] := V31
  have V32_cu := V23_cu.keep K31 (ninS ne_cu_b22 nin0)
  have Y33_cu := Y24_cu.keep K31 
  have E34_rl := E25_rl.keep K31 
  have F35_modCount := F26_modCount.keep K31 (ninS ne_rl_b22 nin0)
  have F36_elementData := F27_elementData.keep K31 (ninS ne_rl_b22 nin0)
  have F37_size := F28_size.keep K31 (ninS ne_rl_b22 nin0)
  have V38_es := V29_es.keep K31 (ninS ne_es_b22 nin0)
  have Y39_es := Y30_es.keep K31 
  have E40_b22 := A22.keep K31 
  have KC31 : Keep h0 h31 [cu, rl, es] := K22.trans K31 (allS (Or.inr sz_b22) all0)
  have ZC31 : n0 ≤ h31.size := Nat.le_trans Z22 K31.1
  refine own_aload X31 hx hby d_14_11__39 rfl rfl (pc' := 41) rfl ?_
  refine own_iloadN X31 hx hby d_14_11__41 rfl (pc' := 42) rfl ?_
  refine own_iloadN X31 hx hby d_14_11__42 rfl (pc' := 43) rfl ?_
  refine own_iastore X31 hx hby hZ e31 V31 (by decide) (Nat.le_of_ble_eq_true rfl) d_14_11__43 (pc' := 44) rfl ?_
  intro T41 h41 X41 e41 W41 V41
  replace V41 : AV Z h41 b22 .int [(.int q), (.int pt)] := V41
  have V42_cu := V32_cu.other W41 ne_cu_b22
  have Y43_cu := Y33_cu.wr W41
  have E44_rl := E34_rl.wr W41
  have F45_modCount := F35_modCount.other W41 (Or.inl ne_rl_b22)
  have F46_elementData := F36_elementData.other W41 (Or.inl ne_rl_b22)
  have F47_size := F37_size.other W41 (Or.inl ne_rl_b22)
  have V48_es := V38_es.other W41 ne_es_b22
  have Y49_es := Y39_es.wr W41
  have E51_b22 := E40_b22.wr W41
  have Z41 : n0 ≤ h41.size := by rw [W41.size]; exact ZC31
  have N41 := Fr.snoc X41 Nn31 n0_b22
  have K41 : Keep h0 h41 [cu, rl, es] := KC31.wr W41 (Or.inr sz_b22)
  refine own_aload X41 hx hby d_14_11__44 rfl rfl (pc' := 46) rfl ?_
  refine own_iloadN X41 hx hby d_14_11__46 rfl (pc' := 47) rfl ?_
  refine own_aload X41 hx hby d_14_11__47 rfl rfl (pc' := 49) rfl ?_
  refine own_iloadN X41 hx hby d_14_11__49 rfl (pc' := 50) rfl ?_
  refine own_iconst X41 hx hby d_14_11__50 (v := (1 : Int32)) rfl (pc' := 51) rfl ?_
  refine own_iadd X41 hx hby d_14_11__51 (pc' := 52) rfl ?_
  show GoP p e below Φ (T41.setTop (mkF m 52 #[.val (.ref g), .val (.ref aC), .val (.int pt), .val (.int (1 : Int32)), .val (.ref c1), .val (.ref b22), .unset, .unset, .unset] [(.int (2 : Int32)), (.ref b22), (.int (1 : Int32)), (.ref c1)]))
  refine own_aload X41 hx hby d_14_11__52 rfl rfl (pc' := 54) rfl ?_
  refine own_alen X41 hx hby hZ e41 (n := (1 : Int32)) (H5.keep K41 nin_c1) rfl d_14_11__54 (pc' := 55) rfl ?_
  refine own_iloadN X41 hx hby d_14_11__55 rfl (pc' := 56) rfl ?_
  refine own_isub X41 hx hby d_14_11__56 (pc' := 57) rfl ?_
  show GoP p e below Φ (T41.setTop (mkF m 57 #[.val (.ref g), .val (.ref aC), .val (.int pt), .val (.int (1 : Int32)), .val (.ref c1), .val (.ref b22), .unset, .unset, .unset] [(.int (0 : Int32)), (.int (2 : Int32)), (.ref b22), (.int (1 : Int32)), (.ref c1)]))
  refine own_copyV X41 hx hby (dv := (.int 0)) hZ (by exact hml) hown (own_w hw 114 rfl) (own_w hw 117 rfl) (own_w hw 115 rfl) (own_w hw 116 rfl) e41 (H5.keep K41 nin_c1) V41 rfl rfl rfl (by decide) (by decide) (by decide) (Nat.le_of_ble_eq_true rfl) (Nat.le_of_ble_eq_true rfl) N41 n0_b22 (by decide) 0 (Nat.le_of_eq rfl) (by decide) d_14_11__57 (pc' := 60) rfl ?_
  intro T52 h52 L52 X52 e52 Nn52 K52 V52
  replace V52 : AV Z h52 b22 .int [(.int q), (.int pt)] := V52
  have V53_cu := V42_cu.keep K52 (ninS ne_cu_b22 nin0)
  have Y54_cu := Y43_cu.keep K52 
  have E55_rl := E44_rl.keep K52 
  have F56_modCount := F45_modCount.keep K52 (ninS ne_rl_b22 nin0)
  have F57_elementData := F46_elementData.keep K52 (ninS ne_rl_b22 nin0)
  have F58_size := F47_size.keep K52 (ninS ne_rl_b22 nin0)
  have V59_es := V48_es.keep K52 (ninS ne_es_b22 nin0)
  have Y60_es := Y49_es.keep K52 
  have E61_b22 := E51_b22.keep K52 
  have KC52 : Keep h0 h52 [cu, rl, es] := K41.trans K52 (allS (Or.inr sz_b22) all0)
  have ZC52 : n0 ≤ h52.size := Nat.le_trans Z41 K52.1
  refine own_aloadN X52 hx hby d_14_11__60 rfl rfl (pc' := 61) rfl ?_
  refine own_getF X52 hx hby hZ hown (host := "") (Or.inl (own_w hw 23 rfl)) Via.refl e52 (H0.keep KC52 nin_g) d_14_11__61 (pc' := 64) rfl ?_
  intro T62 X62 e62
  refine own_aloadN X62 hx hby d_14_11__64 rfl rfl (pc' := 65) rfl ?_
  refine own_callU X62 hx hby hZ (by exact hml) hown (x0 := (⟨"com/example/collectary/collectary/broker/Grid$Axis", "ordinal", "()I"⟩ : MethodName)) (y := (⟨"java/lang/Enum", "ordinal", "()I"⟩ : MethodName)) (own_w hw 52 rfl) (own_w hw 53 rfl) (own_w hw 54 rfl) (own_w hw 56 rfl) (own_w hw 55 rfl) (own_w hw 57 rfl) (own_w hw 58 rfl) (by decide) e62 1 (by decide) (by decide) (by decide) (by decide) (argsL := []) (rest := [(.ref cu)]) (lenOf pd___I rfl) rfl (Nat.le_of_eq rfl) (Exx.keep KC52) (rmO l Z a0 hw aC (1 : Int32) h52 (Fo.keep KC52 nin_aC)) d_14_11__65 (pc' := 68) rfl ?_
  intro v63 T63 L63 X63 hQ63
  obtain ⟨rfl, rfl, e63⟩ := hQ63
  rw [List.append_nil] at X63
  replace e63 : T63.heap = h52 := e63
  show GoP p e below Φ (T63.setTop (mkF m 68 #[.val (.ref g), .val (.ref aC), .val (.int pt), .val (.int (1 : Int32)), .val (.ref c1), .val (.ref b22), .unset, .unset, .unset] [(.int (1 : Int32)), (.ref cu)]))
  refine own_aload X63 hx hby d_14_11__68 rfl rfl (pc' := 70) rfl ?_
  refine own_aastore X63 hx hby hZ e63 V53_cu rfl (own_sto V53_cu Y54_cu (Ins.self E61_b22)) (by decide) (Nat.le_of_ble_eq_true rfl) d_14_11__70 (pc' := 71) rfl ?_
  intro T64 h64 X64 e64 W64 V64
  replace V64 : AV Z h64 cu (.array .int) [(.ref c0), (.ref b22)] := V64
  have Y66_cu := Y54_cu.wr W64
  have E67_rl := E55_rl.wr W64
  have F68_modCount := F56_modCount.other W64 (Or.inl ne5_rl_cu)
  have F69_elementData := F57_elementData.other W64 (Or.inl ne5_rl_cu)
  have F70_size := F58_size.other W64 (Or.inl ne5_rl_cu)
  have V71_es := V59_es.other W64 ne6_es_cu
  have Y72_es := Y60_es.wr W64
  have V73_b22 := V52.other W64 (Ne.symm ne_cu_b22)
  have E74_b22 := E61_b22.wr W64
  have Z64 : n0 ≤ h64.size := by rw [W64.size]; exact ZC52
  have N64 := Fr.snoc X64 Nn52 n0_cu
  have K64 : Keep h0 h64 [cu, rl, es] := KC52.wr W64 (Or.inl (List.mem_of_getElem? (i := 0) rfl))
  refine own_aloadN X64 hx hby d_14_11__71 rfl rfl (pc' := 72) rfl ?_
  refine own_getS X64 hx hby hZ hown (host := "") (Or.inl (own_w hw 51 rfl)) Via.refl e64 (own_stakeep SW K64 plain_ws) d_14_11__72 (pc' := 75) rfl ?_
  intro T75 X75 e75
  refine own_acmp X75 hx hby d_14_11__75 rfl rfl (same := false) (decide_eq_false (fun q => ne_aC_aW (Value.ref.inj q))) (by decide) (pc' := 112) (by decide) ?_
  refine own_iconst X75 hx hby d_14_11__112 (v := (0 : Int32)) rfl (pc' := 113) rfl ?_
  refine own_istore X75 hx hby d_14_11__113  (Ls' := #[.val (.ref g), .val (.ref aC), .val (.int pt), .val (.int (1 : Int32)), .val (.ref c1), .val (.ref b22), .val (.int (0 : Int32)), .unset, .unset]) rfl (pc' := 115) rfl ?_
  refine own_iload X75 hx hby d_14_11__115 rfl (pc' := 117) rfl ?_
  refine own_aloadN X75 hx hby d_14_11__117 rfl rfl (pc' := 118) rfl ?_
  refine own_getF X75 hx hby hZ hown (host := "") (Or.inl (own_w hw 49 rfl)) Via.refl e75 (H1.keep K64 nin_g) d_14_11__118 (pc' := 121) rfl ?_
  intro T76 X76 e76
  refine own_callF X76 hx hby hZ (by exact hml) hown (x0 := (⟨"java/util/List", "size", "()I"⟩ : MethodName)) (y := (⟨"java/util/ArrayList", "size", "()I"⟩ : MethodName)) (own_w hw 160 rfl) (own_w hw 161 rfl) (own_w hw 162 rfl) (own_w hw 163 rfl) (own_w hw 164 rfl) (own_w hw 165 rfl) (own_w hw 166 rfl) (own_w hw 69 rfl) (own_w hw 27 rfl) rfl (own_w hw 167 rfl) (by decide) e76 1 (by decide) (by decide) (by decide) (by decide) (argsL := []) (rest := [(.int (0 : Int32))]) (lenOf pd___I rfl) rfl (Nat.le_of_eq rfl) E67_rl (rmSz l Z a0 hw rl (1 : Int32) h64 F70_size) d_14_11__121 (pc' := 126) rfl ?_
  intro v77 T77 L77 X77 hQ77
  obtain ⟨rfl, rfl, e77⟩ := hQ77
  rw [List.append_nil] at X77
  replace e77 : T77.heap = h64 := e77
  show GoP p e below Φ (T77.setTop (mkF m 126 #[.val (.ref g), .val (.ref aC), .val (.int pt), .val (.int (1 : Int32)), .val (.ref c1), .val (.ref b22), .val (.int (0 : Int32)), .unset, .unset] [(.int (1 : Int32)), (.int (0 : Int32))]))
  refine own_icmpN X77 hx hby d_14_11__126 (tlt (by decide)).2.1 (pc' := 129) rfl ?_
  refine own_aloadN X77 hx hby d_14_11__129 rfl rfl (pc' := 130) rfl ?_
  refine own_getF X77 hx hby hZ hown (host := "") (Or.inl (own_w hw 49 rfl)) Via.refl e77 (H1.keep K64 nin_g) d_14_11__130 (pc' := 133) rfl ?_
  intro T78 X78 e78
  refine own_iload X78 hx hby d_14_11__133 rfl (pc' := 135) rfl ?_
  refine own_callF X78 hx hby hZ (by exact hml) hown (x0 := (⟨"java/util/List", "get", "(I)Ljava/lang/Object;"⟩ : MethodName)) (y := (⟨"java/util/ArrayList", "get", "(I)Ljava/lang/Object;"⟩ : MethodName)) (own_w hw 118 rfl) (own_w hw 119 rfl) (own_w hw 120 rfl) (own_w hw 121 rfl) (own_w hw 122 rfl) (own_w hw 123 rfl) (own_w hw 124 rfl) (own_w hw 69 rfl) (own_w hw 27 rfl) rfl (own_w hw 125 rfl) (by decide) e78 0 (by decide) (by decide) (by decide) (by decide) (argsL := [(.int (0 : Int32))]) (rest := []) (lenOf pd__I_Ljava_lang_Object_ rfl) rfl (Nat.le_of_eq rfl) E67_rl (rmG0 l Z a0 hw rl es r0 (1 : Int32) .null .null .null .null .null .null .null .null .null h64 (by decide) E67_rl F70_size F69_elementData V71_es) d_14_11__135 (pc' := 140) rfl ?_
  intro v79 T79 L79 X79 hQ79
  obtain ⟨rfl, rfl, e79⟩ := hQ79
  rw [List.append_nil] at X79
  replace e79 : T79.heap = h64 := e79
  show GoP p e below Φ (T79.setTop (mkF m 140 #[.val (.ref g), .val (.ref aC), .val (.int pt), .val (.int (1 : Int32)), .val (.ref c1), .val (.ref b22), .val (.int (0 : Int32)), .unset, .unset] [(.ref r0)]))
  obtain ⟨T80, X80, e80, st80⟩ := castY X79 hx hZ hown (own_w hw 20 rfl) e79 (Ins.self (H13.keep K64)) (g := (mkF m 140 #[.val (.ref g), .val (.ref aC), .val (.int pt), .val (.int (1 : Int32)), .val (.ref c1), .val (.ref b22), .val (.int (0 : Int32)), .unset, .unset] [(.ref r0)])) rfl rfl (hb hby d_14_11__140)
  refine own_step st80 ?_
  show GoP p e below Φ (T80.setTop (mkF m 143 #[.val (.ref g), .val (.ref aC), .val (.int pt), .val (.int (1 : Int32)), .val (.ref c1), .val (.ref b22), .val (.int (0 : Int32)), .unset, .unset] [(.ref r0)]))
  refine own_astore X80 hx hby d_14_11__143 rfl (Ls' := #[.val (.ref g), .val (.ref aC), .val (.int pt), .val (.int (1 : Int32)), .val (.ref c1), .val (.ref b22), .val (.int (0 : Int32)), .val (.ref r0), .unset]) rfl (pc' := 145) rfl ?_
  refine own_aload X80 hx hby d_14_11__145 rfl rfl (pc' := 147) rfl ?_
  refine own_alen X80 hx hby hZ e80 (n := (2 : Int32)) (H12.keep K64 nin_r0) rfl d_14_11__147 (pc' := 148) rfl ?_
  refine own_iconst X80 hx hby d_14_11__148 (v := (1 : Int32)) rfl (pc' := 149) rfl ?_
  refine own_iadd X80 hx hby d_14_11__149 (pc' := 150) rfl ?_
  show GoP p e below Φ (T80.setTop (mkF m 150 #[.val (.ref g), .val (.ref aC), .val (.int pt), .val (.int (1 : Int32)), .val (.ref c1), .val (.ref b22), .val (.int (0 : Int32)), .val (.ref r0), .unset] [(.int (3 : Int32))]))
  refine own_newI X80 hx hby hZ (own_w hw 17 rfl) e80 (by decide) 3 (by decide) (by decide) (by decide) (by decide) d_14_11__150 (pc' := 152) rfl ?_
  intro T81 h81 b81 X81 e81 E81 g81 V81 I81 A81
  have ne_cu_b81 : cu ≠ b81 := Nat.ne_of_lt (g81 ▸ V64.lt)
  have ne_rl_b81 : rl ≠ b81 := Nat.ne_of_lt (g81 ▸ E67_rl.lt)
  have ne_es_b81 : es ≠ b81 := Nat.ne_of_lt (g81 ▸ V71_es.lt)
  have ne_b22_b81 : b22 ≠ b81 := Nat.ne_of_lt (g81 ▸ V73_b22.lt)
  have V82_cu := V64.ext E81
  have Y83_cu := Y66_cu.ext E81
  have E84_rl := E67_rl.ext E81
  have F85_modCount := F68_modCount.ext E81
  have F86_elementData := F69_elementData.ext E81
  have F87_size := F70_size.ext E81
  have V88_es := V71_es.ext E81
  have Y89_es := Y72_es.ext E81
  have V90_b22 := V73_b22.ext E81
  have E91_b22 := E74_b22.ext E81
  have Z81 : n0 ≤ h81.size := Nat.le_trans Z64 E81.1
  have n0_b81 : n0 ≤ b81 := g81 ▸ Z64
  have sz_b81 : h0.size ≤ b81 := g81 ▸ K64.1
  have K81 : Keep h0 h81 [cu, rl, es] := K64.ext E81
  replace V81 : AV Z h81 b81 .int [(.int (0 : Int32)), (.int (0 : Int32)), (.int (0 : Int32))] := V81
  show GoP p e below Φ (T81.setTop (mkF m 152 #[.val (.ref g), .val (.ref aC), .val (.int pt), .val (.int (1 : Int32)), .val (.ref c1), .val (.ref b22), .val (.int (0 : Int32)), .val (.ref r0), .unset] [(.ref b81)]))
  refine own_astore X81 hx hby d_14_11__152 rfl (Ls' := #[.val (.ref g), .val (.ref aC), .val (.int pt), .val (.int (1 : Int32)), .val (.ref c1), .val (.ref b22), .val (.int (0 : Int32)), .val (.ref r0), .val (.ref b81)]) rfl (pc' := 154) rfl ?_
  refine own_aload X81 hx hby d_14_11__154 rfl rfl (pc' := 156) rfl ?_
  refine own_iconst X81 hx hby d_14_11__156 (v := (0 : Int32)) rfl (pc' := 157) rfl ?_
  refine own_aload X81 hx hby d_14_11__157 rfl rfl (pc' := 159) rfl ?_
  refine own_iconst X81 hx hby d_14_11__159 (v := (0 : Int32)) rfl (pc' := 160) rfl ?_
  refine own_iloadN X81 hx hby d_14_11__160 rfl (pc' := 161) rfl ?_
  refine own_iconst X81 hx hby d_14_11__161 (v := (1 : Int32)) rfl (pc' := 162) rfl ?_
  refine own_iadd X81 hx hby d_14_11__162 (pc' := 163) rfl ?_
  show GoP p e below Φ (T81.setTop (mkF m 163 #[.val (.ref g), .val (.ref aC), .val (.int pt), .val (.int (1 : Int32)), .val (.ref c1), .val (.ref b22), .val (.int (0 : Int32)), .val (.ref r0), .val (.ref b81)] [(.int (2 : Int32)), (.int (0 : Int32)), (.ref b81), (.int (0 : Int32)), (.ref r0)]))
  refine own_copyV X81 hx hby (dv := (.int 0)) hZ (by exact hml) hown (own_w hw 114 rfl) (own_w hw 117 rfl) (own_w hw 115 rfl) (own_w hw 116 rfl) e81 (H12.keep K81 nin_r0) V81 rfl rfl rfl (by decide) (by decide) (by decide) (Nat.le_of_ble_eq_true rfl) (Nat.le_of_ble_eq_true rfl) N64 n0_b81 (by decide) 0 (Nat.le_of_eq rfl) (by decide) d_14_11__163 (pc' := 166) rfl ?_
  intro T92 h92 L92 X92 e92 Nn92 K92 V92
  replace V92 : AV Z h92 b81 .int [(.int (0 : Int32)), (.int (0 : Int32)), (.int (0 : Int32))] := V92
  have V93_cu := V82_cu.keep K92 (ninS ne_cu_b81 nin0)
  have Y94_cu := Y83_cu.keep K92 
  have E95_rl := E84_rl.keep K92 
  have F96_modCount := F85_modCount.keep K92 (ninS ne_rl_b81 nin0)
  have F97_elementData := F86_elementData.keep K92 (ninS ne_rl_b81 nin0)
  have F98_size := F87_size.keep K92 (ninS ne_rl_b81 nin0)
  have V99_es := V88_es.keep K92 (ninS ne_es_b81 nin0)
  have Y100_es := Y89_es.keep K92 
  have V101_b22 := V90_b22.keep K92 (ninS ne_b22_b81 nin0)
  have E102_b22 := E91_b22.keep K92 
  have E103_b81 := A81.keep K92 
  have KC92 : Keep h0 h92 [cu, rl, es] := K81.trans K92 (allS (Or.inr sz_b81) all0)
  have ZC92 : n0 ≤ h92.size := Nat.le_trans Z81 K92.1
  refine own_aload X92 hx hby d_14_11__166 rfl rfl (pc' := 168) rfl ?_
  refine own_iloadN X92 hx hby d_14_11__168 rfl (pc' := 169) rfl ?_
  refine own_aload X92 hx hby d_14_11__169 rfl rfl (pc' := 171) rfl ?_
  refine own_iloadN X92 hx hby d_14_11__171 rfl (pc' := 172) rfl ?_
  refine own_iconst X92 hx hby d_14_11__172 (v := (1 : Int32)) rfl (pc' := 173) rfl ?_
  refine own_iadd X92 hx hby d_14_11__173 (pc' := 174) rfl ?_
  show GoP p e below Φ (T92.setTop (mkF m 174 #[.val (.ref g), .val (.ref aC), .val (.int pt), .val (.int (1 : Int32)), .val (.ref c1), .val (.ref b22), .val (.int (0 : Int32)), .val (.ref r0), .val (.ref b81)] [(.int (2 : Int32)), (.ref b81), (.int (1 : Int32)), (.ref r0)]))
  refine own_aload X92 hx hby d_14_11__174 rfl rfl (pc' := 176) rfl ?_
  refine own_alen X92 hx hby hZ e92 (n := (2 : Int32)) (H12.keep KC92 nin_r0) rfl d_14_11__176 (pc' := 177) rfl ?_
  refine own_iloadN X92 hx hby d_14_11__177 rfl (pc' := 178) rfl ?_
  refine own_isub X92 hx hby d_14_11__178 (pc' := 179) rfl ?_
  show GoP p e below Φ (T92.setTop (mkF m 179 #[.val (.ref g), .val (.ref aC), .val (.int pt), .val (.int (1 : Int32)), .val (.ref c1), .val (.ref b22), .val (.int (0 : Int32)), .val (.ref r0), .val (.ref b81)] [(.int (1 : Int32)), (.int (2 : Int32)), (.ref b81), (.int (1 : Int32)), (.ref r0)]))
  refine own_copyV X92 hx hby (dv := (.int 0)) hZ (by exact hml) hown (own_w hw 114 rfl) (own_w hw 117 rfl) (own_w hw 115 rfl) (own_w hw 116 rfl) e92 (H12.keep KC92 nin_r0) V92 rfl rfl rfl (by decide) (by decide) (by decide) (Nat.le_of_ble_eq_true rfl) (Nat.le_of_ble_eq_true rfl) Nn92 n0_b81 (by decide) 0 (Nat.le_of_eq rfl) (by decide) d_14_11__179 (pc' := 182) rfl ?_
  intro T104 h104 L104 X104 e104 Nn104 K104 V104
  replace V104 : AV Z h104 b81 .int [(.int (0 : Int32)), (.int (0 : Int32)), (.int (0 : Int32))] := V104
  have V105_cu := V93_cu.keep K104 (ninS ne_cu_b81 nin0)
  have Y106_cu := Y94_cu.keep K104 
  have E107_rl := E95_rl.keep K104 
  have F108_modCount := F96_modCount.keep K104 (ninS ne_rl_b81 nin0)
  have F109_elementData := F97_elementData.keep K104 (ninS ne_rl_b81 nin0)
  have F110_size := F98_size.keep K104 (ninS ne_rl_b81 nin0)
  have V111_es := V99_es.keep K104 (ninS ne_es_b81 nin0)
  have Y112_es := Y100_es.keep K104 
  have V113_b22 := V101_b22.keep K104 (ninS ne_b22_b81 nin0)
  have E114_b22 := E102_b22.keep K104 
  have E115_b81 := E103_b81.keep K104 
  have KC104 : Keep h0 h104 [cu, rl, es] := KC92.trans K104 (allS (Or.inr sz_b81) all0)
  have ZC104 : n0 ≤ h104.size := Nat.le_trans ZC92 K104.1
  refine own_aloadN X104 hx hby d_14_11__182 rfl rfl (pc' := 183) rfl ?_
  refine own_getF X104 hx hby hZ hown (host := "") (Or.inl (own_w hw 49 rfl)) Via.refl e104 (H1.keep KC104 nin_g) d_14_11__183 (pc' := 186) rfl ?_
  intro T116 X116 e116
  refine own_iload X116 hx hby d_14_11__186 rfl (pc' := 188) rfl ?_
  refine own_aload X116 hx hby d_14_11__188 rfl rfl (pc' := 190) rfl ?_
  refine own_callF X116 hx hby hZ (by exact hml) hown (x0 := (⟨"java/util/List", "set", "(ILjava/lang/Object;)Ljava/lang/Object;"⟩ : MethodName)) (y := (⟨"java/util/ArrayList", "set", "(ILjava/lang/Object;)Ljava/lang/Object;"⟩ : MethodName)) (own_w hw 168 rfl) (own_w hw 169 rfl) (own_w hw 170 rfl) (own_w hw 171 rfl) (own_w hw 172 rfl) (own_w hw 173 rfl) (own_w hw 174 rfl) (own_w hw 69 rfl) (own_w hw 27 rfl) rfl (own_w hw 175 rfl) (by decide) e116 0 (by decide) (by decide) (by decide) (by decide) (argsL := [(.int (0 : Int32)), (.ref b81)]) (rest := []) (lenOf pd__ILjava_lang_Object__Ljava_lang_Object_ rfl) rfl (Nat.le_of_eq rfl) E107_rl (rmS0 l Z a0 hw rl es r0 b81 (1 : Int32) .null .null .null .null .null .null .null .null .null n0 h104 n0_es (Ne.symm ne12_es_rl) (Ne.symm ne_es_b81) (by decide) Y112_es E115_b81 E107_rl F110_size F109_elementData V111_es) d_14_11__190 (pc' := 195) rfl ?_
  intro v117 T117 L117 X117 hQ117
  obtain ⟨rfl, Nq117, K117, V117⟩ := hQ117
  have V118_cu := V105_cu.keep K117 (ninS (Ne.symm ne6_es_cu) nin0)
  have Y119_cu := Y106_cu.keep K117
  have E120_rl := E107_rl.keep K117
  have F121_modCount := F108_modCount.keep K117 (ninS (Ne.symm ne12_es_rl) nin0)
  have F122_elementData := F109_elementData.keep K117 (ninS (Ne.symm ne12_es_rl) nin0)
  have F123_size := F110_size.keep K117 (ninS (Ne.symm ne12_es_rl) nin0)
  have Y124_es := Y112_es.keep K117
  have V125_b22 := V113_b22.keep K117 (ninS (Ne.symm ne_es_b22) nin0)
  have E126_b22 := E114_b22.keep K117
  have V127_b81 := V104.keep K117 (ninS (Ne.symm ne_es_b81) nin0)
  have E128_b81 := E115_b81.keep K117
  have N117 := Fr.app Nn104 Nq117
  have Z117 : n0 ≤ T117.heap.size := Nat.le_trans ZC104 K117.1
  have KK117 : Keep h0 T117.heap [cu, rl, es] := KC104.trans K117 (allS (Or.inl (List.mem_of_getElem? (i := 2) rfl)) all0)
  show GoP p e below Φ (T117.setTop (mkF m 195 #[.val (.ref g), .val (.ref aC), .val (.int pt), .val (.int (1 : Int32)), .val (.ref c1), .val (.ref b22), .val (.int (0 : Int32)), .val (.ref r0), .val (.ref b81)] [(.ref r0)]))
  refine own_pop X117 hx hby d_14_11__195 rfl (pc' := 196) rfl ?_
  refine own_iinc X117 hx hby d_14_11__196 rfl (v := (1 : Int32)) rfl (Ls' := #[.val (.ref g), .val (.ref aC), .val (.int pt), .val (.int (1 : Int32)), .val (.ref c1), .val (.ref b22), .val (.int (1 : Int32)), .val (.ref r0), .val (.ref b81)]) rfl (pc' := 199) rfl ?_
  refine own_goto X117 hx hby d_14_11__199 (by decide) (pc' := 115) (by decide) ?_
  refine own_iload X117 hx hby d_14_11__115 rfl (pc' := 117) rfl ?_
  refine own_aloadN X117 hx hby d_14_11__117 rfl rfl (pc' := 118) rfl ?_
  refine own_getF X117 hx hby hZ hown (host := "") (Or.inl (own_w hw 49 rfl)) Via.refl rfl (H1.keep KK117 nin_g) d_14_11__118 (pc' := 121) rfl ?_
  intro T129 X129 e129
  refine own_callF X129 hx hby hZ (by exact hml) hown (x0 := (⟨"java/util/List", "size", "()I"⟩ : MethodName)) (y := (⟨"java/util/ArrayList", "size", "()I"⟩ : MethodName)) (own_w hw 160 rfl) (own_w hw 161 rfl) (own_w hw 162 rfl) (own_w hw 163 rfl) (own_w hw 164 rfl) (own_w hw 165 rfl) (own_w hw 166 rfl) (own_w hw 69 rfl) (own_w hw 27 rfl) rfl (own_w hw 167 rfl) (by decide) e129 1 (by decide) (by decide) (by decide) (by decide) (argsL := []) (rest := [(.int (1 : Int32))]) (lenOf pd___I rfl) rfl (Nat.le_of_eq rfl) E120_rl (rmSz l Z a0 hw rl (1 : Int32) T117.heap F123_size) d_14_11__121 (pc' := 126) rfl ?_
  intro v130 T130 L130 X130 hQ130
  obtain ⟨rfl, rfl, e130⟩ := hQ130
  rw [List.append_nil] at X130
  replace e130 : T130.heap = T117.heap := e130
  show GoP p e below Φ (T130.setTop (mkF m 126 #[.val (.ref g), .val (.ref aC), .val (.int pt), .val (.int (1 : Int32)), .val (.ref c1), .val (.ref b22), .val (.int (1 : Int32)), .val (.ref r0), .val (.ref b81)] [(.int (1 : Int32)), (.int (1 : Int32))]))
  refine own_icmpY X130 hx hby d_14_11__126 (flt (by decide)).2.1 (by decide) (pc' := 202) (by decide) ?_
  exact own_ret0 X130 hx hby fin hret d_14_11__202 (by decide) (by decide) (by rw [e130]; exact ⟨rfl, N117, KK117, b22, b81, (H0.keep KK117 nin_g), (H1.keep KK117 nin_g), V118_cu, Y119_cu, (H4.keep KK117 nin_c0), V125_b22, E120_rl, F121_modCount, F122_elementData, F123_size, V117, Y124_es, V127_b81, E128_b81⟩)
theorem ef_rmCut_1_0_0_2_0 (m : MethodId) (x0 : Addr) (x1 : Addr) (x2 : Int32) : entryFrame m #[(.ref x0), (.ref x1), (.int x2)] 9 = mkF m 0 #[.val (.ref x0), .val (.ref x1), .val (.int x2), .unset, .unset, .unset, .unset, .unset, .unset] [] := by first | (simp [entryFrame, mkF, argsToLocals, Value.category]; done) | rfl
set_option maxRecDepth 65536 in
set_option maxHeartbeats 40000000 in
theorem rmCut_1_0_0_2_0 (l : Launch) (Z : State) (a0 : Array Value) (hw : ∀ d ∈ tables_1, d.before a0 Z = true) (g aW aC cu c0 c1 rl es r0 r1 r2 : Addr) (pt u0 u1 mc : Int32) (n0 : Nat) (h0 : Heap) (n0_cu : n0 ≤ cu) (n0_rl : n0 ≤ rl) (n0_es : n0 ≤ es) (Z0 : n0 ≤ h0.size) (ox : aC < n0)  (ne_aC_aW : aC ≠ aW) (Eg : Exa Z h0 g "com/example/collectary/collectary/broker/Grid") (Exx : Exa Z h0 aC "com/example/collectary/collectary/broker/Grid$Axis") (Fo : Fld Z h0 aC "java/lang/Enum" "ordinal" "I" (.int (1 : Int32))) (SW : Sta Z h0 "com/example/collectary/collectary/broker/Grid$Axis" "WORD" "Lcom/example/collectary/collectary/broker/Grid$Axis;" (.ref aW)) (H0 : Fld Z h0 g "com/example/collectary/collectary/broker/Grid" "cuts" "[[I" (.ref cu)) (H1 : Fld Z h0 g "com/example/collectary/collectary/broker/Grid" "rows" "Ljava/util/List;" (.ref rl)) (H2 : AV Z h0 cu (.array .int) [.ref c0, .ref c1]) (H3 : CM Z h0 cu "[I") (H4 : AV Z h0 c0 .int [(.int u0), (.int u1)]) (H5 : AV Z h0 c1 .int []) (H6 : Exa Z h0 rl "java/util/ArrayList") (H7 : Fld Z h0 rl "java/util/AbstractList" "modCount" "I" (.int mc)) (H8 : Fld Z h0 rl "java/util/ArrayList" "elementData" "[Ljava/lang/Object;" (.ref es)) (H9 : Fld Z h0 rl "java/util/ArrayList" "size" "I" (.int (3 : Int32))) (H10 : AV Z h0 es (.object "java/lang/Object") [(.ref r0), (.ref r1), (.ref r2), .null, .null, .null, .null, .null, .null, .null]) (H11 : CM Z h0 es "java/lang/Object") (H12 : AV Z h0 r0 .int [(.int (0 : Int32))]) (H13 : Exa Z h0 r0 "[I") (H14 : AV Z h0 r1 .int [(.int (0 : Int32))]) (H15 : Exa Z h0 r1 "[I") (H16 : AV Z h0 r2 .int [(.int (0 : Int32))]) (H17 : Exa Z h0 r2 "[I") : Con l Z (⟨"com/example/collectary/collectary/broker/Grid", "addCut", "(Lcom/example/collectary/collectary/broker/Grid$Axis;I)V"⟩ : MethodName) prog_14_method_11_code 9 none [] ({ frames := 3, cells := 4, slots := 7, locals := 90 } : Room) #[(.ref g), (.ref aC), (.int pt)] h0 (fun v h L => v = none ∧ Fr n0 L ∧ Keep h0 h [cu, rl, es] ∧ ∃ cn t0 t1 t2 : Addr, Fld Z h g "com/example/collectary/collectary/broker/Grid" "cuts" "[[I" (.ref cu) ∧ Fld Z h g "com/example/collectary/collectary/broker/Grid" "rows" "Ljava/util/List;" (.ref rl) ∧ AV Z h cu (.array .int) [.ref c0, .ref cn] ∧ CM Z h cu "[I" ∧ AV Z h c0 .int [(.int u0), (.int u1)] ∧ AV Z h cn .int [(.int pt)] ∧ Exa Z h rl "java/util/ArrayList" ∧ Fld Z h rl "java/util/AbstractList" "modCount" "I" (.int mc) ∧ Fld Z h rl "java/util/ArrayList" "elementData" "[Ljava/lang/Object;" (.ref es) ∧ Fld Z h rl "java/util/ArrayList" "size" "I" (.int (3 : Int32)) ∧ AV Z h es (.object "java/lang/Object") [(.ref t0), (.ref t1), (.ref t2), .null, .null, .null, .null, .null, .null, .null] ∧ CM Z h es "java/lang/Object" ∧ AV Z h t0 .int [(.int (0 : Int32)), (.int (0 : Int32))] ∧ Exa Z h t0 "[I" ∧ AV Z h t1 .int [(.int (0 : Int32)), (.int (0 : Int32))] ∧ Exa Z h t1 "[I" ∧ AV Z h t2 .int [(.int (0 : Int32)), (.int (0 : Int32))] ∧ Exa Z h t2 "[I") := by
  refine Con.of (plainFor_of_name pn_com_example_collectary_collectary_broker_Grid) ?_
  intro p e s m below meth c T X hx hby hml hown hnm hret eT hZ hsh Φ fin
  replace hown : s.vm.findClass "com/example/collectary/collectary/broker/Grid" = some m.cls := hown
  replace hml : 9 = c.maxLocals := hml.symm
  refine own_step (fun tq kq => castTop (ef_rmCut_1_0_0_2_0 m g aC pt) kq) ?_
  have N0 := Fr.nil n0
  have K0 : Keep h0 h0 [cu, rl, es] := Keep.refl h0 [cu, rl, es]
  have ne1_g_cu : g ≠ cu := own_ne_ea Eg (own_w hw 8 rfl) H2
  have ne2_aC_cu : aC ≠ cu := Nat.ne_of_lt (Nat.lt_of_lt_of_le ox n0_cu)
  have ne3_c0_cu : c0 ≠ cu := own_ne_av2 H4 H2 (by decide)
  have ne4_c1_cu : c1 ≠ cu := own_ne_av2 H5 H2 (by decide)
  have ne5_rl_cu : rl ≠ cu := own_ne_ea H6 (own_w hw 26 rfl) H2
  have ne6_es_cu : es ≠ cu := own_ne_av2 H10 H2 (by decide)
  have ne7_r0_cu : r0 ≠ cu := own_ne_av2 H12 H2 (by decide)
  have ne8_r1_cu : r1 ≠ cu := own_ne_av2 H14 H2 (by decide)
  have ne9_r2_cu : r2 ≠ cu := own_ne_av2 H16 H2 (by decide)
  have ne10_g_rl : g ≠ rl := ne_exa Eg H6 (by decide)
  have ne11_aC_rl : aC ≠ rl := Nat.ne_of_lt (Nat.lt_of_lt_of_le ox n0_rl)
  have ne12_c0_rl : c0 ≠ rl := (own_ne_ea H6 (own_w hw 26 rfl) H4).symm
  have ne13_c1_rl : c1 ≠ rl := (own_ne_ea H6 (own_w hw 26 rfl) H5).symm
  have ne14_es_rl : es ≠ rl := (own_ne_ea H6 (own_w hw 26 rfl) H10).symm
  have ne15_r0_rl : r0 ≠ rl := (own_ne_ea H6 (own_w hw 26 rfl) H12).symm
  have ne16_r1_rl : r1 ≠ rl := (own_ne_ea H6 (own_w hw 26 rfl) H14).symm
  have ne17_r2_rl : r2 ≠ rl := (own_ne_ea H6 (own_w hw 26 rfl) H16).symm
  have ne18_g_es : g ≠ es := own_ne_ea Eg (own_w hw 8 rfl) H10
  have ne19_aC_es : aC ≠ es := Nat.ne_of_lt (Nat.lt_of_lt_of_le ox n0_es)
  have ne20_c0_es : c0 ≠ es := own_ne_av2 H4 H10 (by decide)
  have ne21_c1_es : c1 ≠ es := own_ne_av2 H5 H10 (by decide)
  have ne22_r0_es : r0 ≠ es := own_ne_av2 H12 H10 (by decide)
  have ne23_r1_es : r1 ≠ es := own_ne_av2 H14 H10 (by decide)
  have ne24_r2_es : r2 ≠ es := own_ne_av2 H16 H10 (by decide)
  have nin_g : g ∉ [cu, rl, es] := (ninS ne1_g_cu (ninS ne10_g_rl (ninS ne18_g_es nin0)))
  have lt0_g := Eg.lt
  have nin_aC : aC ∉ [cu, rl, es] := (ninS ne2_aC_cu (ninS ne11_aC_rl (ninS ne19_aC_es nin0)))
  have lt0_aC := Exx.lt
  have nin_c0 : c0 ∉ [cu, rl, es] := (ninS ne3_c0_cu (ninS ne12_c0_rl (ninS ne20_c0_es nin0)))
  have lt0_c0 := H4.lt
  have nin_c1 : c1 ∉ [cu, rl, es] := (ninS ne4_c1_cu (ninS ne13_c1_rl (ninS ne21_c1_es nin0)))
  have lt0_c1 := H5.lt
  have nin_r0 : r0 ∉ [cu, rl, es] := (ninS ne7_r0_cu (ninS ne15_r0_rl (ninS ne22_r0_es nin0)))
  have lt0_r0 := H12.lt
  have nin_r1 : r1 ∉ [cu, rl, es] := (ninS ne8_r1_cu (ninS ne16_r1_rl (ninS ne23_r1_es nin0)))
  have lt0_r1 := H14.lt
  have nin_r2 : r2 ∉ [cu, rl, es] := (ninS ne9_r2_cu (ninS ne17_r2_rl (ninS ne24_r2_es nin0)))
  have lt0_r2 := H16.lt
  have plain_ws : ∀ x ∈ [cu, rl, es], ∀ c : Cell, h0[x]? = some c → c.vm.isStatics = false := (allS H2.plain (allS (own_plainE H6) (allS H10.plain all0)))
  refine own_aloadN X hx hby d_14_11__0 rfl rfl (pc' := 1) rfl ?_
  refine own_aloadN X hx hby d_14_11__1 rfl rfl (pc' := 2) rfl ?_
  refine own_iloadN X hx hby d_14_11__2 rfl (pc' := 3) rfl ?_
  refine own_iconst X hx hby d_14_11__3 (v := (1 : Int32)) rfl (pc' := 4) rfl ?_
  refine own_isub X hx hby d_14_11__4 (pc' := 5) rfl ?_
  refine own_callV X hx hby hZ (by exact hml) hown (own_w hw 102 rfl) (own_w hw 103 rfl) (own_w hw 105 rfl) (own_w hw 104 rfl) (own_w hw 9 rfl) (own_w hw 106 rfl) (by decide) eT 0 (by decide) (by decide) (by decide) (by decide) (argsL := [(.ref aC), (.int (pt - (1 : Int32)))]) (rest := []) (lenOf pd__Lcom_example_collectary_collectary_broker_Grid_Axis_I_I rfl) rfl (Nat.le_of_eq rfl) Eg (rmIv0_1 l Z a0 hw g aC cu c0 c1  (pt - (1 : Int32)) h0 Exx Fo H0 H2 H5) d_14_11__5 (pc' := 8) rfl ?_
  intro v25 T25 L25 X25 hQ25
  obtain ⟨rfl, rfl, e25⟩ := hQ25
  rw [List.append_nil] at X25
  replace e25 : T25.heap = h0 := e25
  show GoP p e below Φ (T25.setTop (mkF m 8 #[.val (.ref g), .val (.ref aC), .val (.int pt), .unset, .unset, .unset, .unset, .unset, .unset] [(.int (0 : Int32))]))
  refine own_istoreN X25 hx hby d_14_11__8  (Ls' := #[.val (.ref g), .val (.ref aC), .val (.int pt), .val (.int (0 : Int32)), .unset, .unset, .unset, .unset, .unset]) rfl (pc' := 9) rfl ?_
  refine own_aloadN X25 hx hby d_14_11__9 rfl rfl (pc' := 10) rfl ?_
  refine own_getF X25 hx hby hZ hown (host := "") (Or.inl (own_w hw 23 rfl)) Via.refl e25 H0 d_14_11__10 (pc' := 13) rfl ?_
  intro T26 X26 e26
  refine own_aloadN X26 hx hby d_14_11__13 rfl rfl (pc' := 14) rfl ?_
  refine own_callU X26 hx hby hZ (by exact hml) hown (x0 := (⟨"com/example/collectary/collectary/broker/Grid$Axis", "ordinal", "()I"⟩ : MethodName)) (y := (⟨"java/lang/Enum", "ordinal", "()I"⟩ : MethodName)) (own_w hw 52 rfl) (own_w hw 53 rfl) (own_w hw 54 rfl) (own_w hw 56 rfl) (own_w hw 55 rfl) (own_w hw 57 rfl) (own_w hw 58 rfl) (by decide) e26 1 (by decide) (by decide) (by decide) (by decide) (argsL := []) (rest := [(.ref cu)]) (lenOf pd___I rfl) rfl (Nat.le_of_eq rfl) Exx (rmO l Z a0 hw aC (1 : Int32) h0 Fo) d_14_11__14 (pc' := 17) rfl ?_
  intro v27 T27 L27 X27 hQ27
  obtain ⟨rfl, rfl, e27⟩ := hQ27
  rw [List.append_nil] at X27
  replace e27 : T27.heap = h0 := e27
  show GoP p e below Φ (T27.setTop (mkF m 17 #[.val (.ref g), .val (.ref aC), .val (.int pt), .val (.int (0 : Int32)), .unset, .unset, .unset, .unset, .unset] [(.int (1 : Int32)), (.ref cu)]))
  refine own_aaload X27 hx hby hZ e27 H2 rfl (by decide) (v := (.ref c1)) rfl d_14_11__17 (pc' := 18) rfl ?_
  refine own_astore X27 hx hby d_14_11__18 rfl (Ls' := #[.val (.ref g), .val (.ref aC), .val (.int pt), .val (.int (0 : Int32)), .val (.ref c1), .unset, .unset, .unset, .unset]) rfl (pc' := 20) rfl ?_
  refine own_aload X27 hx hby d_14_11__20 rfl rfl (pc' := 22) rfl ?_
  refine own_alen X27 hx hby hZ e27 (n := (0 : Int32)) H5 rfl d_14_11__22 (pc' := 23) rfl ?_
  refine own_iconst X27 hx hby d_14_11__23 (v := (1 : Int32)) rfl (pc' := 24) rfl ?_
  refine own_iadd X27 hx hby d_14_11__24 (pc' := 25) rfl ?_
  show GoP p e below Φ (T27.setTop (mkF m 25 #[.val (.ref g), .val (.ref aC), .val (.int pt), .val (.int (0 : Int32)), .val (.ref c1), .unset, .unset, .unset, .unset] [(.int (1 : Int32))]))
  refine own_newI X27 hx hby hZ (own_w hw 17 rfl) e27 (by decide) 1 (by decide) (by decide) (by decide) (by decide) d_14_11__25 (pc' := 27) rfl ?_
  intro T28 h28 b28 X28 e28 E28 g28 V28 I28 A28
  have ne_cu_b28 : cu ≠ b28 := Nat.ne_of_lt (g28 ▸ H2.lt)
  have ne_rl_b28 : rl ≠ b28 := Nat.ne_of_lt (g28 ▸ H6.lt)
  have ne_es_b28 : es ≠ b28 := Nat.ne_of_lt (g28 ▸ H10.lt)
  have V29_cu := H2.ext E28
  have Y30_cu := H3.ext E28
  have E31_rl := H6.ext E28
  have F32_modCount := H7.ext E28
  have F33_elementData := H8.ext E28
  have F34_size := H9.ext E28
  have V35_es := H10.ext E28
  have Y36_es := H11.ext E28
  have Z28 : n0 ≤ h28.size := Nat.le_trans Z0 E28.1
  have n0_b28 : n0 ≤ b28 := g28 ▸ Z0
  have sz_b28 : h0.size ≤ b28 := g28 ▸ K0.1
  have K28 : Keep h0 h28 [cu, rl, es] := K0.ext E28
  replace V28 : AV Z h28 b28 .int [(.int (0 : Int32))] := V28
  show GoP p e below Φ (T28.setTop (mkF m 27 #[.val (.ref g), .val (.ref aC), .val (.int pt), .val (.int (0 : Int32)), .val (.ref c1), .unset, .unset, .unset, .unset] [(.ref b28)]))
  refine own_astore X28 hx hby d_14_11__27 rfl (Ls' := #[.val (.ref g), .val (.ref aC), .val (.int pt), .val (.int (0 : Int32)), .val (.ref c1), .val (.ref b28), .unset, .unset, .unset]) rfl (pc' := 29) rfl ?_
  refine own_aload X28 hx hby d_14_11__29 rfl rfl (pc' := 31) rfl ?_
  refine own_iconst X28 hx hby d_14_11__31 (v := (0 : Int32)) rfl (pc' := 32) rfl ?_
  refine own_aload X28 hx hby d_14_11__32 rfl rfl (pc' := 34) rfl ?_
  refine own_iconst X28 hx hby d_14_11__34 (v := (0 : Int32)) rfl (pc' := 35) rfl ?_
  refine own_iloadN X28 hx hby d_14_11__35 rfl (pc' := 36) rfl ?_
  refine own_copyV X28 hx hby (dv := (.int 0)) hZ (by exact hml) hown (own_w hw 114 rfl) (own_w hw 117 rfl) (own_w hw 115 rfl) (own_w hw 116 rfl) e28 (H5.keep K28 nin_c1) V28 rfl rfl rfl (by decide) (by decide) (by decide) (Nat.le_of_ble_eq_true rfl) (Nat.le_of_ble_eq_true rfl) N0 n0_b28 (by decide) 0 (Nat.le_of_eq rfl) (by decide) d_14_11__36 (pc' := 39) rfl ?_
  intro T37 h37 L37 X37 e37 Nn37 K37 V37
  replace V37 : AV Z h37 b28 .int [(.int (0 : Int32))] := V37
  have V38_cu := V29_cu.keep K37 (ninS ne_cu_b28 nin0)
  have Y39_cu := Y30_cu.keep K37 
  have E40_rl := E31_rl.keep K37 
  have F41_modCount := F32_modCount.keep K37 (ninS ne_rl_b28 nin0)
  have F42_elementData := F33_elementData.keep K37 (ninS ne_rl_b28 nin0)
  have F43_size := F34_size.keep K37 (ninS ne_rl_b28 nin0)
  have V44_es := V35_es.keep K37 (ninS ne_es_b28 nin0)
  have Y45_es := Y36_es.keep K37 
  have E46_b28 := A28.keep K37 
  have KC37 : Keep h0 h37 [cu, rl, es] := K28.trans K37 (allS (Or.inr sz_b28) all0)
  have ZC37 : n0 ≤ h37.size := Nat.le_trans Z28 K37.1
  refine own_aload X37 hx hby d_14_11__39 rfl rfl (pc' := 41) rfl ?_
  refine own_iloadN X37 hx hby d_14_11__41 rfl (pc' := 42) rfl ?_
  refine own_iloadN X37 hx hby d_14_11__42 rfl (pc' := 43) rfl ?_
  refine own_iastore X37 hx hby hZ e37 V37 (by decide) (Nat.le_of_ble_eq_true rfl) d_14_11__43 (pc' := 44) rfl ?_
  intro T47 h47 X47 e47 W47 V47
  replace V47 : AV Z h47 b28 .int [(.int pt)] := V47
  have V48_cu := V38_cu.other W47 ne_cu_b28
  have Y49_cu := Y39_cu.wr W47
  have E50_rl := E40_rl.wr W47
  have F51_modCount := F41_modCount.other W47 (Or.inl ne_rl_b28)
  have F52_elementData := F42_elementData.other W47 (Or.inl ne_rl_b28)
  have F53_size := F43_size.other W47 (Or.inl ne_rl_b28)
  have V54_es := V44_es.other W47 ne_es_b28
  have Y55_es := Y45_es.wr W47
  have E57_b28 := E46_b28.wr W47
  have Z47 : n0 ≤ h47.size := by rw [W47.size]; exact ZC37
  have N47 := Fr.snoc X47 Nn37 n0_b28
  have K47 : Keep h0 h47 [cu, rl, es] := KC37.wr W47 (Or.inr sz_b28)
  refine own_aload X47 hx hby d_14_11__44 rfl rfl (pc' := 46) rfl ?_
  refine own_iloadN X47 hx hby d_14_11__46 rfl (pc' := 47) rfl ?_
  refine own_aload X47 hx hby d_14_11__47 rfl rfl (pc' := 49) rfl ?_
  refine own_iloadN X47 hx hby d_14_11__49 rfl (pc' := 50) rfl ?_
  refine own_iconst X47 hx hby d_14_11__50 (v := (1 : Int32)) rfl (pc' := 51) rfl ?_
  refine own_iadd X47 hx hby d_14_11__51 (pc' := 52) rfl ?_
  show GoP p e below Φ (T47.setTop (mkF m 52 #[.val (.ref g), .val (.ref aC), .val (.int pt), .val (.int (0 : Int32)), .val (.ref c1), .val (.ref b28), .unset, .unset, .unset] [(.int (1 : Int32)), (.ref b28), (.int (0 : Int32)), (.ref c1)]))
  refine own_aload X47 hx hby d_14_11__52 rfl rfl (pc' := 54) rfl ?_
  refine own_alen X47 hx hby hZ e47 (n := (0 : Int32)) (H5.keep K47 nin_c1) rfl d_14_11__54 (pc' := 55) rfl ?_
  refine own_iloadN X47 hx hby d_14_11__55 rfl (pc' := 56) rfl ?_
  refine own_isub X47 hx hby d_14_11__56 (pc' := 57) rfl ?_
  show GoP p e below Φ (T47.setTop (mkF m 57 #[.val (.ref g), .val (.ref aC), .val (.int pt), .val (.int (0 : Int32)), .val (.ref c1), .val (.ref b28), .unset, .unset, .unset] [(.int (0 : Int32)), (.int (1 : Int32)), (.ref b28), (.int (0 : Int32)), (.ref c1)]))
  refine own_copyV X47 hx hby (dv := (.int 0)) hZ (by exact hml) hown (own_w hw 114 rfl) (own_w hw 117 rfl) (own_w hw 115 rfl) (own_w hw 116 rfl) e47 (H5.keep K47 nin_c1) V47 rfl rfl rfl (by decide) (by decide) (by decide) (Nat.le_of_ble_eq_true rfl) (Nat.le_of_ble_eq_true rfl) N47 n0_b28 (by decide) 0 (Nat.le_of_eq rfl) (by decide) d_14_11__57 (pc' := 60) rfl ?_
  intro T58 h58 L58 X58 e58 Nn58 K58 V58
  replace V58 : AV Z h58 b28 .int [(.int pt)] := V58
  have V59_cu := V48_cu.keep K58 (ninS ne_cu_b28 nin0)
  have Y60_cu := Y49_cu.keep K58 
  have E61_rl := E50_rl.keep K58 
  have F62_modCount := F51_modCount.keep K58 (ninS ne_rl_b28 nin0)
  have F63_elementData := F52_elementData.keep K58 (ninS ne_rl_b28 nin0)
  have F64_size := F53_size.keep K58 (ninS ne_rl_b28 nin0)
  have V65_es := V54_es.keep K58 (ninS ne_es_b28 nin0)
  have Y66_es := Y55_es.keep K58 
  have E67_b28 := E57_b28.keep K58 
  have KC58 : Keep h0 h58 [cu, rl, es] := K47.trans K58 (allS (Or.inr sz_b28) all0)
  have ZC58 : n0 ≤ h58.size := Nat.le_trans Z47 K58.1
  refine own_aloadN X58 hx hby d_14_11__60 rfl rfl (pc' := 61) rfl ?_
  refine own_getF X58 hx hby hZ hown (host := "") (Or.inl (own_w hw 23 rfl)) Via.refl e58 (H0.keep KC58 nin_g) d_14_11__61 (pc' := 64) rfl ?_
  intro T68 X68 e68
  refine own_aloadN X68 hx hby d_14_11__64 rfl rfl (pc' := 65) rfl ?_
  refine own_callU X68 hx hby hZ (by exact hml) hown (x0 := (⟨"com/example/collectary/collectary/broker/Grid$Axis", "ordinal", "()I"⟩ : MethodName)) (y := (⟨"java/lang/Enum", "ordinal", "()I"⟩ : MethodName)) (own_w hw 52 rfl) (own_w hw 53 rfl) (own_w hw 54 rfl) (own_w hw 56 rfl) (own_w hw 55 rfl) (own_w hw 57 rfl) (own_w hw 58 rfl) (by decide) e68 1 (by decide) (by decide) (by decide) (by decide) (argsL := []) (rest := [(.ref cu)]) (lenOf pd___I rfl) rfl (Nat.le_of_eq rfl) (Exx.keep KC58) (rmO l Z a0 hw aC (1 : Int32) h58 (Fo.keep KC58 nin_aC)) d_14_11__65 (pc' := 68) rfl ?_
  intro v69 T69 L69 X69 hQ69
  obtain ⟨rfl, rfl, e69⟩ := hQ69
  rw [List.append_nil] at X69
  replace e69 : T69.heap = h58 := e69
  show GoP p e below Φ (T69.setTop (mkF m 68 #[.val (.ref g), .val (.ref aC), .val (.int pt), .val (.int (0 : Int32)), .val (.ref c1), .val (.ref b28), .unset, .unset, .unset] [(.int (1 : Int32)), (.ref cu)]))
  refine own_aload X69 hx hby d_14_11__68 rfl rfl (pc' := 70) rfl ?_
  refine own_aastore X69 hx hby hZ e69 V59_cu rfl (own_sto V59_cu Y60_cu (Ins.self E67_b28)) (by decide) (Nat.le_of_ble_eq_true rfl) d_14_11__70 (pc' := 71) rfl ?_
  intro T70 h70 X70 e70 W70 V70
  replace V70 : AV Z h70 cu (.array .int) [(.ref c0), (.ref b28)] := V70
  have Y72_cu := Y60_cu.wr W70
  have E73_rl := E61_rl.wr W70
  have F74_modCount := F62_modCount.other W70 (Or.inl ne5_rl_cu)
  have F75_elementData := F63_elementData.other W70 (Or.inl ne5_rl_cu)
  have F76_size := F64_size.other W70 (Or.inl ne5_rl_cu)
  have V77_es := V65_es.other W70 ne6_es_cu
  have Y78_es := Y66_es.wr W70
  have V79_b28 := V58.other W70 (Ne.symm ne_cu_b28)
  have E80_b28 := E67_b28.wr W70
  have Z70 : n0 ≤ h70.size := by rw [W70.size]; exact ZC58
  have N70 := Fr.snoc X70 Nn58 n0_cu
  have K70 : Keep h0 h70 [cu, rl, es] := KC58.wr W70 (Or.inl (List.mem_of_getElem? (i := 0) rfl))
  refine own_aloadN X70 hx hby d_14_11__71 rfl rfl (pc' := 72) rfl ?_
  refine own_getS X70 hx hby hZ hown (host := "") (Or.inl (own_w hw 51 rfl)) Via.refl e70 (own_stakeep SW K70 plain_ws) d_14_11__72 (pc' := 75) rfl ?_
  intro T81 X81 e81
  refine own_acmp X81 hx hby d_14_11__75 rfl rfl (same := false) (decide_eq_false (fun q => ne_aC_aW (Value.ref.inj q))) (by decide) (pc' := 112) (by decide) ?_
  refine own_iconst X81 hx hby d_14_11__112 (v := (0 : Int32)) rfl (pc' := 113) rfl ?_
  refine own_istore X81 hx hby d_14_11__113  (Ls' := #[.val (.ref g), .val (.ref aC), .val (.int pt), .val (.int (0 : Int32)), .val (.ref c1), .val (.ref b28), .val (.int (0 : Int32)), .unset, .unset]) rfl (pc' := 115) rfl ?_
  refine own_iload X81 hx hby d_14_11__115 rfl (pc' := 117) rfl ?_
  refine own_aloadN X81 hx hby d_14_11__117 rfl rfl (pc' := 118) rfl ?_
  refine own_getF X81 hx hby hZ hown (host := "") (Or.inl (own_w hw 49 rfl)) Via.refl e81 (H1.keep K70 nin_g) d_14_11__118 (pc' := 121) rfl ?_
  intro T82 X82 e82
  refine own_callF X82 hx hby hZ (by exact hml) hown (x0 := (⟨"java/util/List", "size", "()I"⟩ : MethodName)) (y := (⟨"java/util/ArrayList", "size", "()I"⟩ : MethodName)) (own_w hw 160 rfl) (own_w hw 161 rfl) (own_w hw 162 rfl) (own_w hw 163 rfl) (own_w hw 164 rfl) (own_w hw 165 rfl) (own_w hw 166 rfl) (own_w hw 69 rfl) (own_w hw 27 rfl) rfl (own_w hw 167 rfl) (by decide) e82 1 (by decide) (by decide) (by decide) (by decide) (argsL := []) (rest := [(.int (0 : Int32))]) (lenOf pd___I rfl) rfl (Nat.le_of_eq rfl) E73_rl (rmSz l Z a0 hw rl (3 : Int32) h70 F76_size) d_14_11__121 (pc' := 126) rfl ?_
  intro v83 T83 L83 X83 hQ83
  obtain ⟨rfl, rfl, e83⟩ := hQ83
  rw [List.append_nil] at X83
  replace e83 : T83.heap = h70 := e83
  show GoP p e below Φ (T83.setTop (mkF m 126 #[.val (.ref g), .val (.ref aC), .val (.int pt), .val (.int (0 : Int32)), .val (.ref c1), .val (.ref b28), .val (.int (0 : Int32)), .unset, .unset] [(.int (3 : Int32)), (.int (0 : Int32))]))
  refine own_icmpN X83 hx hby d_14_11__126 (tlt (by decide)).2.1 (pc' := 129) rfl ?_
  refine own_aloadN X83 hx hby d_14_11__129 rfl rfl (pc' := 130) rfl ?_
  refine own_getF X83 hx hby hZ hown (host := "") (Or.inl (own_w hw 49 rfl)) Via.refl e83 (H1.keep K70 nin_g) d_14_11__130 (pc' := 133) rfl ?_
  intro T84 X84 e84
  refine own_iload X84 hx hby d_14_11__133 rfl (pc' := 135) rfl ?_
  refine own_callF X84 hx hby hZ (by exact hml) hown (x0 := (⟨"java/util/List", "get", "(I)Ljava/lang/Object;"⟩ : MethodName)) (y := (⟨"java/util/ArrayList", "get", "(I)Ljava/lang/Object;"⟩ : MethodName)) (own_w hw 118 rfl) (own_w hw 119 rfl) (own_w hw 120 rfl) (own_w hw 121 rfl) (own_w hw 122 rfl) (own_w hw 123 rfl) (own_w hw 124 rfl) (own_w hw 69 rfl) (own_w hw 27 rfl) rfl (own_w hw 125 rfl) (by decide) e84 0 (by decide) (by decide) (by decide) (by decide) (argsL := [(.int (0 : Int32))]) (rest := []) (lenOf pd__I_Ljava_lang_Object_ rfl) rfl (Nat.le_of_eq rfl) E73_rl (rmG0 l Z a0 hw rl es r0 (3 : Int32) (.ref r1) (.ref r2) .null .null .null .null .null .null .null h70 (by decide) E73_rl F76_size F75_elementData V77_es) d_14_11__135 (pc' := 140) rfl ?_
  intro v85 T85 L85 X85 hQ85
  obtain ⟨rfl, rfl, e85⟩ := hQ85
  rw [List.append_nil] at X85
  replace e85 : T85.heap = h70 := e85
  show GoP p e below Φ (T85.setTop (mkF m 140 #[.val (.ref g), .val (.ref aC), .val (.int pt), .val (.int (0 : Int32)), .val (.ref c1), .val (.ref b28), .val (.int (0 : Int32)), .unset, .unset] [(.ref r0)]))
  obtain ⟨T86, X86, e86, st86⟩ := castY X85 hx hZ hown (own_w hw 20 rfl) e85 (Ins.self (H13.keep K70)) (g := (mkF m 140 #[.val (.ref g), .val (.ref aC), .val (.int pt), .val (.int (0 : Int32)), .val (.ref c1), .val (.ref b28), .val (.int (0 : Int32)), .unset, .unset] [(.ref r0)])) rfl rfl (hb hby d_14_11__140)
  refine own_step st86 ?_
  show GoP p e below Φ (T86.setTop (mkF m 143 #[.val (.ref g), .val (.ref aC), .val (.int pt), .val (.int (0 : Int32)), .val (.ref c1), .val (.ref b28), .val (.int (0 : Int32)), .unset, .unset] [(.ref r0)]))
  refine own_astore X86 hx hby d_14_11__143 rfl (Ls' := #[.val (.ref g), .val (.ref aC), .val (.int pt), .val (.int (0 : Int32)), .val (.ref c1), .val (.ref b28), .val (.int (0 : Int32)), .val (.ref r0), .unset]) rfl (pc' := 145) rfl ?_
  refine own_aload X86 hx hby d_14_11__145 rfl rfl (pc' := 147) rfl ?_
  refine own_alen X86 hx hby hZ e86 (n := (1 : Int32)) (H12.keep K70 nin_r0) rfl d_14_11__147 (pc' := 148) rfl ?_
  refine own_iconst X86 hx hby d_14_11__148 (v := (1 : Int32)) rfl (pc' := 149) rfl ?_
  refine own_iadd X86 hx hby d_14_11__149 (pc' := 150) rfl ?_
  show GoP p e below Φ (T86.setTop (mkF m 150 #[.val (.ref g), .val (.ref aC), .val (.int pt), .val (.int (0 : Int32)), .val (.ref c1), .val (.ref b28), .val (.int (0 : Int32)), .val (.ref r0), .unset] [(.int (2 : Int32))]))
  refine own_newI X86 hx hby hZ (own_w hw 17 rfl) e86 (by decide) 2 (by decide) (by decide) (by decide) (by decide) d_14_11__150 (pc' := 152) rfl ?_
  intro T87 h87 b87 X87 e87 E87 g87 V87 I87 A87
  have ne_cu_b87 : cu ≠ b87 := Nat.ne_of_lt (g87 ▸ V70.lt)
  have ne_rl_b87 : rl ≠ b87 := Nat.ne_of_lt (g87 ▸ E73_rl.lt)
  have ne_es_b87 : es ≠ b87 := Nat.ne_of_lt (g87 ▸ V77_es.lt)
  have ne_b28_b87 : b28 ≠ b87 := Nat.ne_of_lt (g87 ▸ V79_b28.lt)
  have V88_cu := V70.ext E87
  have Y89_cu := Y72_cu.ext E87
  have E90_rl := E73_rl.ext E87
  have F91_modCount := F74_modCount.ext E87
  have F92_elementData := F75_elementData.ext E87
  have F93_size := F76_size.ext E87
  have V94_es := V77_es.ext E87
  have Y95_es := Y78_es.ext E87
  have V96_b28 := V79_b28.ext E87
  have E97_b28 := E80_b28.ext E87
  have Z87 : n0 ≤ h87.size := Nat.le_trans Z70 E87.1
  have n0_b87 : n0 ≤ b87 := g87 ▸ Z70
  have sz_b87 : h0.size ≤ b87 := g87 ▸ K70.1
  have K87 : Keep h0 h87 [cu, rl, es] := K70.ext E87
  replace V87 : AV Z h87 b87 .int [(.int (0 : Int32)), (.int (0 : Int32))] := V87
  show GoP p e below Φ (T87.setTop (mkF m 152 #[.val (.ref g), .val (.ref aC), .val (.int pt), .val (.int (0 : Int32)), .val (.ref c1), .val (.ref b28), .val (.int (0 : Int32)), .val (.ref r0), .unset] [(.ref b87)]))
  refine own_astore X87 hx hby d_14_11__152 rfl (Ls' := #[.val (.ref g), .val (.ref aC), .val (.int pt), .val (.int (0 : Int32)), .val (.ref c1), .val (.ref b28), .val (.int (0 : Int32)), .val (.ref r0), .val (.ref b87)]) rfl (pc' := 154) rfl ?_
  refine own_aload X87 hx hby d_14_11__154 rfl rfl (pc' := 156) rfl ?_
  refine own_iconst X87 hx hby d_14_11__156 (v := (0 : Int32)) rfl (pc' := 157) rfl ?_
  refine own_aload X87 hx hby d_14_11__157 rfl rfl (pc' := 159) rfl ?_
  refine own_iconst X87 hx hby d_14_11__159 (v := (0 : Int32)) rfl (pc' := 160) rfl ?_
  refine own_iloadN X87 hx hby d_14_11__160 rfl (pc' := 161) rfl ?_
  refine own_iconst X87 hx hby d_14_11__161 (v := (1 : Int32)) rfl (pc' := 162) rfl ?_
  refine own_iadd X87 hx hby d_14_11__162 (pc' := 163) rfl ?_
  show GoP p e below Φ (T87.setTop (mkF m 163 #[.val (.ref g), .val (.ref aC), .val (.int pt), .val (.int (0 : Int32)), .val (.ref c1), .val (.ref b28), .val (.int (0 : Int32)), .val (.ref r0), .val (.ref b87)] [(.int (1 : Int32)), (.int (0 : Int32)), (.ref b87), (.int (0 : Int32)), (.ref r0)]))
  refine own_copyV X87 hx hby (dv := (.int 0)) hZ (by exact hml) hown (own_w hw 114 rfl) (own_w hw 117 rfl) (own_w hw 115 rfl) (own_w hw 116 rfl) e87 (H12.keep K87 nin_r0) V87 rfl rfl rfl (by decide) (by decide) (by decide) (Nat.le_of_ble_eq_true rfl) (Nat.le_of_ble_eq_true rfl) N70 n0_b87 (by decide) 0 (Nat.le_of_eq rfl) (by decide) d_14_11__163 (pc' := 166) rfl ?_
  intro T98 h98 L98 X98 e98 Nn98 K98 V98
  replace V98 : AV Z h98 b87 .int [(.int (0 : Int32)), (.int (0 : Int32))] := V98
  have V99_cu := V88_cu.keep K98 (ninS ne_cu_b87 nin0)
  have Y100_cu := Y89_cu.keep K98 
  have E101_rl := E90_rl.keep K98 
  have F102_modCount := F91_modCount.keep K98 (ninS ne_rl_b87 nin0)
  have F103_elementData := F92_elementData.keep K98 (ninS ne_rl_b87 nin0)
  have F104_size := F93_size.keep K98 (ninS ne_rl_b87 nin0)
  have V105_es := V94_es.keep K98 (ninS ne_es_b87 nin0)
  have Y106_es := Y95_es.keep K98 
  have V107_b28 := V96_b28.keep K98 (ninS ne_b28_b87 nin0)
  have E108_b28 := E97_b28.keep K98 
  have E109_b87 := A87.keep K98 
  have KC98 : Keep h0 h98 [cu, rl, es] := K87.trans K98 (allS (Or.inr sz_b87) all0)
  have ZC98 : n0 ≤ h98.size := Nat.le_trans Z87 K98.1
  refine own_aload X98 hx hby d_14_11__166 rfl rfl (pc' := 168) rfl ?_
  refine own_iloadN X98 hx hby d_14_11__168 rfl (pc' := 169) rfl ?_
  refine own_aload X98 hx hby d_14_11__169 rfl rfl (pc' := 171) rfl ?_
  refine own_iloadN X98 hx hby d_14_11__171 rfl (pc' := 172) rfl ?_
  refine own_iconst X98 hx hby d_14_11__172 (v := (1 : Int32)) rfl (pc' := 173) rfl ?_
  refine own_iadd X98 hx hby d_14_11__173 (pc' := 174) rfl ?_
  show GoP p e below Φ (T98.setTop (mkF m 174 #[.val (.ref g), .val (.ref aC), .val (.int pt), .val (.int (0 : Int32)), .val (.ref c1), .val (.ref b28), .val (.int (0 : Int32)), .val (.ref r0), .val (.ref b87)] [(.int (1 : Int32)), (.ref b87), (.int (0 : Int32)), (.ref r0)]))
  refine own_aload X98 hx hby d_14_11__174 rfl rfl (pc' := 176) rfl ?_
  refine own_alen X98 hx hby hZ e98 (n := (1 : Int32)) (H12.keep KC98 nin_r0) rfl d_14_11__176 (pc' := 177) rfl ?_
  refine own_iloadN X98 hx hby d_14_11__177 rfl (pc' := 178) rfl ?_
  refine own_isub X98 hx hby d_14_11__178 (pc' := 179) rfl ?_
  show GoP p e below Φ (T98.setTop (mkF m 179 #[.val (.ref g), .val (.ref aC), .val (.int pt), .val (.int (0 : Int32)), .val (.ref c1), .val (.ref b28), .val (.int (0 : Int32)), .val (.ref r0), .val (.ref b87)] [(.int (1 : Int32)), (.int (1 : Int32)), (.ref b87), (.int (0 : Int32)), (.ref r0)]))
  refine own_copyV X98 hx hby (dv := (.int 0)) hZ (by exact hml) hown (own_w hw 114 rfl) (own_w hw 117 rfl) (own_w hw 115 rfl) (own_w hw 116 rfl) e98 (H12.keep KC98 nin_r0) V98 rfl rfl rfl (by decide) (by decide) (by decide) (Nat.le_of_ble_eq_true rfl) (Nat.le_of_ble_eq_true rfl) Nn98 n0_b87 (by decide) 0 (Nat.le_of_eq rfl) (by decide) d_14_11__179 (pc' := 182) rfl ?_
  intro T110 h110 L110 X110 e110 Nn110 K110 V110
  replace V110 : AV Z h110 b87 .int [(.int (0 : Int32)), (.int (0 : Int32))] := V110
  have V111_cu := V99_cu.keep K110 (ninS ne_cu_b87 nin0)
  have Y112_cu := Y100_cu.keep K110 
  have E113_rl := E101_rl.keep K110 
  have F114_modCount := F102_modCount.keep K110 (ninS ne_rl_b87 nin0)
  have F115_elementData := F103_elementData.keep K110 (ninS ne_rl_b87 nin0)
  have F116_size := F104_size.keep K110 (ninS ne_rl_b87 nin0)
  have V117_es := V105_es.keep K110 (ninS ne_es_b87 nin0)
  have Y118_es := Y106_es.keep K110 
  have V119_b28 := V107_b28.keep K110 (ninS ne_b28_b87 nin0)
  have E120_b28 := E108_b28.keep K110 
  have E121_b87 := E109_b87.keep K110 
  have KC110 : Keep h0 h110 [cu, rl, es] := KC98.trans K110 (allS (Or.inr sz_b87) all0)
  have ZC110 : n0 ≤ h110.size := Nat.le_trans ZC98 K110.1
  refine own_aloadN X110 hx hby d_14_11__182 rfl rfl (pc' := 183) rfl ?_
  refine own_getF X110 hx hby hZ hown (host := "") (Or.inl (own_w hw 49 rfl)) Via.refl e110 (H1.keep KC110 nin_g) d_14_11__183 (pc' := 186) rfl ?_
  intro T122 X122 e122
  refine own_iload X122 hx hby d_14_11__186 rfl (pc' := 188) rfl ?_
  refine own_aload X122 hx hby d_14_11__188 rfl rfl (pc' := 190) rfl ?_
  refine own_callF X122 hx hby hZ (by exact hml) hown (x0 := (⟨"java/util/List", "set", "(ILjava/lang/Object;)Ljava/lang/Object;"⟩ : MethodName)) (y := (⟨"java/util/ArrayList", "set", "(ILjava/lang/Object;)Ljava/lang/Object;"⟩ : MethodName)) (own_w hw 168 rfl) (own_w hw 169 rfl) (own_w hw 170 rfl) (own_w hw 171 rfl) (own_w hw 172 rfl) (own_w hw 173 rfl) (own_w hw 174 rfl) (own_w hw 69 rfl) (own_w hw 27 rfl) rfl (own_w hw 175 rfl) (by decide) e122 0 (by decide) (by decide) (by decide) (by decide) (argsL := [(.int (0 : Int32)), (.ref b87)]) (rest := []) (lenOf pd__ILjava_lang_Object__Ljava_lang_Object_ rfl) rfl (Nat.le_of_eq rfl) E113_rl (rmS0 l Z a0 hw rl es r0 b87 (3 : Int32) (.ref r1) (.ref r2) .null .null .null .null .null .null .null n0 h110 n0_es (Ne.symm ne14_es_rl) (Ne.symm ne_es_b87) (by decide) Y118_es E121_b87 E113_rl F116_size F115_elementData V117_es) d_14_11__190 (pc' := 195) rfl ?_
  intro v123 T123 L123 X123 hQ123
  obtain ⟨rfl, Nq123, K123, V123⟩ := hQ123
  have V124_cu := V111_cu.keep K123 (ninS (Ne.symm ne6_es_cu) nin0)
  have Y125_cu := Y112_cu.keep K123
  have E126_rl := E113_rl.keep K123
  have F127_modCount := F114_modCount.keep K123 (ninS (Ne.symm ne14_es_rl) nin0)
  have F128_elementData := F115_elementData.keep K123 (ninS (Ne.symm ne14_es_rl) nin0)
  have F129_size := F116_size.keep K123 (ninS (Ne.symm ne14_es_rl) nin0)
  have Y130_es := Y118_es.keep K123
  have V131_b28 := V119_b28.keep K123 (ninS (Ne.symm ne_es_b28) nin0)
  have E132_b28 := E120_b28.keep K123
  have V133_b87 := V110.keep K123 (ninS (Ne.symm ne_es_b87) nin0)
  have E134_b87 := E121_b87.keep K123
  have N123 := Fr.app Nn110 Nq123
  have Z123 : n0 ≤ T123.heap.size := Nat.le_trans ZC110 K123.1
  have KK123 : Keep h0 T123.heap [cu, rl, es] := KC110.trans K123 (allS (Or.inl (List.mem_of_getElem? (i := 2) rfl)) all0)
  show GoP p e below Φ (T123.setTop (mkF m 195 #[.val (.ref g), .val (.ref aC), .val (.int pt), .val (.int (0 : Int32)), .val (.ref c1), .val (.ref b28), .val (.int (0 : Int32)), .val (.ref r0), .val (.ref b87)] [(.ref r0)]))
  refine own_pop X123 hx hby d_14_11__195 rfl (pc' := 196) rfl ?_
  refine own_iinc X123 hx hby d_14_11__196 rfl (v := (1 : Int32)) rfl (Ls' := #[.val (.ref g), .val (.ref aC), .val (.int pt), .val (.int (0 : Int32)), .val (.ref c1), .val (.ref b28), .val (.int (1 : Int32)), .val (.ref r0), .val (.ref b87)]) rfl (pc' := 199) rfl ?_
  refine own_goto X123 hx hby d_14_11__199 (by decide) (pc' := 115) (by decide) ?_
  refine own_iload X123 hx hby d_14_11__115 rfl (pc' := 117) rfl ?_
  refine own_aloadN X123 hx hby d_14_11__117 rfl rfl (pc' := 118) rfl ?_
  refine own_getF X123 hx hby hZ hown (host := "") (Or.inl (own_w hw 49 rfl)) Via.refl rfl (H1.keep KK123 nin_g) d_14_11__118 (pc' := 121) rfl ?_
  intro T135 X135 e135
  refine own_callF X135 hx hby hZ (by exact hml) hown (x0 := (⟨"java/util/List", "size", "()I"⟩ : MethodName)) (y := (⟨"java/util/ArrayList", "size", "()I"⟩ : MethodName)) (own_w hw 160 rfl) (own_w hw 161 rfl) (own_w hw 162 rfl) (own_w hw 163 rfl) (own_w hw 164 rfl) (own_w hw 165 rfl) (own_w hw 166 rfl) (own_w hw 69 rfl) (own_w hw 27 rfl) rfl (own_w hw 167 rfl) (by decide) e135 1 (by decide) (by decide) (by decide) (by decide) (argsL := []) (rest := [(.int (1 : Int32))]) (lenOf pd___I rfl) rfl (Nat.le_of_eq rfl) E126_rl (rmSz l Z a0 hw rl (3 : Int32) T123.heap F129_size) d_14_11__121 (pc' := 126) rfl ?_
  intro v136 T136 L136 X136 hQ136
  obtain ⟨rfl, rfl, e136⟩ := hQ136
  rw [List.append_nil] at X136
  replace e136 : T136.heap = T123.heap := e136
  show GoP p e below Φ (T136.setTop (mkF m 126 #[.val (.ref g), .val (.ref aC), .val (.int pt), .val (.int (0 : Int32)), .val (.ref c1), .val (.ref b28), .val (.int (1 : Int32)), .val (.ref r0), .val (.ref b87)] [(.int (3 : Int32)), (.int (1 : Int32))]))
  refine own_icmpN X136 hx hby d_14_11__126 (tlt (by decide)).2.1 (pc' := 129) rfl ?_
  refine own_aloadN X136 hx hby d_14_11__129 rfl rfl (pc' := 130) rfl ?_
  refine own_getF X136 hx hby hZ hown (host := "") (Or.inl (own_w hw 49 rfl)) Via.refl e136 (H1.keep KK123 nin_g) d_14_11__130 (pc' := 133) rfl ?_
  intro T137 X137 e137
  refine own_iload X137 hx hby d_14_11__133 rfl (pc' := 135) rfl ?_
  refine own_callF X137 hx hby hZ (by exact hml) hown (x0 := (⟨"java/util/List", "get", "(I)Ljava/lang/Object;"⟩ : MethodName)) (y := (⟨"java/util/ArrayList", "get", "(I)Ljava/lang/Object;"⟩ : MethodName)) (own_w hw 118 rfl) (own_w hw 119 rfl) (own_w hw 120 rfl) (own_w hw 121 rfl) (own_w hw 122 rfl) (own_w hw 123 rfl) (own_w hw 124 rfl) (own_w hw 69 rfl) (own_w hw 27 rfl) rfl (own_w hw 125 rfl) (by decide) e137 0 (by decide) (by decide) (by decide) (by decide) (argsL := [(.int (1 : Int32))]) (rest := []) (lenOf pd__I_Ljava_lang_Object_ rfl) rfl (Nat.le_of_eq rfl) E126_rl (rmG1 l Z a0 hw rl es r1 (3 : Int32) (.ref b87) (.ref r2) .null .null .null .null .null .null .null T123.heap (by decide) E126_rl F129_size F128_elementData V123) d_14_11__135 (pc' := 140) rfl ?_
  intro v138 T138 L138 X138 hQ138
  obtain ⟨rfl, rfl, e138⟩ := hQ138
  rw [List.append_nil] at X138
  replace e138 : T138.heap = T123.heap := e138
  show GoP p e below Φ (T138.setTop (mkF m 140 #[.val (.ref g), .val (.ref aC), .val (.int pt), .val (.int (0 : Int32)), .val (.ref c1), .val (.ref b28), .val (.int (1 : Int32)), .val (.ref r0), .val (.ref b87)] [(.ref r1)]))
  obtain ⟨T139, X139, e139, st139⟩ := castY X138 hx hZ hown (own_w hw 20 rfl) e138 (Ins.self (H15.keep KK123)) (g := (mkF m 140 #[.val (.ref g), .val (.ref aC), .val (.int pt), .val (.int (0 : Int32)), .val (.ref c1), .val (.ref b28), .val (.int (1 : Int32)), .val (.ref r0), .val (.ref b87)] [(.ref r1)])) rfl rfl (hb hby d_14_11__140)
  refine own_step st139 ?_
  show GoP p e below Φ (T139.setTop (mkF m 143 #[.val (.ref g), .val (.ref aC), .val (.int pt), .val (.int (0 : Int32)), .val (.ref c1), .val (.ref b28), .val (.int (1 : Int32)), .val (.ref r0), .val (.ref b87)] [(.ref r1)]))
  refine own_astore X139 hx hby d_14_11__143 rfl (Ls' := #[.val (.ref g), .val (.ref aC), .val (.int pt), .val (.int (0 : Int32)), .val (.ref c1), .val (.ref b28), .val (.int (1 : Int32)), .val (.ref r1), .val (.ref b87)]) rfl (pc' := 145) rfl ?_
  refine own_aload X139 hx hby d_14_11__145 rfl rfl (pc' := 147) rfl ?_
  refine own_alen X139 hx hby hZ e139 (n := (1 : Int32)) (H14.keep KK123 nin_r1) rfl d_14_11__147 (pc' := 148) rfl ?_
  refine own_iconst X139 hx hby d_14_11__148 (v := (1 : Int32)) rfl (pc' := 149) rfl ?_
  refine own_iadd X139 hx hby d_14_11__149 (pc' := 150) rfl ?_
  show GoP p e below Φ (T139.setTop (mkF m 150 #[.val (.ref g), .val (.ref aC), .val (.int pt), .val (.int (0 : Int32)), .val (.ref c1), .val (.ref b28), .val (.int (1 : Int32)), .val (.ref r1), .val (.ref b87)] [(.int (2 : Int32))]))
  refine own_newI X139 hx hby hZ (own_w hw 17 rfl) e139 (by decide) 2 (by decide) (by decide) (by decide) (by decide) d_14_11__150 (pc' := 152) rfl ?_
  intro T140 h140 b140 X140 e140 E140 g140 V140 I140 A140
  have ne_cu_b140 : cu ≠ b140 := Nat.ne_of_lt (g140 ▸ V124_cu.lt)
  have ne_rl_b140 : rl ≠ b140 := Nat.ne_of_lt (g140 ▸ E126_rl.lt)
  have ne_es_b140 : es ≠ b140 := Nat.ne_of_lt (g140 ▸ V123.lt)
  have ne_b28_b140 : b28 ≠ b140 := Nat.ne_of_lt (g140 ▸ V131_b28.lt)
  have ne_b87_b140 : b87 ≠ b140 := Nat.ne_of_lt (g140 ▸ V133_b87.lt)
  have V141_cu := V124_cu.ext E140
  have Y142_cu := Y125_cu.ext E140
  have E143_rl := E126_rl.ext E140
  have F144_modCount := F127_modCount.ext E140
  have F145_elementData := F128_elementData.ext E140
  have F146_size := F129_size.ext E140
  have V147_es := V123.ext E140
  have Y148_es := Y130_es.ext E140
  have V149_b28 := V131_b28.ext E140
  have E150_b28 := E132_b28.ext E140
  have V151_b87 := V133_b87.ext E140
  have E152_b87 := E134_b87.ext E140
  have Z140 : n0 ≤ h140.size := Nat.le_trans Z123 E140.1
  have n0_b140 : n0 ≤ b140 := g140 ▸ Z123
  have sz_b140 : h0.size ≤ b140 := g140 ▸ KK123.1
  have K140 : Keep h0 h140 [cu, rl, es] := KK123.ext E140
  replace V140 : AV Z h140 b140 .int [(.int (0 : Int32)), (.int (0 : Int32))] := V140
  show GoP p e below Φ (T140.setTop (mkF m 152 #[.val (.ref g), .val (.ref aC), .val (.int pt), .val (.int (0 : Int32)), .val (.ref c1), .val (.ref b28), .val (.int (1 : Int32)), .val (.ref r1), .val (.ref b87)] [(.ref b140)]))
  refine own_astore X140 hx hby d_14_11__152 rfl (Ls' := #[.val (.ref g), .val (.ref aC), .val (.int pt), .val (.int (0 : Int32)), .val (.ref c1), .val (.ref b28), .val (.int (1 : Int32)), .val (.ref r1), .val (.ref b140)]) rfl (pc' := 154) rfl ?_
  refine own_aload X140 hx hby d_14_11__154 rfl rfl (pc' := 156) rfl ?_
  refine own_iconst X140 hx hby d_14_11__156 (v := (0 : Int32)) rfl (pc' := 157) rfl ?_
  refine own_aload X140 hx hby d_14_11__157 rfl rfl (pc' := 159) rfl ?_
  refine own_iconst X140 hx hby d_14_11__159 (v := (0 : Int32)) rfl (pc' := 160) rfl ?_
  refine own_iloadN X140 hx hby d_14_11__160 rfl (pc' := 161) rfl ?_
  refine own_iconst X140 hx hby d_14_11__161 (v := (1 : Int32)) rfl (pc' := 162) rfl ?_
  refine own_iadd X140 hx hby d_14_11__162 (pc' := 163) rfl ?_
  show GoP p e below Φ (T140.setTop (mkF m 163 #[.val (.ref g), .val (.ref aC), .val (.int pt), .val (.int (0 : Int32)), .val (.ref c1), .val (.ref b28), .val (.int (1 : Int32)), .val (.ref r1), .val (.ref b140)] [(.int (1 : Int32)), (.int (0 : Int32)), (.ref b140), (.int (0 : Int32)), (.ref r1)]))
  refine own_copyV X140 hx hby (dv := (.int 0)) hZ (by exact hml) hown (own_w hw 114 rfl) (own_w hw 117 rfl) (own_w hw 115 rfl) (own_w hw 116 rfl) e140 (H14.keep K140 nin_r1) V140 rfl rfl rfl (by decide) (by decide) (by decide) (Nat.le_of_ble_eq_true rfl) (Nat.le_of_ble_eq_true rfl) N123 n0_b140 (by decide) 0 (Nat.le_of_eq rfl) (by decide) d_14_11__163 (pc' := 166) rfl ?_
  intro T153 h153 L153 X153 e153 Nn153 K153 V153
  replace V153 : AV Z h153 b140 .int [(.int (0 : Int32)), (.int (0 : Int32))] := V153
  have V154_cu := V141_cu.keep K153 (ninS ne_cu_b140 nin0)
  have Y155_cu := Y142_cu.keep K153 
  have E156_rl := E143_rl.keep K153 
  have F157_modCount := F144_modCount.keep K153 (ninS ne_rl_b140 nin0)
  have F158_elementData := F145_elementData.keep K153 (ninS ne_rl_b140 nin0)
  have F159_size := F146_size.keep K153 (ninS ne_rl_b140 nin0)
  have V160_es := V147_es.keep K153 (ninS ne_es_b140 nin0)
  have Y161_es := Y148_es.keep K153 
  have V162_b28 := V149_b28.keep K153 (ninS ne_b28_b140 nin0)
  have E163_b28 := E150_b28.keep K153 
  have V164_b87 := V151_b87.keep K153 (ninS ne_b87_b140 nin0)
  have E165_b87 := E152_b87.keep K153 
  have E166_b140 := A140.keep K153 
  have KC153 : Keep h0 h153 [cu, rl, es] := K140.trans K153 (allS (Or.inr sz_b140) all0)
  have ZC153 : n0 ≤ h153.size := Nat.le_trans Z140 K153.1
  refine own_aload X153 hx hby d_14_11__166 rfl rfl (pc' := 168) rfl ?_
  refine own_iloadN X153 hx hby d_14_11__168 rfl (pc' := 169) rfl ?_
  refine own_aload X153 hx hby d_14_11__169 rfl rfl (pc' := 171) rfl ?_
  refine own_iloadN X153 hx hby d_14_11__171 rfl (pc' := 172) rfl ?_
  refine own_iconst X153 hx hby d_14_11__172 (v := (1 : Int32)) rfl (pc' := 173) rfl ?_
  refine own_iadd X153 hx hby d_14_11__173 (pc' := 174) rfl ?_
  show GoP p e below Φ (T153.setTop (mkF m 174 #[.val (.ref g), .val (.ref aC), .val (.int pt), .val (.int (0 : Int32)), .val (.ref c1), .val (.ref b28), .val (.int (1 : Int32)), .val (.ref r1), .val (.ref b140)] [(.int (1 : Int32)), (.ref b140), (.int (0 : Int32)), (.ref r1)]))
  refine own_aload X153 hx hby d_14_11__174 rfl rfl (pc' := 176) rfl ?_
  refine own_alen X153 hx hby hZ e153 (n := (1 : Int32)) (H14.keep KC153 nin_r1) rfl d_14_11__176 (pc' := 177) rfl ?_
  refine own_iloadN X153 hx hby d_14_11__177 rfl (pc' := 178) rfl ?_
  refine own_isub X153 hx hby d_14_11__178 (pc' := 179) rfl ?_
  show GoP p e below Φ (T153.setTop (mkF m 179 #[.val (.ref g), .val (.ref aC), .val (.int pt), .val (.int (0 : Int32)), .val (.ref c1), .val (.ref b28), .val (.int (1 : Int32)), .val (.ref r1), .val (.ref b140)] [(.int (1 : Int32)), (.int (1 : Int32)), (.ref b140), (.int (0 : Int32)), (.ref r1)]))
  refine own_copyV X153 hx hby (dv := (.int 0)) hZ (by exact hml) hown (own_w hw 114 rfl) (own_w hw 117 rfl) (own_w hw 115 rfl) (own_w hw 116 rfl) e153 (H14.keep KC153 nin_r1) V153 rfl rfl rfl (by decide) (by decide) (by decide) (Nat.le_of_ble_eq_true rfl) (Nat.le_of_ble_eq_true rfl) Nn153 n0_b140 (by decide) 0 (Nat.le_of_eq rfl) (by decide) d_14_11__179 (pc' := 182) rfl ?_
  intro T167 h167 L167 X167 e167 Nn167 K167 V167
  replace V167 : AV Z h167 b140 .int [(.int (0 : Int32)), (.int (0 : Int32))] := V167
  have V168_cu := V154_cu.keep K167 (ninS ne_cu_b140 nin0)
  have Y169_cu := Y155_cu.keep K167 
  have E170_rl := E156_rl.keep K167 
  have F171_modCount := F157_modCount.keep K167 (ninS ne_rl_b140 nin0)
  have F172_elementData := F158_elementData.keep K167 (ninS ne_rl_b140 nin0)
  have F173_size := F159_size.keep K167 (ninS ne_rl_b140 nin0)
  have V174_es := V160_es.keep K167 (ninS ne_es_b140 nin0)
  have Y175_es := Y161_es.keep K167 
  have V176_b28 := V162_b28.keep K167 (ninS ne_b28_b140 nin0)
  have E177_b28 := E163_b28.keep K167 
  have V178_b87 := V164_b87.keep K167 (ninS ne_b87_b140 nin0)
  have E179_b87 := E165_b87.keep K167 
  have E180_b140 := E166_b140.keep K167 
  have KC167 : Keep h0 h167 [cu, rl, es] := KC153.trans K167 (allS (Or.inr sz_b140) all0)
  have ZC167 : n0 ≤ h167.size := Nat.le_trans ZC153 K167.1
  refine own_aloadN X167 hx hby d_14_11__182 rfl rfl (pc' := 183) rfl ?_
  refine own_getF X167 hx hby hZ hown (host := "") (Or.inl (own_w hw 49 rfl)) Via.refl e167 (H1.keep KC167 nin_g) d_14_11__183 (pc' := 186) rfl ?_
  intro T181 X181 e181
  refine own_iload X181 hx hby d_14_11__186 rfl (pc' := 188) rfl ?_
  refine own_aload X181 hx hby d_14_11__188 rfl rfl (pc' := 190) rfl ?_
  refine own_callF X181 hx hby hZ (by exact hml) hown (x0 := (⟨"java/util/List", "set", "(ILjava/lang/Object;)Ljava/lang/Object;"⟩ : MethodName)) (y := (⟨"java/util/ArrayList", "set", "(ILjava/lang/Object;)Ljava/lang/Object;"⟩ : MethodName)) (own_w hw 168 rfl) (own_w hw 169 rfl) (own_w hw 170 rfl) (own_w hw 171 rfl) (own_w hw 172 rfl) (own_w hw 173 rfl) (own_w hw 174 rfl) (own_w hw 69 rfl) (own_w hw 27 rfl) rfl (own_w hw 175 rfl) (by decide) e181 0 (by decide) (by decide) (by decide) (by decide) (argsL := [(.int (1 : Int32)), (.ref b140)]) (rest := []) (lenOf pd__ILjava_lang_Object__Ljava_lang_Object_ rfl) rfl (Nat.le_of_eq rfl) E170_rl (rmS1 l Z a0 hw rl es r1 b140 (3 : Int32) (.ref b87) (.ref r2) .null .null .null .null .null .null .null n0 h167 n0_es (Ne.symm ne14_es_rl) (Ne.symm ne_es_b140) (by decide) Y175_es E180_b140 E170_rl F173_size F172_elementData V174_es) d_14_11__190 (pc' := 195) rfl ?_
  intro v182 T182 L182 X182 hQ182
  obtain ⟨rfl, Nq182, K182, V182⟩ := hQ182
  have V183_cu := V168_cu.keep K182 (ninS (Ne.symm ne6_es_cu) nin0)
  have Y184_cu := Y169_cu.keep K182
  have E185_rl := E170_rl.keep K182
  have F186_modCount := F171_modCount.keep K182 (ninS (Ne.symm ne14_es_rl) nin0)
  have F187_elementData := F172_elementData.keep K182 (ninS (Ne.symm ne14_es_rl) nin0)
  have F188_size := F173_size.keep K182 (ninS (Ne.symm ne14_es_rl) nin0)
  have Y189_es := Y175_es.keep K182
  have V190_b28 := V176_b28.keep K182 (ninS (Ne.symm ne_es_b28) nin0)
  have E191_b28 := E177_b28.keep K182
  have V192_b87 := V178_b87.keep K182 (ninS (Ne.symm ne_es_b87) nin0)
  have E193_b87 := E179_b87.keep K182
  have V194_b140 := V167.keep K182 (ninS (Ne.symm ne_es_b140) nin0)
  have E195_b140 := E180_b140.keep K182
  have N182 := Fr.app Nn167 Nq182
  have Z182 : n0 ≤ T182.heap.size := Nat.le_trans ZC167 K182.1
  have KK182 : Keep h0 T182.heap [cu, rl, es] := KC167.trans K182 (allS (Or.inl (List.mem_of_getElem? (i := 2) rfl)) all0)
  show GoP p e below Φ (T182.setTop (mkF m 195 #[.val (.ref g), .val (.ref aC), .val (.int pt), .val (.int (0 : Int32)), .val (.ref c1), .val (.ref b28), .val (.int (1 : Int32)), .val (.ref r1), .val (.ref b140)] [(.ref r1)]))
  refine own_pop X182 hx hby d_14_11__195 rfl (pc' := 196) rfl ?_
  refine own_iinc X182 hx hby d_14_11__196 rfl (v := (1 : Int32)) rfl (Ls' := #[.val (.ref g), .val (.ref aC), .val (.int pt), .val (.int (0 : Int32)), .val (.ref c1), .val (.ref b28), .val (.int (2 : Int32)), .val (.ref r1), .val (.ref b140)]) rfl (pc' := 199) rfl ?_
  refine own_goto X182 hx hby d_14_11__199 (by decide) (pc' := 115) (by decide) ?_
  refine own_iload X182 hx hby d_14_11__115 rfl (pc' := 117) rfl ?_
  refine own_aloadN X182 hx hby d_14_11__117 rfl rfl (pc' := 118) rfl ?_
  refine own_getF X182 hx hby hZ hown (host := "") (Or.inl (own_w hw 49 rfl)) Via.refl rfl (H1.keep KK182 nin_g) d_14_11__118 (pc' := 121) rfl ?_
  intro T196 X196 e196
  refine own_callF X196 hx hby hZ (by exact hml) hown (x0 := (⟨"java/util/List", "size", "()I"⟩ : MethodName)) (y := (⟨"java/util/ArrayList", "size", "()I"⟩ : MethodName)) (own_w hw 160 rfl) (own_w hw 161 rfl) (own_w hw 162 rfl) (own_w hw 163 rfl) (own_w hw 164 rfl) (own_w hw 165 rfl) (own_w hw 166 rfl) (own_w hw 69 rfl) (own_w hw 27 rfl) rfl (own_w hw 167 rfl) (by decide) e196 1 (by decide) (by decide) (by decide) (by decide) (argsL := []) (rest := [(.int (2 : Int32))]) (lenOf pd___I rfl) rfl (Nat.le_of_eq rfl) E185_rl (rmSz l Z a0 hw rl (3 : Int32) T182.heap F188_size) d_14_11__121 (pc' := 126) rfl ?_
  intro v197 T197 L197 X197 hQ197
  obtain ⟨rfl, rfl, e197⟩ := hQ197
  rw [List.append_nil] at X197
  replace e197 : T197.heap = T182.heap := e197
  show GoP p e below Φ (T197.setTop (mkF m 126 #[.val (.ref g), .val (.ref aC), .val (.int pt), .val (.int (0 : Int32)), .val (.ref c1), .val (.ref b28), .val (.int (2 : Int32)), .val (.ref r1), .val (.ref b140)] [(.int (3 : Int32)), (.int (2 : Int32))]))
  refine own_icmpN X197 hx hby d_14_11__126 (tlt (by decide)).2.1 (pc' := 129) rfl ?_
  refine own_aloadN X197 hx hby d_14_11__129 rfl rfl (pc' := 130) rfl ?_
  refine own_getF X197 hx hby hZ hown (host := "") (Or.inl (own_w hw 49 rfl)) Via.refl e197 (H1.keep KK182 nin_g) d_14_11__130 (pc' := 133) rfl ?_
  intro T198 X198 e198
  refine own_iload X198 hx hby d_14_11__133 rfl (pc' := 135) rfl ?_
  refine own_callF X198 hx hby hZ (by exact hml) hown (x0 := (⟨"java/util/List", "get", "(I)Ljava/lang/Object;"⟩ : MethodName)) (y := (⟨"java/util/ArrayList", "get", "(I)Ljava/lang/Object;"⟩ : MethodName)) (own_w hw 118 rfl) (own_w hw 119 rfl) (own_w hw 120 rfl) (own_w hw 121 rfl) (own_w hw 122 rfl) (own_w hw 123 rfl) (own_w hw 124 rfl) (own_w hw 69 rfl) (own_w hw 27 rfl) rfl (own_w hw 125 rfl) (by decide) e198 0 (by decide) (by decide) (by decide) (by decide) (argsL := [(.int (2 : Int32))]) (rest := []) (lenOf pd__I_Ljava_lang_Object_ rfl) rfl (Nat.le_of_eq rfl) E185_rl (rmG2 l Z a0 hw rl es r2 (3 : Int32) (.ref b87) (.ref b140) .null .null .null .null .null .null .null T182.heap (by decide) E185_rl F188_size F187_elementData V182) d_14_11__135 (pc' := 140) rfl ?_
  intro v199 T199 L199 X199 hQ199
  obtain ⟨rfl, rfl, e199⟩ := hQ199
  rw [List.append_nil] at X199
  replace e199 : T199.heap = T182.heap := e199
  show GoP p e below Φ (T199.setTop (mkF m 140 #[.val (.ref g), .val (.ref aC), .val (.int pt), .val (.int (0 : Int32)), .val (.ref c1), .val (.ref b28), .val (.int (2 : Int32)), .val (.ref r1), .val (.ref b140)] [(.ref r2)]))
  obtain ⟨T200, X200, e200, st200⟩ := castY X199 hx hZ hown (own_w hw 20 rfl) e199 (Ins.self (H17.keep KK182)) (g := (mkF m 140 #[.val (.ref g), .val (.ref aC), .val (.int pt), .val (.int (0 : Int32)), .val (.ref c1), .val (.ref b28), .val (.int (2 : Int32)), .val (.ref r1), .val (.ref b140)] [(.ref r2)])) rfl rfl (hb hby d_14_11__140)
  refine own_step st200 ?_
  show GoP p e below Φ (T200.setTop (mkF m 143 #[.val (.ref g), .val (.ref aC), .val (.int pt), .val (.int (0 : Int32)), .val (.ref c1), .val (.ref b28), .val (.int (2 : Int32)), .val (.ref r1), .val (.ref b140)] [(.ref r2)]))
  refine own_astore X200 hx hby d_14_11__143 rfl (Ls' := #[.val (.ref g), .val (.ref aC), .val (.int pt), .val (.int (0 : Int32)), .val (.ref c1), .val (.ref b28), .val (.int (2 : Int32)), .val (.ref r2), .val (.ref b140)]) rfl (pc' := 145) rfl ?_
  refine own_aload X200 hx hby d_14_11__145 rfl rfl (pc' := 147) rfl ?_
  refine own_alen X200 hx hby hZ e200 (n := (1 : Int32)) (H16.keep KK182 nin_r2) rfl d_14_11__147 (pc' := 148) rfl ?_
  refine own_iconst X200 hx hby d_14_11__148 (v := (1 : Int32)) rfl (pc' := 149) rfl ?_
  refine own_iadd X200 hx hby d_14_11__149 (pc' := 150) rfl ?_
  show GoP p e below Φ (T200.setTop (mkF m 150 #[.val (.ref g), .val (.ref aC), .val (.int pt), .val (.int (0 : Int32)), .val (.ref c1), .val (.ref b28), .val (.int (2 : Int32)), .val (.ref r2), .val (.ref b140)] [(.int (2 : Int32))]))
  refine own_newI X200 hx hby hZ (own_w hw 17 rfl) e200 (by decide) 2 (by decide) (by decide) (by decide) (by decide) d_14_11__150 (pc' := 152) rfl ?_
  intro T201 h201 b201 X201 e201 E201 g201 V201 I201 A201
  have ne_cu_b201 : cu ≠ b201 := Nat.ne_of_lt (g201 ▸ V183_cu.lt)
  have ne_rl_b201 : rl ≠ b201 := Nat.ne_of_lt (g201 ▸ E185_rl.lt)
  have ne_es_b201 : es ≠ b201 := Nat.ne_of_lt (g201 ▸ V182.lt)
  have ne_b28_b201 : b28 ≠ b201 := Nat.ne_of_lt (g201 ▸ V190_b28.lt)
  have ne_b87_b201 : b87 ≠ b201 := Nat.ne_of_lt (g201 ▸ V192_b87.lt)
  have ne_b140_b201 : b140 ≠ b201 := Nat.ne_of_lt (g201 ▸ V194_b140.lt)
  have V202_cu := V183_cu.ext E201
  have Y203_cu := Y184_cu.ext E201
  have E204_rl := E185_rl.ext E201
  have F205_modCount := F186_modCount.ext E201
  have F206_elementData := F187_elementData.ext E201
  have F207_size := F188_size.ext E201
  have V208_es := V182.ext E201
  have Y209_es := Y189_es.ext E201
  have V210_b28 := V190_b28.ext E201
  have E211_b28 := E191_b28.ext E201
  have V212_b87 := V192_b87.ext E201
  have E213_b87 := E193_b87.ext E201
  have V214_b140 := V194_b140.ext E201
  have E215_b140 := E195_b140.ext E201
  have Z201 : n0 ≤ h201.size := Nat.le_trans Z182 E201.1
  have n0_b201 : n0 ≤ b201 := g201 ▸ Z182
  have sz_b201 : h0.size ≤ b201 := g201 ▸ KK182.1
  have K201 : Keep h0 h201 [cu, rl, es] := KK182.ext E201
  replace V201 : AV Z h201 b201 .int [(.int (0 : Int32)), (.int (0 : Int32))] := V201
  show GoP p e below Φ (T201.setTop (mkF m 152 #[.val (.ref g), .val (.ref aC), .val (.int pt), .val (.int (0 : Int32)), .val (.ref c1), .val (.ref b28), .val (.int (2 : Int32)), .val (.ref r2), .val (.ref b140)] [(.ref b201)]))
  refine own_astore X201 hx hby d_14_11__152 rfl (Ls' := #[.val (.ref g), .val (.ref aC), .val (.int pt), .val (.int (0 : Int32)), .val (.ref c1), .val (.ref b28), .val (.int (2 : Int32)), .val (.ref r2), .val (.ref b201)]) rfl (pc' := 154) rfl ?_
  refine own_aload X201 hx hby d_14_11__154 rfl rfl (pc' := 156) rfl ?_
  refine own_iconst X201 hx hby d_14_11__156 (v := (0 : Int32)) rfl (pc' := 157) rfl ?_
  refine own_aload X201 hx hby d_14_11__157 rfl rfl (pc' := 159) rfl ?_
  refine own_iconst X201 hx hby d_14_11__159 (v := (0 : Int32)) rfl (pc' := 160) rfl ?_
  refine own_iloadN X201 hx hby d_14_11__160 rfl (pc' := 161) rfl ?_
  refine own_iconst X201 hx hby d_14_11__161 (v := (1 : Int32)) rfl (pc' := 162) rfl ?_
  refine own_iadd X201 hx hby d_14_11__162 (pc' := 163) rfl ?_
  show GoP p e below Φ (T201.setTop (mkF m 163 #[.val (.ref g), .val (.ref aC), .val (.int pt), .val (.int (0 : Int32)), .val (.ref c1), .val (.ref b28), .val (.int (2 : Int32)), .val (.ref r2), .val (.ref b201)] [(.int (1 : Int32)), (.int (0 : Int32)), (.ref b201), (.int (0 : Int32)), (.ref r2)]))
  refine own_copyV X201 hx hby (dv := (.int 0)) hZ (by exact hml) hown (own_w hw 114 rfl) (own_w hw 117 rfl) (own_w hw 115 rfl) (own_w hw 116 rfl) e201 (H16.keep K201 nin_r2) V201 rfl rfl rfl (by decide) (by decide) (by decide) (Nat.le_of_ble_eq_true rfl) (Nat.le_of_ble_eq_true rfl) N182 n0_b201 (by decide) 0 (Nat.le_of_eq rfl) (by decide) d_14_11__163 (pc' := 166) rfl ?_
  intro T216 h216 L216 X216 e216 Nn216 K216 V216
  replace V216 : AV Z h216 b201 .int [(.int (0 : Int32)), (.int (0 : Int32))] := V216
  have V217_cu := V202_cu.keep K216 (ninS ne_cu_b201 nin0)
  have Y218_cu := Y203_cu.keep K216 
  have E219_rl := E204_rl.keep K216 
  have F220_modCount := F205_modCount.keep K216 (ninS ne_rl_b201 nin0)
  have F221_elementData := F206_elementData.keep K216 (ninS ne_rl_b201 nin0)
  have F222_size := F207_size.keep K216 (ninS ne_rl_b201 nin0)
  have V223_es := V208_es.keep K216 (ninS ne_es_b201 nin0)
  have Y224_es := Y209_es.keep K216 
  have V225_b28 := V210_b28.keep K216 (ninS ne_b28_b201 nin0)
  have E226_b28 := E211_b28.keep K216 
  have V227_b87 := V212_b87.keep K216 (ninS ne_b87_b201 nin0)
  have E228_b87 := E213_b87.keep K216 
  have V229_b140 := V214_b140.keep K216 (ninS ne_b140_b201 nin0)
  have E230_b140 := E215_b140.keep K216 
  have E231_b201 := A201.keep K216 
  have KC216 : Keep h0 h216 [cu, rl, es] := K201.trans K216 (allS (Or.inr sz_b201) all0)
  have ZC216 : n0 ≤ h216.size := Nat.le_trans Z201 K216.1
  refine own_aload X216 hx hby d_14_11__166 rfl rfl (pc' := 168) rfl ?_
  refine own_iloadN X216 hx hby d_14_11__168 rfl (pc' := 169) rfl ?_
  refine own_aload X216 hx hby d_14_11__169 rfl rfl (pc' := 171) rfl ?_
  refine own_iloadN X216 hx hby d_14_11__171 rfl (pc' := 172) rfl ?_
  refine own_iconst X216 hx hby d_14_11__172 (v := (1 : Int32)) rfl (pc' := 173) rfl ?_
  refine own_iadd X216 hx hby d_14_11__173 (pc' := 174) rfl ?_
  show GoP p e below Φ (T216.setTop (mkF m 174 #[.val (.ref g), .val (.ref aC), .val (.int pt), .val (.int (0 : Int32)), .val (.ref c1), .val (.ref b28), .val (.int (2 : Int32)), .val (.ref r2), .val (.ref b201)] [(.int (1 : Int32)), (.ref b201), (.int (0 : Int32)), (.ref r2)]))
  refine own_aload X216 hx hby d_14_11__174 rfl rfl (pc' := 176) rfl ?_
  refine own_alen X216 hx hby hZ e216 (n := (1 : Int32)) (H16.keep KC216 nin_r2) rfl d_14_11__176 (pc' := 177) rfl ?_
  refine own_iloadN X216 hx hby d_14_11__177 rfl (pc' := 178) rfl ?_
  refine own_isub X216 hx hby d_14_11__178 (pc' := 179) rfl ?_
  show GoP p e below Φ (T216.setTop (mkF m 179 #[.val (.ref g), .val (.ref aC), .val (.int pt), .val (.int (0 : Int32)), .val (.ref c1), .val (.ref b28), .val (.int (2 : Int32)), .val (.ref r2), .val (.ref b201)] [(.int (1 : Int32)), (.int (1 : Int32)), (.ref b201), (.int (0 : Int32)), (.ref r2)]))
  refine own_copyV X216 hx hby (dv := (.int 0)) hZ (by exact hml) hown (own_w hw 114 rfl) (own_w hw 117 rfl) (own_w hw 115 rfl) (own_w hw 116 rfl) e216 (H16.keep KC216 nin_r2) V216 rfl rfl rfl (by decide) (by decide) (by decide) (Nat.le_of_ble_eq_true rfl) (Nat.le_of_ble_eq_true rfl) Nn216 n0_b201 (by decide) 0 (Nat.le_of_eq rfl) (by decide) d_14_11__179 (pc' := 182) rfl ?_
  intro T232 h232 L232 X232 e232 Nn232 K232 V232
  replace V232 : AV Z h232 b201 .int [(.int (0 : Int32)), (.int (0 : Int32))] := V232
  have V233_cu := V217_cu.keep K232 (ninS ne_cu_b201 nin0)
  have Y234_cu := Y218_cu.keep K232 
  have E235_rl := E219_rl.keep K232 
  have F236_modCount := F220_modCount.keep K232 (ninS ne_rl_b201 nin0)
  have F237_elementData := F221_elementData.keep K232 (ninS ne_rl_b201 nin0)
  have F238_size := F222_size.keep K232 (ninS ne_rl_b201 nin0)
  have V239_es := V223_es.keep K232 (ninS ne_es_b201 nin0)
  have Y240_es := Y224_es.keep K232 
  have V241_b28 := V225_b28.keep K232 (ninS ne_b28_b201 nin0)
  have E242_b28 := E226_b28.keep K232 
  have V243_b87 := V227_b87.keep K232 (ninS ne_b87_b201 nin0)
  have E244_b87 := E228_b87.keep K232 
  have V245_b140 := V229_b140.keep K232 (ninS ne_b140_b201 nin0)
  have E246_b140 := E230_b140.keep K232 
  have E247_b201 := E231_b201.keep K232 
  have KC232 : Keep h0 h232 [cu, rl, es] := KC216.trans K232 (allS (Or.inr sz_b201) all0)
  have ZC232 : n0 ≤ h232.size := Nat.le_trans ZC216 K232.1
  refine own_aloadN X232 hx hby d_14_11__182 rfl rfl (pc' := 183) rfl ?_
  refine own_getF X232 hx hby hZ hown (host := "") (Or.inl (own_w hw 49 rfl)) Via.refl e232 (H1.keep KC232 nin_g) d_14_11__183 (pc' := 186) rfl ?_
  intro T248 X248 e248
  refine own_iload X248 hx hby d_14_11__186 rfl (pc' := 188) rfl ?_
  refine own_aload X248 hx hby d_14_11__188 rfl rfl (pc' := 190) rfl ?_
  refine own_callF X248 hx hby hZ (by exact hml) hown (x0 := (⟨"java/util/List", "set", "(ILjava/lang/Object;)Ljava/lang/Object;"⟩ : MethodName)) (y := (⟨"java/util/ArrayList", "set", "(ILjava/lang/Object;)Ljava/lang/Object;"⟩ : MethodName)) (own_w hw 168 rfl) (own_w hw 169 rfl) (own_w hw 170 rfl) (own_w hw 171 rfl) (own_w hw 172 rfl) (own_w hw 173 rfl) (own_w hw 174 rfl) (own_w hw 69 rfl) (own_w hw 27 rfl) rfl (own_w hw 175 rfl) (by decide) e248 0 (by decide) (by decide) (by decide) (by decide) (argsL := [(.int (2 : Int32)), (.ref b201)]) (rest := []) (lenOf pd__ILjava_lang_Object__Ljava_lang_Object_ rfl) rfl (Nat.le_of_eq rfl) E235_rl (rmS2 l Z a0 hw rl es r2 b201 (3 : Int32) (.ref b87) (.ref b140) .null .null .null .null .null .null .null n0 h232 n0_es (Ne.symm ne14_es_rl) (Ne.symm ne_es_b201) (by decide) Y240_es E247_b201 E235_rl F238_size F237_elementData V239_es) d_14_11__190 (pc' := 195) rfl ?_
  intro v249 T249 L249 X249 hQ249
  obtain ⟨rfl, Nq249, K249, V249⟩ := hQ249
  have V250_cu := V233_cu.keep K249 (ninS (Ne.symm ne6_es_cu) nin0)
  have Y251_cu := Y234_cu.keep K249
  have E252_rl := E235_rl.keep K249
  have F253_modCount := F236_modCount.keep K249 (ninS (Ne.symm ne14_es_rl) nin0)
  have F254_elementData := F237_elementData.keep K249 (ninS (Ne.symm ne14_es_rl) nin0)
  have F255_size := F238_size.keep K249 (ninS (Ne.symm ne14_es_rl) nin0)
  have Y256_es := Y240_es.keep K249
  have V257_b28 := V241_b28.keep K249 (ninS (Ne.symm ne_es_b28) nin0)
  have E258_b28 := E242_b28.keep K249
  have V259_b87 := V243_b87.keep K249 (ninS (Ne.symm ne_es_b87) nin0)
  have E260_b87 := E244_b87.keep K249
  have V261_b140 := V245_b140.keep K249 (ninS (Ne.symm ne_es_b140) nin0)
  have E262_b140 := E246_b140.keep K249
  have V263_b201 := V232.keep K249 (ninS (Ne.symm ne_es_b201) nin0)
  have E264_b201 := E247_b201.keep K249
  have N249 := Fr.app Nn232 Nq249
  have Z249 : n0 ≤ T249.heap.size := Nat.le_trans ZC232 K249.1
  have KK249 : Keep h0 T249.heap [cu, rl, es] := KC232.trans K249 (allS (Or.inl (List.mem_of_getElem? (i := 2) rfl)) all0)
  show GoP p e below Φ (T249.setTop (mkF m 195 #[.val (.ref g), .val (.ref aC), .val (.int pt), .val (.int (0 : Int32)), .val (.ref c1), .val (.ref b28), .val (.int (2 : Int32)), .val (.ref r2), .val (.ref b201)] [(.ref r2)]))
  refine own_pop X249 hx hby d_14_11__195 rfl (pc' := 196) rfl ?_
  refine own_iinc X249 hx hby d_14_11__196 rfl (v := (1 : Int32)) rfl (Ls' := #[.val (.ref g), .val (.ref aC), .val (.int pt), .val (.int (0 : Int32)), .val (.ref c1), .val (.ref b28), .val (.int (3 : Int32)), .val (.ref r2), .val (.ref b201)]) rfl (pc' := 199) rfl ?_
  refine own_goto X249 hx hby d_14_11__199 (by decide) (pc' := 115) (by decide) ?_
  refine own_iload X249 hx hby d_14_11__115 rfl (pc' := 117) rfl ?_
  refine own_aloadN X249 hx hby d_14_11__117 rfl rfl (pc' := 118) rfl ?_
  refine own_getF X249 hx hby hZ hown (host := "") (Or.inl (own_w hw 49 rfl)) Via.refl rfl (H1.keep KK249 nin_g) d_14_11__118 (pc' := 121) rfl ?_
  intro T265 X265 e265
  refine own_callF X265 hx hby hZ (by exact hml) hown (x0 := (⟨"java/util/List", "size", "()I"⟩ : MethodName)) (y := (⟨"java/util/ArrayList", "size", "()I"⟩ : MethodName)) (own_w hw 160 rfl) (own_w hw 161 rfl) (own_w hw 162 rfl) (own_w hw 163 rfl) (own_w hw 164 rfl) (own_w hw 165 rfl) (own_w hw 166 rfl) (own_w hw 69 rfl) (own_w hw 27 rfl) rfl (own_w hw 167 rfl) (by decide) e265 1 (by decide) (by decide) (by decide) (by decide) (argsL := []) (rest := [(.int (3 : Int32))]) (lenOf pd___I rfl) rfl (Nat.le_of_eq rfl) E252_rl (rmSz l Z a0 hw rl (3 : Int32) T249.heap F255_size) d_14_11__121 (pc' := 126) rfl ?_
  intro v266 T266 L266 X266 hQ266
  obtain ⟨rfl, rfl, e266⟩ := hQ266
  rw [List.append_nil] at X266
  replace e266 : T266.heap = T249.heap := e266
  show GoP p e below Φ (T266.setTop (mkF m 126 #[.val (.ref g), .val (.ref aC), .val (.int pt), .val (.int (0 : Int32)), .val (.ref c1), .val (.ref b28), .val (.int (3 : Int32)), .val (.ref r2), .val (.ref b201)] [(.int (3 : Int32)), (.int (3 : Int32))]))
  refine own_icmpY X266 hx hby d_14_11__126 (flt (by decide)).2.1 (by decide) (pc' := 202) (by decide) ?_
  exact own_ret0 X266 hx hby fin hret d_14_11__202 (by decide) (by decide) (by rw [e266]; exact ⟨rfl, N249, KK249, b28, b87, b140, b201, (H0.keep KK249 nin_g), (H1.keep KK249 nin_g), V250_cu, Y251_cu, (H4.keep KK249 nin_c0), V257_b28, E252_rl, F253_modCount, F254_elementData, F255_size, V249, Y256_es, V259_b87, E260_b87, V261_b140, E262_b140, V263_b201, E264_b201⟩)
theorem ef_rmCut_1_0_0_1_0 (m : MethodId) (x0 : Addr) (x1 : Addr) (x2 : Int32) : entryFrame m #[(.ref x0), (.ref x1), (.int x2)] 9 = mkF m 0 #[.val (.ref x0), .val (.ref x1), .val (.int x2), .unset, .unset, .unset, .unset, .unset, .unset] [] := by first | (simp [entryFrame, mkF, argsToLocals, Value.category]; done) | rfl
set_option maxRecDepth 65536 in
set_option maxHeartbeats 40000000 in
theorem rmCut_1_0_0_1_0 (l : Launch) (Z : State) (a0 : Array Value) (hw : ∀ d ∈ tables_1, d.before a0 Z = true) (g aW aC cu c0 c1 rl es r0 r1 : Addr) (pt u0 mc : Int32) (n0 : Nat) (h0 : Heap) (n0_cu : n0 ≤ cu) (n0_rl : n0 ≤ rl) (n0_es : n0 ≤ es) (Z0 : n0 ≤ h0.size) (ox : aC < n0)  (ne_aC_aW : aC ≠ aW) (Eg : Exa Z h0 g "com/example/collectary/collectary/broker/Grid") (Exx : Exa Z h0 aC "com/example/collectary/collectary/broker/Grid$Axis") (Fo : Fld Z h0 aC "java/lang/Enum" "ordinal" "I" (.int (1 : Int32))) (SW : Sta Z h0 "com/example/collectary/collectary/broker/Grid$Axis" "WORD" "Lcom/example/collectary/collectary/broker/Grid$Axis;" (.ref aW)) (H0 : Fld Z h0 g "com/example/collectary/collectary/broker/Grid" "cuts" "[[I" (.ref cu)) (H1 : Fld Z h0 g "com/example/collectary/collectary/broker/Grid" "rows" "Ljava/util/List;" (.ref rl)) (H2 : AV Z h0 cu (.array .int) [.ref c0, .ref c1]) (H3 : CM Z h0 cu "[I") (H4 : AV Z h0 c0 .int [(.int u0)]) (H5 : AV Z h0 c1 .int []) (H6 : Exa Z h0 rl "java/util/ArrayList") (H7 : Fld Z h0 rl "java/util/AbstractList" "modCount" "I" (.int mc)) (H8 : Fld Z h0 rl "java/util/ArrayList" "elementData" "[Ljava/lang/Object;" (.ref es)) (H9 : Fld Z h0 rl "java/util/ArrayList" "size" "I" (.int (2 : Int32))) (H10 : AV Z h0 es (.object "java/lang/Object") [(.ref r0), (.ref r1), .null, .null, .null, .null, .null, .null, .null, .null]) (H11 : CM Z h0 es "java/lang/Object") (H12 : AV Z h0 r0 .int [(.int (0 : Int32))]) (H13 : Exa Z h0 r0 "[I") (H14 : AV Z h0 r1 .int [(.int (0 : Int32))]) (H15 : Exa Z h0 r1 "[I") : Con l Z (⟨"com/example/collectary/collectary/broker/Grid", "addCut", "(Lcom/example/collectary/collectary/broker/Grid$Axis;I)V"⟩ : MethodName) prog_14_method_11_code 9 none [] ({ frames := 3, cells := 3, slots := 5, locals := 90 } : Room) #[(.ref g), (.ref aC), (.int pt)] h0 (fun v h L => v = none ∧ Fr n0 L ∧ Keep h0 h [cu, rl, es] ∧ ∃ cn t0 t1 : Addr, Fld Z h g "com/example/collectary/collectary/broker/Grid" "cuts" "[[I" (.ref cu) ∧ Fld Z h g "com/example/collectary/collectary/broker/Grid" "rows" "Ljava/util/List;" (.ref rl) ∧ AV Z h cu (.array .int) [.ref c0, .ref cn] ∧ CM Z h cu "[I" ∧ AV Z h c0 .int [(.int u0)] ∧ AV Z h cn .int [(.int pt)] ∧ Exa Z h rl "java/util/ArrayList" ∧ Fld Z h rl "java/util/AbstractList" "modCount" "I" (.int mc) ∧ Fld Z h rl "java/util/ArrayList" "elementData" "[Ljava/lang/Object;" (.ref es) ∧ Fld Z h rl "java/util/ArrayList" "size" "I" (.int (2 : Int32)) ∧ AV Z h es (.object "java/lang/Object") [(.ref t0), (.ref t1), .null, .null, .null, .null, .null, .null, .null, .null] ∧ CM Z h es "java/lang/Object" ∧ AV Z h t0 .int [(.int (0 : Int32)), (.int (0 : Int32))] ∧ Exa Z h t0 "[I" ∧ AV Z h t1 .int [(.int (0 : Int32)), (.int (0 : Int32))] ∧ Exa Z h t1 "[I") := by
  refine Con.of (plainFor_of_name pn_com_example_collectary_collectary_broker_Grid) ?_
  intro p e s m below meth c T X hx hby hml hown hnm hret eT hZ hsh Φ fin
  replace hown : s.vm.findClass "com/example/collectary/collectary/broker/Grid" = some m.cls := hown
  replace hml : 9 = c.maxLocals := hml.symm
  refine own_step (fun tq kq => castTop (ef_rmCut_1_0_0_1_0 m g aC pt) kq) ?_
  have N0 := Fr.nil n0
  have K0 : Keep h0 h0 [cu, rl, es] := Keep.refl h0 [cu, rl, es]
  have ne1_g_cu : g ≠ cu := own_ne_ea Eg (own_w hw 8 rfl) H2
  have ne2_aC_cu : aC ≠ cu := Nat.ne_of_lt (Nat.lt_of_lt_of_le ox n0_cu)
  have ne3_c0_cu : c0 ≠ cu := own_ne_av2 H4 H2 (by decide)
  have ne4_c1_cu : c1 ≠ cu := own_ne_av2 H5 H2 (by decide)
  have ne5_rl_cu : rl ≠ cu := own_ne_ea H6 (own_w hw 26 rfl) H2
  have ne6_es_cu : es ≠ cu := own_ne_av2 H10 H2 (by decide)
  have ne7_r0_cu : r0 ≠ cu := own_ne_av2 H12 H2 (by decide)
  have ne8_r1_cu : r1 ≠ cu := own_ne_av2 H14 H2 (by decide)
  have ne9_g_rl : g ≠ rl := ne_exa Eg H6 (by decide)
  have ne10_aC_rl : aC ≠ rl := Nat.ne_of_lt (Nat.lt_of_lt_of_le ox n0_rl)
  have ne11_c0_rl : c0 ≠ rl := (own_ne_ea H6 (own_w hw 26 rfl) H4).symm
  have ne12_c1_rl : c1 ≠ rl := (own_ne_ea H6 (own_w hw 26 rfl) H5).symm
  have ne13_es_rl : es ≠ rl := (own_ne_ea H6 (own_w hw 26 rfl) H10).symm
  have ne14_r0_rl : r0 ≠ rl := (own_ne_ea H6 (own_w hw 26 rfl) H12).symm
  have ne15_r1_rl : r1 ≠ rl := (own_ne_ea H6 (own_w hw 26 rfl) H14).symm
  have ne16_g_es : g ≠ es := own_ne_ea Eg (own_w hw 8 rfl) H10
  have ne17_aC_es : aC ≠ es := Nat.ne_of_lt (Nat.lt_of_lt_of_le ox n0_es)
  have ne18_c0_es : c0 ≠ es := own_ne_av2 H4 H10 (by decide)
  have ne19_c1_es : c1 ≠ es := own_ne_av2 H5 H10 (by decide)
  have ne20_r0_es : r0 ≠ es := own_ne_av2 H12 H10 (by decide)
  have ne21_r1_es : r1 ≠ es := own_ne_av2 H14 H10 (by decide)
  have nin_g : g ∉ [cu, rl, es] := (ninS ne1_g_cu (ninS ne9_g_rl (ninS ne16_g_es nin0)))
  have lt0_g := Eg.lt
  have nin_aC : aC ∉ [cu, rl, es] := (ninS ne2_aC_cu (ninS ne10_aC_rl (ninS ne17_aC_es nin0)))
  have lt0_aC := Exx.lt
  have nin_c0 : c0 ∉ [cu, rl, es] := (ninS ne3_c0_cu (ninS ne11_c0_rl (ninS ne18_c0_es nin0)))
  have lt0_c0 := H4.lt
  have nin_c1 : c1 ∉ [cu, rl, es] := (ninS ne4_c1_cu (ninS ne12_c1_rl (ninS ne19_c1_es nin0)))
  have lt0_c1 := H5.lt
  have nin_r0 : r0 ∉ [cu, rl, es] := (ninS ne7_r0_cu (ninS ne14_r0_rl (ninS ne20_r0_es nin0)))
  have lt0_r0 := H12.lt
  have nin_r1 : r1 ∉ [cu, rl, es] := (ninS ne8_r1_cu (ninS ne15_r1_rl (ninS ne21_r1_es nin0)))
  have lt0_r1 := H14.lt
  have plain_ws : ∀ x ∈ [cu, rl, es], ∀ c : Cell, h0[x]? = some c → c.vm.isStatics = false := (allS H2.plain (allS (own_plainE H6) (allS H10.plain all0)))
  refine own_aloadN X hx hby d_14_11__0 rfl rfl (pc' := 1) rfl ?_
  refine own_aloadN X hx hby d_14_11__1 rfl rfl (pc' := 2) rfl ?_
  refine own_iloadN X hx hby d_14_11__2 rfl (pc' := 3) rfl ?_
  refine own_iconst X hx hby d_14_11__3 (v := (1 : Int32)) rfl (pc' := 4) rfl ?_
  refine own_isub X hx hby d_14_11__4 (pc' := 5) rfl ?_
  refine own_callV X hx hby hZ (by exact hml) hown (own_w hw 102 rfl) (own_w hw 103 rfl) (own_w hw 105 rfl) (own_w hw 104 rfl) (own_w hw 9 rfl) (own_w hw 106 rfl) (by decide) eT 0 (by decide) (by decide) (by decide) (by decide) (argsL := [(.ref aC), (.int (pt - (1 : Int32)))]) (rest := []) (lenOf pd__Lcom_example_collectary_collectary_broker_Grid_Axis_I_I rfl) rfl (Nat.le_of_eq rfl) Eg (rmIv0_1 l Z a0 hw g aC cu c0 c1  (pt - (1 : Int32)) h0 Exx Fo H0 H2 H5) d_14_11__5 (pc' := 8) rfl ?_
  intro v22 T22 L22 X22 hQ22
  obtain ⟨rfl, rfl, e22⟩ := hQ22
  rw [List.append_nil] at X22
  replace e22 : T22.heap = h0 := e22
  show GoP p e below Φ (T22.setTop (mkF m 8 #[.val (.ref g), .val (.ref aC), .val (.int pt), .unset, .unset, .unset, .unset, .unset, .unset] [(.int (0 : Int32))]))
  refine own_istoreN X22 hx hby d_14_11__8  (Ls' := #[.val (.ref g), .val (.ref aC), .val (.int pt), .val (.int (0 : Int32)), .unset, .unset, .unset, .unset, .unset]) rfl (pc' := 9) rfl ?_
  refine own_aloadN X22 hx hby d_14_11__9 rfl rfl (pc' := 10) rfl ?_
  refine own_getF X22 hx hby hZ hown (host := "") (Or.inl (own_w hw 23 rfl)) Via.refl e22 H0 d_14_11__10 (pc' := 13) rfl ?_
  intro T23 X23 e23
  refine own_aloadN X23 hx hby d_14_11__13 rfl rfl (pc' := 14) rfl ?_
  refine own_callU X23 hx hby hZ (by exact hml) hown (x0 := (⟨"com/example/collectary/collectary/broker/Grid$Axis", "ordinal", "()I"⟩ : MethodName)) (y := (⟨"java/lang/Enum", "ordinal", "()I"⟩ : MethodName)) (own_w hw 52 rfl) (own_w hw 53 rfl) (own_w hw 54 rfl) (own_w hw 56 rfl) (own_w hw 55 rfl) (own_w hw 57 rfl) (own_w hw 58 rfl) (by decide) e23 1 (by decide) (by decide) (by decide) (by decide) (argsL := []) (rest := [(.ref cu)]) (lenOf pd___I rfl) rfl (Nat.le_of_eq rfl) Exx (rmO l Z a0 hw aC (1 : Int32) h0 Fo) d_14_11__14 (pc' := 17) rfl ?_
  intro v24 T24 L24 X24 hQ24
  obtain ⟨rfl, rfl, e24⟩ := hQ24
  rw [List.append_nil] at X24
  replace e24 : T24.heap = h0 := e24
  show GoP p e below Φ (T24.setTop (mkF m 17 #[.val (.ref g), .val (.ref aC), .val (.int pt), .val (.int (0 : Int32)), .unset, .unset, .unset, .unset, .unset] [(.int (1 : Int32)), (.ref cu)]))
  refine own_aaload X24 hx hby hZ e24 H2 rfl (by decide) (v := (.ref c1)) rfl d_14_11__17 (pc' := 18) rfl ?_
  refine own_astore X24 hx hby d_14_11__18 rfl (Ls' := #[.val (.ref g), .val (.ref aC), .val (.int pt), .val (.int (0 : Int32)), .val (.ref c1), .unset, .unset, .unset, .unset]) rfl (pc' := 20) rfl ?_
  refine own_aload X24 hx hby d_14_11__20 rfl rfl (pc' := 22) rfl ?_
  refine own_alen X24 hx hby hZ e24 (n := (0 : Int32)) H5 rfl d_14_11__22 (pc' := 23) rfl ?_
  refine own_iconst X24 hx hby d_14_11__23 (v := (1 : Int32)) rfl (pc' := 24) rfl ?_
  refine own_iadd X24 hx hby d_14_11__24 (pc' := 25) rfl ?_
  show GoP p e below Φ (T24.setTop (mkF m 25 #[.val (.ref g), .val (.ref aC), .val (.int pt), .val (.int (0 : Int32)), .val (.ref c1), .unset, .unset, .unset, .unset] [(.int (1 : Int32))]))
  refine own_newI X24 hx hby hZ (own_w hw 17 rfl) e24 (by decide) 1 (by decide) (by decide) (by decide) (by decide) d_14_11__25 (pc' := 27) rfl ?_
  intro T25 h25 b25 X25 e25 E25 g25 V25 I25 A25
  have ne_cu_b25 : cu ≠ b25 := Nat.ne_of_lt (g25 ▸ H2.lt)
  have ne_rl_b25 : rl ≠ b25 := Nat.ne_of_lt (g25 ▸ H6.lt)
  have ne_es_b25 : es ≠ b25 := Nat.ne_of_lt (g25 ▸ H10.lt)
  have V26_cu := H2.ext E25
  have Y27_cu := H3.ext E25
  have E28_rl := H6.ext E25
  have F29_modCount := H7.ext E25
  have F30_elementData := H8.ext E25
  have F31_size := H9.ext E25
  have V32_es := H10.ext E25
  have Y33_es := H11.ext E25
  have Z25 : n0 ≤ h25.size := Nat.le_trans Z0 E25.1
  have n0_b25 : n0 ≤ b25 := g25 ▸ Z0
  have sz_b25 : h0.size ≤ b25 := g25 ▸ K0.1
  have K25 : Keep h0 h25 [cu, rl, es] := K0.ext E25
  replace V25 : AV Z h25 b25 .int [(.int (0 : Int32))] := V25
  show GoP p e below Φ (T25.setTop (mkF m 27 #[.val (.ref g), .val (.ref aC), .val (.int pt), .val (.int (0 : Int32)), .val (.ref c1), .unset, .unset, .unset, .unset] [(.ref b25)]))
  refine own_astore X25 hx hby d_14_11__27 rfl (Ls' := #[.val (.ref g), .val (.ref aC), .val (.int pt), .val (.int (0 : Int32)), .val (.ref c1), .val (.ref b25), .unset, .unset, .unset]) rfl (pc' := 29) rfl ?_
  refine own_aload X25 hx hby d_14_11__29 rfl rfl (pc' := 31) rfl ?_
  refine own_iconst X25 hx hby d_14_11__31 (v := (0 : Int32)) rfl (pc' := 32) rfl ?_
  refine own_aload X25 hx hby d_14_11__32 rfl rfl (pc' := 34) rfl ?_
  refine own_iconst X25 hx hby d_14_11__34 (v := (0 : Int32)) rfl (pc' := 35) rfl ?_
  refine own_iloadN X25 hx hby d_14_11__35 rfl (pc' := 36) rfl ?_
  refine own_copyV X25 hx hby (dv := (.int 0)) hZ (by exact hml) hown (own_w hw 114 rfl) (own_w hw 117 rfl) (own_w hw 115 rfl) (own_w hw 116 rfl) e25 (H5.keep K25 nin_c1) V25 rfl rfl rfl (by decide) (by decide) (by decide) (Nat.le_of_ble_eq_true rfl) (Nat.le_of_ble_eq_true rfl) N0 n0_b25 (by decide) 0 (Nat.le_of_eq rfl) (by decide) d_14_11__36 (pc' := 39) rfl ?_
  intro T34 h34 L34 X34 e34 Nn34 K34 V34
  replace V34 : AV Z h34 b25 .int [(.int (0 : Int32))] := V34
  have V35_cu := V26_cu.keep K34 (ninS ne_cu_b25 nin0)
  have Y36_cu := Y27_cu.keep K34 
  have E37_rl := E28_rl.keep K34 
  have F38_modCount := F29_modCount.keep K34 (ninS ne_rl_b25 nin0)
  have F39_elementData := F30_elementData.keep K34 (ninS ne_rl_b25 nin0)
  have F40_size := F31_size.keep K34 (ninS ne_rl_b25 nin0)
  have V41_es := V32_es.keep K34 (ninS ne_es_b25 nin0)
  have Y42_es := Y33_es.keep K34 
  have E43_b25 := A25.keep K34 
  have KC34 : Keep h0 h34 [cu, rl, es] := K25.trans K34 (allS (Or.inr sz_b25) all0)
  have ZC34 : n0 ≤ h34.size := Nat.le_trans Z25 K34.1
  refine own_aload X34 hx hby d_14_11__39 rfl rfl (pc' := 41) rfl ?_
  refine own_iloadN X34 hx hby d_14_11__41 rfl (pc' := 42) rfl ?_
  refine own_iloadN X34 hx hby d_14_11__42 rfl (pc' := 43) rfl ?_
  refine own_iastore X34 hx hby hZ e34 V34 (by decide) (Nat.le_of_ble_eq_true rfl) d_14_11__43 (pc' := 44) rfl ?_
  intro T44 h44 X44 e44 W44 V44
  replace V44 : AV Z h44 b25 .int [(.int pt)] := V44
  have V45_cu := V35_cu.other W44 ne_cu_b25
  have Y46_cu := Y36_cu.wr W44
  have E47_rl := E37_rl.wr W44
  have F48_modCount := F38_modCount.other W44 (Or.inl ne_rl_b25)
  have F49_elementData := F39_elementData.other W44 (Or.inl ne_rl_b25)
  have F50_size := F40_size.other W44 (Or.inl ne_rl_b25)
  have V51_es := V41_es.other W44 ne_es_b25
  have Y52_es := Y42_es.wr W44
  have E54_b25 := E43_b25.wr W44
  have Z44 : n0 ≤ h44.size := by rw [W44.size]; exact ZC34
  have N44 := Fr.snoc X44 Nn34 n0_b25
  have K44 : Keep h0 h44 [cu, rl, es] := KC34.wr W44 (Or.inr sz_b25)
  refine own_aload X44 hx hby d_14_11__44 rfl rfl (pc' := 46) rfl ?_
  refine own_iloadN X44 hx hby d_14_11__46 rfl (pc' := 47) rfl ?_
  refine own_aload X44 hx hby d_14_11__47 rfl rfl (pc' := 49) rfl ?_
  refine own_iloadN X44 hx hby d_14_11__49 rfl (pc' := 50) rfl ?_
  refine own_iconst X44 hx hby d_14_11__50 (v := (1 : Int32)) rfl (pc' := 51) rfl ?_
  refine own_iadd X44 hx hby d_14_11__51 (pc' := 52) rfl ?_
  show GoP p e below Φ (T44.setTop (mkF m 52 #[.val (.ref g), .val (.ref aC), .val (.int pt), .val (.int (0 : Int32)), .val (.ref c1), .val (.ref b25), .unset, .unset, .unset] [(.int (1 : Int32)), (.ref b25), (.int (0 : Int32)), (.ref c1)]))
  refine own_aload X44 hx hby d_14_11__52 rfl rfl (pc' := 54) rfl ?_
  refine own_alen X44 hx hby hZ e44 (n := (0 : Int32)) (H5.keep K44 nin_c1) rfl d_14_11__54 (pc' := 55) rfl ?_
  refine own_iloadN X44 hx hby d_14_11__55 rfl (pc' := 56) rfl ?_
  refine own_isub X44 hx hby d_14_11__56 (pc' := 57) rfl ?_
  show GoP p e below Φ (T44.setTop (mkF m 57 #[.val (.ref g), .val (.ref aC), .val (.int pt), .val (.int (0 : Int32)), .val (.ref c1), .val (.ref b25), .unset, .unset, .unset] [(.int (0 : Int32)), (.int (1 : Int32)), (.ref b25), (.int (0 : Int32)), (.ref c1)]))
  refine own_copyV X44 hx hby (dv := (.int 0)) hZ (by exact hml) hown (own_w hw 114 rfl) (own_w hw 117 rfl) (own_w hw 115 rfl) (own_w hw 116 rfl) e44 (H5.keep K44 nin_c1) V44 rfl rfl rfl (by decide) (by decide) (by decide) (Nat.le_of_ble_eq_true rfl) (Nat.le_of_ble_eq_true rfl) N44 n0_b25 (by decide) 0 (Nat.le_of_eq rfl) (by decide) d_14_11__57 (pc' := 60) rfl ?_
  intro T55 h55 L55 X55 e55 Nn55 K55 V55
  replace V55 : AV Z h55 b25 .int [(.int pt)] := V55
  have V56_cu := V45_cu.keep K55 (ninS ne_cu_b25 nin0)
  have Y57_cu := Y46_cu.keep K55 
  have E58_rl := E47_rl.keep K55 
  have F59_modCount := F48_modCount.keep K55 (ninS ne_rl_b25 nin0)
  have F60_elementData := F49_elementData.keep K55 (ninS ne_rl_b25 nin0)
  have F61_size := F50_size.keep K55 (ninS ne_rl_b25 nin0)
  have V62_es := V51_es.keep K55 (ninS ne_es_b25 nin0)
  have Y63_es := Y52_es.keep K55 
  have E64_b25 := E54_b25.keep K55 
  have KC55 : Keep h0 h55 [cu, rl, es] := K44.trans K55 (allS (Or.inr sz_b25) all0)
  have ZC55 : n0 ≤ h55.size := Nat.le_trans Z44 K55.1
  refine own_aloadN X55 hx hby d_14_11__60 rfl rfl (pc' := 61) rfl ?_
  refine own_getF X55 hx hby hZ hown (host := "") (Or.inl (own_w hw 23 rfl)) Via.refl e55 (H0.keep KC55 nin_g) d_14_11__61 (pc' := 64) rfl ?_
  intro T65 X65 e65
  refine own_aloadN X65 hx hby d_14_11__64 rfl rfl (pc' := 65) rfl ?_
  refine own_callU X65 hx hby hZ (by exact hml) hown (x0 := (⟨"com/example/collectary/collectary/broker/Grid$Axis", "ordinal", "()I"⟩ : MethodName)) (y := (⟨"java/lang/Enum", "ordinal", "()I"⟩ : MethodName)) (own_w hw 52 rfl) (own_w hw 53 rfl) (own_w hw 54 rfl) (own_w hw 56 rfl) (own_w hw 55 rfl) (own_w hw 57 rfl) (own_w hw 58 rfl) (by decide) e65 1 (by decide) (by decide) (by decide) (by decide) (argsL := []) (rest := [(.ref cu)]) (lenOf pd___I rfl) rfl (Nat.le_of_eq rfl) (Exx.keep KC55) (rmO l Z a0 hw aC (1 : Int32) h55 (Fo.keep KC55 nin_aC)) d_14_11__65 (pc' := 68) rfl ?_
  intro v66 T66 L66 X66 hQ66
  obtain ⟨rfl, rfl, e66⟩ := hQ66
  rw [List.append_nil] at X66
  replace e66 : T66.heap = h55 := e66
  show GoP p e below Φ (T66.setTop (mkF m 68 #[.val (.ref g), .val (.ref aC), .val (.int pt), .val (.int (0 : Int32)), .val (.ref c1), .val (.ref b25), .unset, .unset, .unset] [(.int (1 : Int32)), (.ref cu)]))
  refine own_aload X66 hx hby d_14_11__68 rfl rfl (pc' := 70) rfl ?_
  refine own_aastore X66 hx hby hZ e66 V56_cu rfl (own_sto V56_cu Y57_cu (Ins.self E64_b25)) (by decide) (Nat.le_of_ble_eq_true rfl) d_14_11__70 (pc' := 71) rfl ?_
  intro T67 h67 X67 e67 W67 V67
  replace V67 : AV Z h67 cu (.array .int) [(.ref c0), (.ref b25)] := V67
  have Y69_cu := Y57_cu.wr W67
  have E70_rl := E58_rl.wr W67
  have F71_modCount := F59_modCount.other W67 (Or.inl ne5_rl_cu)
  have F72_elementData := F60_elementData.other W67 (Or.inl ne5_rl_cu)
  have F73_size := F61_size.other W67 (Or.inl ne5_rl_cu)
  have V74_es := V62_es.other W67 ne6_es_cu
  have Y75_es := Y63_es.wr W67
  have V76_b25 := V55.other W67 (Ne.symm ne_cu_b25)
  have E77_b25 := E64_b25.wr W67
  have Z67 : n0 ≤ h67.size := by rw [W67.size]; exact ZC55
  have N67 := Fr.snoc X67 Nn55 n0_cu
  have K67 : Keep h0 h67 [cu, rl, es] := KC55.wr W67 (Or.inl (List.mem_of_getElem? (i := 0) rfl))
  refine own_aloadN X67 hx hby d_14_11__71 rfl rfl (pc' := 72) rfl ?_
  refine own_getS X67 hx hby hZ hown (host := "") (Or.inl (own_w hw 51 rfl)) Via.refl e67 (own_stakeep SW K67 plain_ws) d_14_11__72 (pc' := 75) rfl ?_
  intro T78 X78 e78
  refine own_acmp X78 hx hby d_14_11__75 rfl rfl (same := false) (decide_eq_false (fun q => ne_aC_aW (Value.ref.inj q))) (by decide) (pc' := 112) (by decide) ?_
  refine own_iconst X78 hx hby d_14_11__112 (v := (0 : Int32)) rfl (pc' := 113) rfl ?_
  refine own_istore X78 hx hby d_14_11__113  (Ls' := #[.val (.ref g), .val (.ref aC), .val (.int pt), .val (.int (0 : Int32)), .val (.ref c1), .val (.ref b25), .val (.int (0 : Int32)), .unset, .unset]) rfl (pc' := 115) rfl ?_
  refine own_iload X78 hx hby d_14_11__115 rfl (pc' := 117) rfl ?_
  refine own_aloadN X78 hx hby d_14_11__117 rfl rfl (pc' := 118) rfl ?_
  refine own_getF X78 hx hby hZ hown (host := "") (Or.inl (own_w hw 49 rfl)) Via.refl e78 (H1.keep K67 nin_g) d_14_11__118 (pc' := 121) rfl ?_
  intro T79 X79 e79
  refine own_callF X79 hx hby hZ (by exact hml) hown (x0 := (⟨"java/util/List", "size", "()I"⟩ : MethodName)) (y := (⟨"java/util/ArrayList", "size", "()I"⟩ : MethodName)) (own_w hw 160 rfl) (own_w hw 161 rfl) (own_w hw 162 rfl) (own_w hw 163 rfl) (own_w hw 164 rfl) (own_w hw 165 rfl) (own_w hw 166 rfl) (own_w hw 69 rfl) (own_w hw 27 rfl) rfl (own_w hw 167 rfl) (by decide) e79 1 (by decide) (by decide) (by decide) (by decide) (argsL := []) (rest := [(.int (0 : Int32))]) (lenOf pd___I rfl) rfl (Nat.le_of_eq rfl) E70_rl (rmSz l Z a0 hw rl (2 : Int32) h67 F73_size) d_14_11__121 (pc' := 126) rfl ?_
  intro v80 T80 L80 X80 hQ80
  obtain ⟨rfl, rfl, e80⟩ := hQ80
  rw [List.append_nil] at X80
  replace e80 : T80.heap = h67 := e80
  show GoP p e below Φ (T80.setTop (mkF m 126 #[.val (.ref g), .val (.ref aC), .val (.int pt), .val (.int (0 : Int32)), .val (.ref c1), .val (.ref b25), .val (.int (0 : Int32)), .unset, .unset] [(.int (2 : Int32)), (.int (0 : Int32))]))
  refine own_icmpN X80 hx hby d_14_11__126 (tlt (by decide)).2.1 (pc' := 129) rfl ?_
  refine own_aloadN X80 hx hby d_14_11__129 rfl rfl (pc' := 130) rfl ?_
  refine own_getF X80 hx hby hZ hown (host := "") (Or.inl (own_w hw 49 rfl)) Via.refl e80 (H1.keep K67 nin_g) d_14_11__130 (pc' := 133) rfl ?_
  intro T81 X81 e81
  refine own_iload X81 hx hby d_14_11__133 rfl (pc' := 135) rfl ?_
  refine own_callF X81 hx hby hZ (by exact hml) hown (x0 := (⟨"java/util/List", "get", "(I)Ljava/lang/Object;"⟩ : MethodName)) (y := (⟨"java/util/ArrayList", "get", "(I)Ljava/lang/Object;"⟩ : MethodName)) (own_w hw 118 rfl) (own_w hw 119 rfl) (own_w hw 120 rfl) (own_w hw 121 rfl) (own_w hw 122 rfl) (own_w hw 123 rfl) (own_w hw 124 rfl) (own_w hw 69 rfl) (own_w hw 27 rfl) rfl (own_w hw 125 rfl) (by decide) e81 0 (by decide) (by decide) (by decide) (by decide) (argsL := [(.int (0 : Int32))]) (rest := []) (lenOf pd__I_Ljava_lang_Object_ rfl) rfl (Nat.le_of_eq rfl) E70_rl (rmG0 l Z a0 hw rl es r0 (2 : Int32) (.ref r1) .null .null .null .null .null .null .null .null h67 (by decide) E70_rl F73_size F72_elementData V74_es) d_14_11__135 (pc' := 140) rfl ?_
  intro v82 T82 L82 X82 hQ82
  obtain ⟨rfl, rfl, e82⟩ := hQ82
  rw [List.append_nil] at X82
  replace e82 : T82.heap = h67 := e82
  show GoP p e below Φ (T82.setTop (mkF m 140 #[.val (.ref g), .val (.ref aC), .val (.int pt), .val (.int (0 : Int32)), .val (.ref c1), .val (.ref b25), .val (.int (0 : Int32)), .unset, .unset] [(.ref r0)]))
  obtain ⟨T83, X83, e83, st83⟩ := castY X82 hx hZ hown (own_w hw 20 rfl) e82 (Ins.self (H13.keep K67)) (g := (mkF m 140 #[.val (.ref g), .val (.ref aC), .val (.int pt), .val (.int (0 : Int32)), .val (.ref c1), .val (.ref b25), .val (.int (0 : Int32)), .unset, .unset] [(.ref r0)])) rfl rfl (hb hby d_14_11__140)
  refine own_step st83 ?_
  show GoP p e below Φ (T83.setTop (mkF m 143 #[.val (.ref g), .val (.ref aC), .val (.int pt), .val (.int (0 : Int32)), .val (.ref c1), .val (.ref b25), .val (.int (0 : Int32)), .unset, .unset] [(.ref r0)]))
  refine own_astore X83 hx hby d_14_11__143 rfl (Ls' := #[.val (.ref g), .val (.ref aC), .val (.int pt), .val (.int (0 : Int32)), .val (.ref c1), .val (.ref b25), .val (.int (0 : Int32)), .val (.ref r0), .unset]) rfl (pc' := 145) rfl ?_
  refine own_aload X83 hx hby d_14_11__145 rfl rfl (pc' := 147) rfl ?_
  refine own_alen X83 hx hby hZ e83 (n := (1 : Int32)) (H12.keep K67 nin_r0) rfl d_14_11__147 (pc' := 148) rfl ?_
  refine own_iconst X83 hx hby d_14_11__148 (v := (1 : Int32)) rfl (pc' := 149) rfl ?_
  refine own_iadd X83 hx hby d_14_11__149 (pc' := 150) rfl ?_
  show GoP p e below Φ (T83.setTop (mkF m 150 #[.val (.ref g), .val (.ref aC), .val (.int pt), .val (.int (0 : Int32)), .val (.ref c1), .val (.ref b25), .val (.int (0 : Int32)), .val (.ref r0), .unset] [(.int (2 : Int32))]))
  refine own_newI X83 hx hby hZ (own_w hw 17 rfl) e83 (by decide) 2 (by decide) (by decide) (by decide) (by decide) d_14_11__150 (pc' := 152) rfl ?_
  intro T84 h84 b84 X84 e84 E84 g84 V84 I84 A84
  have ne_cu_b84 : cu ≠ b84 := Nat.ne_of_lt (g84 ▸ V67.lt)
  have ne_rl_b84 : rl ≠ b84 := Nat.ne_of_lt (g84 ▸ E70_rl.lt)
  have ne_es_b84 : es ≠ b84 := Nat.ne_of_lt (g84 ▸ V74_es.lt)
  have ne_b25_b84 : b25 ≠ b84 := Nat.ne_of_lt (g84 ▸ V76_b25.lt)
  have V85_cu := V67.ext E84
  have Y86_cu := Y69_cu.ext E84
  have E87_rl := E70_rl.ext E84
  have F88_modCount := F71_modCount.ext E84
  have F89_elementData := F72_elementData.ext E84
  have F90_size := F73_size.ext E84
  have V91_es := V74_es.ext E84
  have Y92_es := Y75_es.ext E84
  have V93_b25 := V76_b25.ext E84
  have E94_b25 := E77_b25.ext E84
  have Z84 : n0 ≤ h84.size := Nat.le_trans Z67 E84.1
  have n0_b84 : n0 ≤ b84 := g84 ▸ Z67
  have sz_b84 : h0.size ≤ b84 := g84 ▸ K67.1
  have K84 : Keep h0 h84 [cu, rl, es] := K67.ext E84
  replace V84 : AV Z h84 b84 .int [(.int (0 : Int32)), (.int (0 : Int32))] := V84
  show GoP p e below Φ (T84.setTop (mkF m 152 #[.val (.ref g), .val (.ref aC), .val (.int pt), .val (.int (0 : Int32)), .val (.ref c1), .val (.ref b25), .val (.int (0 : Int32)), .val (.ref r0), .unset] [(.ref b84)]))
  refine own_astore X84 hx hby d_14_11__152 rfl (Ls' := #[.val (.ref g), .val (.ref aC), .val (.int pt), .val (.int (0 : Int32)), .val (.ref c1), .val (.ref b25), .val (.int (0 : Int32)), .val (.ref r0), .val (.ref b84)]) rfl (pc' := 154) rfl ?_
  refine own_aload X84 hx hby d_14_11__154 rfl rfl (pc' := 156) rfl ?_
  refine own_iconst X84 hx hby d_14_11__156 (v := (0 : Int32)) rfl (pc' := 157) rfl ?_
  refine own_aload X84 hx hby d_14_11__157 rfl rfl (pc' := 159) rfl ?_
  refine own_iconst X84 hx hby d_14_11__159 (v := (0 : Int32)) rfl (pc' := 160) rfl ?_
  refine own_iloadN X84 hx hby d_14_11__160 rfl (pc' := 161) rfl ?_
  refine own_iconst X84 hx hby d_14_11__161 (v := (1 : Int32)) rfl (pc' := 162) rfl ?_
  refine own_iadd X84 hx hby d_14_11__162 (pc' := 163) rfl ?_
  show GoP p e below Φ (T84.setTop (mkF m 163 #[.val (.ref g), .val (.ref aC), .val (.int pt), .val (.int (0 : Int32)), .val (.ref c1), .val (.ref b25), .val (.int (0 : Int32)), .val (.ref r0), .val (.ref b84)] [(.int (1 : Int32)), (.int (0 : Int32)), (.ref b84), (.int (0 : Int32)), (.ref r0)]))
  refine own_copyV X84 hx hby (dv := (.int 0)) hZ (by exact hml) hown (own_w hw 114 rfl) (own_w hw 117 rfl) (own_w hw 115 rfl) (own_w hw 116 rfl) e84 (H12.keep K84 nin_r0) V84 rfl rfl rfl (by decide) (by decide) (by decide) (Nat.le_of_ble_eq_true rfl) (Nat.le_of_ble_eq_true rfl) N67 n0_b84 (by decide) 0 (Nat.le_of_eq rfl) (by decide) d_14_11__163 (pc' := 166) rfl ?_
  intro T95 h95 L95 X95 e95 Nn95 K95 V95
  replace V95 : AV Z h95 b84 .int [(.int (0 : Int32)), (.int (0 : Int32))] := V95
  have V96_cu := V85_cu.keep K95 (ninS ne_cu_b84 nin0)
  have Y97_cu := Y86_cu.keep K95 
  have E98_rl := E87_rl.keep K95 
  have F99_modCount := F88_modCount.keep K95 (ninS ne_rl_b84 nin0)
  have F100_elementData := F89_elementData.keep K95 (ninS ne_rl_b84 nin0)
  have F101_size := F90_size.keep K95 (ninS ne_rl_b84 nin0)
  have V102_es := V91_es.keep K95 (ninS ne_es_b84 nin0)
  have Y103_es := Y92_es.keep K95 
  have V104_b25 := V93_b25.keep K95 (ninS ne_b25_b84 nin0)
  have E105_b25 := E94_b25.keep K95 
  have E106_b84 := A84.keep K95 
  have KC95 : Keep h0 h95 [cu, rl, es] := K84.trans K95 (allS (Or.inr sz_b84) all0)
  have ZC95 : n0 ≤ h95.size := Nat.le_trans Z84 K95.1
  refine own_aload X95 hx hby d_14_11__166 rfl rfl (pc' := 168) rfl ?_
  refine own_iloadN X95 hx hby d_14_11__168 rfl (pc' := 169) rfl ?_
  refine own_aload X95 hx hby d_14_11__169 rfl rfl (pc' := 171) rfl ?_
  refine own_iloadN X95 hx hby d_14_11__171 rfl (pc' := 172) rfl ?_
  refine own_iconst X95 hx hby d_14_11__172 (v := (1 : Int32)) rfl (pc' := 173) rfl ?_
  refine own_iadd X95 hx hby d_14_11__173 (pc' := 174) rfl ?_
  show GoP p e below Φ (T95.setTop (mkF m 174 #[.val (.ref g), .val (.ref aC), .val (.int pt), .val (.int (0 : Int32)), .val (.ref c1), .val (.ref b25), .val (.int (0 : Int32)), .val (.ref r0), .val (.ref b84)] [(.int (1 : Int32)), (.ref b84), (.int (0 : Int32)), (.ref r0)]))
  refine own_aload X95 hx hby d_14_11__174 rfl rfl (pc' := 176) rfl ?_
  refine own_alen X95 hx hby hZ e95 (n := (1 : Int32)) (H12.keep KC95 nin_r0) rfl d_14_11__176 (pc' := 177) rfl ?_
  refine own_iloadN X95 hx hby d_14_11__177 rfl (pc' := 178) rfl ?_
  refine own_isub X95 hx hby d_14_11__178 (pc' := 179) rfl ?_
  show GoP p e below Φ (T95.setTop (mkF m 179 #[.val (.ref g), .val (.ref aC), .val (.int pt), .val (.int (0 : Int32)), .val (.ref c1), .val (.ref b25), .val (.int (0 : Int32)), .val (.ref r0), .val (.ref b84)] [(.int (1 : Int32)), (.int (1 : Int32)), (.ref b84), (.int (0 : Int32)), (.ref r0)]))
  refine own_copyV X95 hx hby (dv := (.int 0)) hZ (by exact hml) hown (own_w hw 114 rfl) (own_w hw 117 rfl) (own_w hw 115 rfl) (own_w hw 116 rfl) e95 (H12.keep KC95 nin_r0) V95 rfl rfl rfl (by decide) (by decide) (by decide) (Nat.le_of_ble_eq_true rfl) (Nat.le_of_ble_eq_true rfl) Nn95 n0_b84 (by decide) 0 (Nat.le_of_eq rfl) (by decide) d_14_11__179 (pc' := 182) rfl ?_
  intro T107 h107 L107 X107 e107 Nn107 K107 V107
  replace V107 : AV Z h107 b84 .int [(.int (0 : Int32)), (.int (0 : Int32))] := V107
  have V108_cu := V96_cu.keep K107 (ninS ne_cu_b84 nin0)
  have Y109_cu := Y97_cu.keep K107 
  have E110_rl := E98_rl.keep K107 
  have F111_modCount := F99_modCount.keep K107 (ninS ne_rl_b84 nin0)
  have F112_elementData := F100_elementData.keep K107 (ninS ne_rl_b84 nin0)
  have F113_size := F101_size.keep K107 (ninS ne_rl_b84 nin0)
  have V114_es := V102_es.keep K107 (ninS ne_es_b84 nin0)
  have Y115_es := Y103_es.keep K107 
  have V116_b25 := V104_b25.keep K107 (ninS ne_b25_b84 nin0)
  have E117_b25 := E105_b25.keep K107 
  have E118_b84 := E106_b84.keep K107 
  have KC107 : Keep h0 h107 [cu, rl, es] := KC95.trans K107 (allS (Or.inr sz_b84) all0)
  have ZC107 : n0 ≤ h107.size := Nat.le_trans ZC95 K107.1
  refine own_aloadN X107 hx hby d_14_11__182 rfl rfl (pc' := 183) rfl ?_
  refine own_getF X107 hx hby hZ hown (host := "") (Or.inl (own_w hw 49 rfl)) Via.refl e107 (H1.keep KC107 nin_g) d_14_11__183 (pc' := 186) rfl ?_
  intro T119 X119 e119
  refine own_iload X119 hx hby d_14_11__186 rfl (pc' := 188) rfl ?_
  refine own_aload X119 hx hby d_14_11__188 rfl rfl (pc' := 190) rfl ?_
  refine own_callF X119 hx hby hZ (by exact hml) hown (x0 := (⟨"java/util/List", "set", "(ILjava/lang/Object;)Ljava/lang/Object;"⟩ : MethodName)) (y := (⟨"java/util/ArrayList", "set", "(ILjava/lang/Object;)Ljava/lang/Object;"⟩ : MethodName)) (own_w hw 168 rfl) (own_w hw 169 rfl) (own_w hw 170 rfl) (own_w hw 171 rfl) (own_w hw 172 rfl) (own_w hw 173 rfl) (own_w hw 174 rfl) (own_w hw 69 rfl) (own_w hw 27 rfl) rfl (own_w hw 175 rfl) (by decide) e119 0 (by decide) (by decide) (by decide) (by decide) (argsL := [(.int (0 : Int32)), (.ref b84)]) (rest := []) (lenOf pd__ILjava_lang_Object__Ljava_lang_Object_ rfl) rfl (Nat.le_of_eq rfl) E110_rl (rmS0 l Z a0 hw rl es r0 b84 (2 : Int32) (.ref r1) .null .null .null .null .null .null .null .null n0 h107 n0_es (Ne.symm ne13_es_rl) (Ne.symm ne_es_b84) (by decide) Y115_es E118_b84 E110_rl F113_size F112_elementData V114_es) d_14_11__190 (pc' := 195) rfl ?_
  intro v120 T120 L120 X120 hQ120
  obtain ⟨rfl, Nq120, K120, V120⟩ := hQ120
  have V121_cu := V108_cu.keep K120 (ninS (Ne.symm ne6_es_cu) nin0)
  have Y122_cu := Y109_cu.keep K120
  have E123_rl := E110_rl.keep K120
  have F124_modCount := F111_modCount.keep K120 (ninS (Ne.symm ne13_es_rl) nin0)
  have F125_elementData := F112_elementData.keep K120 (ninS (Ne.symm ne13_es_rl) nin0)
  have F126_size := F113_size.keep K120 (ninS (Ne.symm ne13_es_rl) nin0)
  have Y127_es := Y115_es.keep K120
  have V128_b25 := V116_b25.keep K120 (ninS (Ne.symm ne_es_b25) nin0)
  have E129_b25 := E117_b25.keep K120
  have V130_b84 := V107.keep K120 (ninS (Ne.symm ne_es_b84) nin0)
  have E131_b84 := E118_b84.keep K120
  have N120 := Fr.app Nn107 Nq120
  have Z120 : n0 ≤ T120.heap.size := Nat.le_trans ZC107 K120.1
  have KK120 : Keep h0 T120.heap [cu, rl, es] := KC107.trans K120 (allS (Or.inl (List.mem_of_getElem? (i := 2) rfl)) all0)
  show GoP p e below Φ (T120.setTop (mkF m 195 #[.val (.ref g), .val (.ref aC), .val (.int pt), .val (.int (0 : Int32)), .val (.ref c1), .val (.ref b25), .val (.int (0 : Int32)), .val (.ref r0), .val (.ref b84)] [(.ref r0)]))
  refine own_pop X120 hx hby d_14_11__195 rfl (pc' := 196) rfl ?_
  refine own_iinc X120 hx hby d_14_11__196 rfl (v := (1 : Int32)) rfl (Ls' := #[.val (.ref g), .val (.ref aC), .val (.int pt), .val (.int (0 : Int32)), .val (.ref c1), .val (.ref b25), .val (.int (1 : Int32)), .val (.ref r0), .val (.ref b84)]) rfl (pc' := 199) rfl ?_
  refine own_goto X120 hx hby d_14_11__199 (by decide) (pc' := 115) (by decide) ?_
  refine own_iload X120 hx hby d_14_11__115 rfl (pc' := 117) rfl ?_
  refine own_aloadN X120 hx hby d_14_11__117 rfl rfl (pc' := 118) rfl ?_
  refine own_getF X120 hx hby hZ hown (host := "") (Or.inl (own_w hw 49 rfl)) Via.refl rfl (H1.keep KK120 nin_g) d_14_11__118 (pc' := 121) rfl ?_
  intro T132 X132 e132
  refine own_callF X132 hx hby hZ (by exact hml) hown (x0 := (⟨"java/util/List", "size", "()I"⟩ : MethodName)) (y := (⟨"java/util/ArrayList", "size", "()I"⟩ : MethodName)) (own_w hw 160 rfl) (own_w hw 161 rfl) (own_w hw 162 rfl) (own_w hw 163 rfl) (own_w hw 164 rfl) (own_w hw 165 rfl) (own_w hw 166 rfl) (own_w hw 69 rfl) (own_w hw 27 rfl) rfl (own_w hw 167 rfl) (by decide) e132 1 (by decide) (by decide) (by decide) (by decide) (argsL := []) (rest := [(.int (1 : Int32))]) (lenOf pd___I rfl) rfl (Nat.le_of_eq rfl) E123_rl (rmSz l Z a0 hw rl (2 : Int32) T120.heap F126_size) d_14_11__121 (pc' := 126) rfl ?_
  intro v133 T133 L133 X133 hQ133
  obtain ⟨rfl, rfl, e133⟩ := hQ133
  rw [List.append_nil] at X133
  replace e133 : T133.heap = T120.heap := e133
  show GoP p e below Φ (T133.setTop (mkF m 126 #[.val (.ref g), .val (.ref aC), .val (.int pt), .val (.int (0 : Int32)), .val (.ref c1), .val (.ref b25), .val (.int (1 : Int32)), .val (.ref r0), .val (.ref b84)] [(.int (2 : Int32)), (.int (1 : Int32))]))
  refine own_icmpN X133 hx hby d_14_11__126 (tlt (by decide)).2.1 (pc' := 129) rfl ?_
  refine own_aloadN X133 hx hby d_14_11__129 rfl rfl (pc' := 130) rfl ?_
  refine own_getF X133 hx hby hZ hown (host := "") (Or.inl (own_w hw 49 rfl)) Via.refl e133 (H1.keep KK120 nin_g) d_14_11__130 (pc' := 133) rfl ?_
  intro T134 X134 e134
  refine own_iload X134 hx hby d_14_11__133 rfl (pc' := 135) rfl ?_
  refine own_callF X134 hx hby hZ (by exact hml) hown (x0 := (⟨"java/util/List", "get", "(I)Ljava/lang/Object;"⟩ : MethodName)) (y := (⟨"java/util/ArrayList", "get", "(I)Ljava/lang/Object;"⟩ : MethodName)) (own_w hw 118 rfl) (own_w hw 119 rfl) (own_w hw 120 rfl) (own_w hw 121 rfl) (own_w hw 122 rfl) (own_w hw 123 rfl) (own_w hw 124 rfl) (own_w hw 69 rfl) (own_w hw 27 rfl) rfl (own_w hw 125 rfl) (by decide) e134 0 (by decide) (by decide) (by decide) (by decide) (argsL := [(.int (1 : Int32))]) (rest := []) (lenOf pd__I_Ljava_lang_Object_ rfl) rfl (Nat.le_of_eq rfl) E123_rl (rmG1 l Z a0 hw rl es r1 (2 : Int32) (.ref b84) .null .null .null .null .null .null .null .null T120.heap (by decide) E123_rl F126_size F125_elementData V120) d_14_11__135 (pc' := 140) rfl ?_
  intro v135 T135 L135 X135 hQ135
  obtain ⟨rfl, rfl, e135⟩ := hQ135
  rw [List.append_nil] at X135
  replace e135 : T135.heap = T120.heap := e135
  show GoP p e below Φ (T135.setTop (mkF m 140 #[.val (.ref g), .val (.ref aC), .val (.int pt), .val (.int (0 : Int32)), .val (.ref c1), .val (.ref b25), .val (.int (1 : Int32)), .val (.ref r0), .val (.ref b84)] [(.ref r1)]))
  obtain ⟨T136, X136, e136, st136⟩ := castY X135 hx hZ hown (own_w hw 20 rfl) e135 (Ins.self (H15.keep KK120)) (g := (mkF m 140 #[.val (.ref g), .val (.ref aC), .val (.int pt), .val (.int (0 : Int32)), .val (.ref c1), .val (.ref b25), .val (.int (1 : Int32)), .val (.ref r0), .val (.ref b84)] [(.ref r1)])) rfl rfl (hb hby d_14_11__140)
  refine own_step st136 ?_
  show GoP p e below Φ (T136.setTop (mkF m 143 #[.val (.ref g), .val (.ref aC), .val (.int pt), .val (.int (0 : Int32)), .val (.ref c1), .val (.ref b25), .val (.int (1 : Int32)), .val (.ref r0), .val (.ref b84)] [(.ref r1)]))
  refine own_astore X136 hx hby d_14_11__143 rfl (Ls' := #[.val (.ref g), .val (.ref aC), .val (.int pt), .val (.int (0 : Int32)), .val (.ref c1), .val (.ref b25), .val (.int (1 : Int32)), .val (.ref r1), .val (.ref b84)]) rfl (pc' := 145) rfl ?_
  refine own_aload X136 hx hby d_14_11__145 rfl rfl (pc' := 147) rfl ?_
  refine own_alen X136 hx hby hZ e136 (n := (1 : Int32)) (H14.keep KK120 nin_r1) rfl d_14_11__147 (pc' := 148) rfl ?_
  refine own_iconst X136 hx hby d_14_11__148 (v := (1 : Int32)) rfl (pc' := 149) rfl ?_
  refine own_iadd X136 hx hby d_14_11__149 (pc' := 150) rfl ?_
  show GoP p e below Φ (T136.setTop (mkF m 150 #[.val (.ref g), .val (.ref aC), .val (.int pt), .val (.int (0 : Int32)), .val (.ref c1), .val (.ref b25), .val (.int (1 : Int32)), .val (.ref r1), .val (.ref b84)] [(.int (2 : Int32))]))
  refine own_newI X136 hx hby hZ (own_w hw 17 rfl) e136 (by decide) 2 (by decide) (by decide) (by decide) (by decide) d_14_11__150 (pc' := 152) rfl ?_
  intro T137 h137 b137 X137 e137 E137 g137 V137 I137 A137
  have ne_cu_b137 : cu ≠ b137 := Nat.ne_of_lt (g137 ▸ V121_cu.lt)
  have ne_rl_b137 : rl ≠ b137 := Nat.ne_of_lt (g137 ▸ E123_rl.lt)
  have ne_es_b137 : es ≠ b137 := Nat.ne_of_lt (g137 ▸ V120.lt)
  have ne_b25_b137 : b25 ≠ b137 := Nat.ne_of_lt (g137 ▸ V128_b25.lt)
  have ne_b84_b137 : b84 ≠ b137 := Nat.ne_of_lt (g137 ▸ V130_b84.lt)
  have V138_cu := V121_cu.ext E137
  have Y139_cu := Y122_cu.ext E137
  have E140_rl := E123_rl.ext E137
  have F141_modCount := F124_modCount.ext E137
  have F142_elementData := F125_elementData.ext E137
  have F143_size := F126_size.ext E137
  have V144_es := V120.ext E137
  have Y145_es := Y127_es.ext E137
  have V146_b25 := V128_b25.ext E137
  have E147_b25 := E129_b25.ext E137
  have V148_b84 := V130_b84.ext E137
  have E149_b84 := E131_b84.ext E137
  have Z137 : n0 ≤ h137.size := Nat.le_trans Z120 E137.1
  have n0_b137 : n0 ≤ b137 := g137 ▸ Z120
  have sz_b137 : h0.size ≤ b137 := g137 ▸ KK120.1
  have K137 : Keep h0 h137 [cu, rl, es] := KK120.ext E137
  replace V137 : AV Z h137 b137 .int [(.int (0 : Int32)), (.int (0 : Int32))] := V137
  show GoP p e below Φ (T137.setTop (mkF m 152 #[.val (.ref g), .val (.ref aC), .val (.int pt), .val (.int (0 : Int32)), .val (.ref c1), .val (.ref b25), .val (.int (1 : Int32)), .val (.ref r1), .val (.ref b84)] [(.ref b137)]))
  refine own_astore X137 hx hby d_14_11__152 rfl (Ls' := #[.val (.ref g), .val (.ref aC), .val (.int pt), .val (.int (0 : Int32)), .val (.ref c1), .val (.ref b25), .val (.int (1 : Int32)), .val (.ref r1), .val (.ref b137)]) rfl (pc' := 154) rfl ?_
  refine own_aload X137 hx hby d_14_11__154 rfl rfl (pc' := 156) rfl ?_
  refine own_iconst X137 hx hby d_14_11__156 (v := (0 : Int32)) rfl (pc' := 157) rfl ?_
  refine own_aload X137 hx hby d_14_11__157 rfl rfl (pc' := 159) rfl ?_
  refine own_iconst X137 hx hby d_14_11__159 (v := (0 : Int32)) rfl (pc' := 160) rfl ?_
  refine own_iloadN X137 hx hby d_14_11__160 rfl (pc' := 161) rfl ?_
  refine own_iconst X137 hx hby d_14_11__161 (v := (1 : Int32)) rfl (pc' := 162) rfl ?_
  refine own_iadd X137 hx hby d_14_11__162 (pc' := 163) rfl ?_
  show GoP p e below Φ (T137.setTop (mkF m 163 #[.val (.ref g), .val (.ref aC), .val (.int pt), .val (.int (0 : Int32)), .val (.ref c1), .val (.ref b25), .val (.int (1 : Int32)), .val (.ref r1), .val (.ref b137)] [(.int (1 : Int32)), (.int (0 : Int32)), (.ref b137), (.int (0 : Int32)), (.ref r1)]))
  refine own_copyV X137 hx hby (dv := (.int 0)) hZ (by exact hml) hown (own_w hw 114 rfl) (own_w hw 117 rfl) (own_w hw 115 rfl) (own_w hw 116 rfl) e137 (H14.keep K137 nin_r1) V137 rfl rfl rfl (by decide) (by decide) (by decide) (Nat.le_of_ble_eq_true rfl) (Nat.le_of_ble_eq_true rfl) N120 n0_b137 (by decide) 0 (Nat.le_of_eq rfl) (by decide) d_14_11__163 (pc' := 166) rfl ?_
  intro T150 h150 L150 X150 e150 Nn150 K150 V150
  replace V150 : AV Z h150 b137 .int [(.int (0 : Int32)), (.int (0 : Int32))] := V150
  have V151_cu := V138_cu.keep K150 (ninS ne_cu_b137 nin0)
  have Y152_cu := Y139_cu.keep K150 
  have E153_rl := E140_rl.keep K150 
  have F154_modCount := F141_modCount.keep K150 (ninS ne_rl_b137 nin0)
  have F155_elementData := F142_elementData.keep K150 (ninS ne_rl_b137 nin0)
  have F156_size := F143_size.keep K150 (ninS ne_rl_b137 nin0)
  have V157_es := V144_es.keep K150 (ninS ne_es_b137 nin0)
  have Y158_es := Y145_es.keep K150 
  have V159_b25 := V146_b25.keep K150 (ninS ne_b25_b137 nin0)
  have E160_b25 := E147_b25.keep K150 
  have V161_b84 := V148_b84.keep K150 (ninS ne_b84_b137 nin0)
  have E162_b84 := E149_b84.keep K150 
  have E163_b137 := A137.keep K150 
  have KC150 : Keep h0 h150 [cu, rl, es] := K137.trans K150 (allS (Or.inr sz_b137) all0)
  have ZC150 : n0 ≤ h150.size := Nat.le_trans Z137 K150.1
  refine own_aload X150 hx hby d_14_11__166 rfl rfl (pc' := 168) rfl ?_
  refine own_iloadN X150 hx hby d_14_11__168 rfl (pc' := 169) rfl ?_
  refine own_aload X150 hx hby d_14_11__169 rfl rfl (pc' := 171) rfl ?_
  refine own_iloadN X150 hx hby d_14_11__171 rfl (pc' := 172) rfl ?_
  refine own_iconst X150 hx hby d_14_11__172 (v := (1 : Int32)) rfl (pc' := 173) rfl ?_
  refine own_iadd X150 hx hby d_14_11__173 (pc' := 174) rfl ?_
  show GoP p e below Φ (T150.setTop (mkF m 174 #[.val (.ref g), .val (.ref aC), .val (.int pt), .val (.int (0 : Int32)), .val (.ref c1), .val (.ref b25), .val (.int (1 : Int32)), .val (.ref r1), .val (.ref b137)] [(.int (1 : Int32)), (.ref b137), (.int (0 : Int32)), (.ref r1)]))
  refine own_aload X150 hx hby d_14_11__174 rfl rfl (pc' := 176) rfl ?_
  refine own_alen X150 hx hby hZ e150 (n := (1 : Int32)) (H14.keep KC150 nin_r1) rfl d_14_11__176 (pc' := 177) rfl ?_
  refine own_iloadN X150 hx hby d_14_11__177 rfl (pc' := 178) rfl ?_
  refine own_isub X150 hx hby d_14_11__178 (pc' := 179) rfl ?_
  show GoP p e below Φ (T150.setTop (mkF m 179 #[.val (.ref g), .val (.ref aC), .val (.int pt), .val (.int (0 : Int32)), .val (.ref c1), .val (.ref b25), .val (.int (1 : Int32)), .val (.ref r1), .val (.ref b137)] [(.int (1 : Int32)), (.int (1 : Int32)), (.ref b137), (.int (0 : Int32)), (.ref r1)]))
  refine own_copyV X150 hx hby (dv := (.int 0)) hZ (by exact hml) hown (own_w hw 114 rfl) (own_w hw 117 rfl) (own_w hw 115 rfl) (own_w hw 116 rfl) e150 (H14.keep KC150 nin_r1) V150 rfl rfl rfl (by decide) (by decide) (by decide) (Nat.le_of_ble_eq_true rfl) (Nat.le_of_ble_eq_true rfl) Nn150 n0_b137 (by decide) 0 (Nat.le_of_eq rfl) (by decide) d_14_11__179 (pc' := 182) rfl ?_
  intro T164 h164 L164 X164 e164 Nn164 K164 V164
  replace V164 : AV Z h164 b137 .int [(.int (0 : Int32)), (.int (0 : Int32))] := V164
  have V165_cu := V151_cu.keep K164 (ninS ne_cu_b137 nin0)
  have Y166_cu := Y152_cu.keep K164 
  have E167_rl := E153_rl.keep K164 
  have F168_modCount := F154_modCount.keep K164 (ninS ne_rl_b137 nin0)
  have F169_elementData := F155_elementData.keep K164 (ninS ne_rl_b137 nin0)
  have F170_size := F156_size.keep K164 (ninS ne_rl_b137 nin0)
  have V171_es := V157_es.keep K164 (ninS ne_es_b137 nin0)
  have Y172_es := Y158_es.keep K164 
  have V173_b25 := V159_b25.keep K164 (ninS ne_b25_b137 nin0)
  have E174_b25 := E160_b25.keep K164 
  have V175_b84 := V161_b84.keep K164 (ninS ne_b84_b137 nin0)
  have E176_b84 := E162_b84.keep K164 
  have E177_b137 := E163_b137.keep K164 
  have KC164 : Keep h0 h164 [cu, rl, es] := KC150.trans K164 (allS (Or.inr sz_b137) all0)
  have ZC164 : n0 ≤ h164.size := Nat.le_trans ZC150 K164.1
  refine own_aloadN X164 hx hby d_14_11__182 rfl rfl (pc' := 183) rfl ?_
  refine own_getF X164 hx hby hZ hown (host := "") (Or.inl (own_w hw 49 rfl)) Via.refl e164 (H1.keep KC164 nin_g) d_14_11__183 (pc' := 186) rfl ?_
  intro T178 X178 e178
  refine own_iload X178 hx hby d_14_11__186 rfl (pc' := 188) rfl ?_
  refine own_aload X178 hx hby d_14_11__188 rfl rfl (pc' := 190) rfl ?_
  refine own_callF X178 hx hby hZ (by exact hml) hown (x0 := (⟨"java/util/List", "set", "(ILjava/lang/Object;)Ljava/lang/Object;"⟩ : MethodName)) (y := (⟨"java/util/ArrayList", "set", "(ILjava/lang/Object;)Ljava/lang/Object;"⟩ : MethodName)) (own_w hw 168 rfl) (own_w hw 169 rfl) (own_w hw 170 rfl) (own_w hw 171 rfl) (own_w hw 172 rfl) (own_w hw 173 rfl) (own_w hw 174 rfl) (own_w hw 69 rfl) (own_w hw 27 rfl) rfl (own_w hw 175 rfl) (by decide) e178 0 (by decide) (by decide) (by decide) (by decide) (argsL := [(.int (1 : Int32)), (.ref b137)]) (rest := []) (lenOf pd__ILjava_lang_Object__Ljava_lang_Object_ rfl) rfl (Nat.le_of_eq rfl) E167_rl (rmS1 l Z a0 hw rl es r1 b137 (2 : Int32) (.ref b84) .null .null .null .null .null .null .null .null n0 h164 n0_es (Ne.symm ne13_es_rl) (Ne.symm ne_es_b137) (by decide) Y172_es E177_b137 E167_rl F170_size F169_elementData V171_es) d_14_11__190 (pc' := 195) rfl ?_
  intro v179 T179 L179 X179 hQ179
  obtain ⟨rfl, Nq179, K179, V179⟩ := hQ179
  have V180_cu := V165_cu.keep K179 (ninS (Ne.symm ne6_es_cu) nin0)
  have Y181_cu := Y166_cu.keep K179
  have E182_rl := E167_rl.keep K179
  have F183_modCount := F168_modCount.keep K179 (ninS (Ne.symm ne13_es_rl) nin0)
  have F184_elementData := F169_elementData.keep K179 (ninS (Ne.symm ne13_es_rl) nin0)
  have F185_size := F170_size.keep K179 (ninS (Ne.symm ne13_es_rl) nin0)
  have Y186_es := Y172_es.keep K179
  have V187_b25 := V173_b25.keep K179 (ninS (Ne.symm ne_es_b25) nin0)
  have E188_b25 := E174_b25.keep K179
  have V189_b84 := V175_b84.keep K179 (ninS (Ne.symm ne_es_b84) nin0)
  have E190_b84 := E176_b84.keep K179
  have V191_b137 := V164.keep K179 (ninS (Ne.symm ne_es_b137) nin0)
  have E192_b137 := E177_b137.keep K179
  have N179 := Fr.app Nn164 Nq179
  have Z179 : n0 ≤ T179.heap.size := Nat.le_trans ZC164 K179.1
  have KK179 : Keep h0 T179.heap [cu, rl, es] := KC164.trans K179 (allS (Or.inl (List.mem_of_getElem? (i := 2) rfl)) all0)
  show GoP p e below Φ (T179.setTop (mkF m 195 #[.val (.ref g), .val (.ref aC), .val (.int pt), .val (.int (0 : Int32)), .val (.ref c1), .val (.ref b25), .val (.int (1 : Int32)), .val (.ref r1), .val (.ref b137)] [(.ref r1)]))
  refine own_pop X179 hx hby d_14_11__195 rfl (pc' := 196) rfl ?_
  refine own_iinc X179 hx hby d_14_11__196 rfl (v := (1 : Int32)) rfl (Ls' := #[.val (.ref g), .val (.ref aC), .val (.int pt), .val (.int (0 : Int32)), .val (.ref c1), .val (.ref b25), .val (.int (2 : Int32)), .val (.ref r1), .val (.ref b137)]) rfl (pc' := 199) rfl ?_
  refine own_goto X179 hx hby d_14_11__199 (by decide) (pc' := 115) (by decide) ?_
  refine own_iload X179 hx hby d_14_11__115 rfl (pc' := 117) rfl ?_
  refine own_aloadN X179 hx hby d_14_11__117 rfl rfl (pc' := 118) rfl ?_
  refine own_getF X179 hx hby hZ hown (host := "") (Or.inl (own_w hw 49 rfl)) Via.refl rfl (H1.keep KK179 nin_g) d_14_11__118 (pc' := 121) rfl ?_
  intro T193 X193 e193
  refine own_callF X193 hx hby hZ (by exact hml) hown (x0 := (⟨"java/util/List", "size", "()I"⟩ : MethodName)) (y := (⟨"java/util/ArrayList", "size", "()I"⟩ : MethodName)) (own_w hw 160 rfl) (own_w hw 161 rfl) (own_w hw 162 rfl) (own_w hw 163 rfl) (own_w hw 164 rfl) (own_w hw 165 rfl) (own_w hw 166 rfl) (own_w hw 69 rfl) (own_w hw 27 rfl) rfl (own_w hw 167 rfl) (by decide) e193 1 (by decide) (by decide) (by decide) (by decide) (argsL := []) (rest := [(.int (2 : Int32))]) (lenOf pd___I rfl) rfl (Nat.le_of_eq rfl) E182_rl (rmSz l Z a0 hw rl (2 : Int32) T179.heap F185_size) d_14_11__121 (pc' := 126) rfl ?_
  intro v194 T194 L194 X194 hQ194
  obtain ⟨rfl, rfl, e194⟩ := hQ194
  rw [List.append_nil] at X194
  replace e194 : T194.heap = T179.heap := e194
  show GoP p e below Φ (T194.setTop (mkF m 126 #[.val (.ref g), .val (.ref aC), .val (.int pt), .val (.int (0 : Int32)), .val (.ref c1), .val (.ref b25), .val (.int (2 : Int32)), .val (.ref r1), .val (.ref b137)] [(.int (2 : Int32)), (.int (2 : Int32))]))
  refine own_icmpY X194 hx hby d_14_11__126 (flt (by decide)).2.1 (by decide) (pc' := 202) (by decide) ?_
  exact own_ret0 X194 hx hby fin hret d_14_11__202 (by decide) (by decide) (by rw [e194]; exact ⟨rfl, N179, KK179, b25, b84, b137, (H0.keep KK179 nin_g), (H1.keep KK179 nin_g), V180_cu, Y181_cu, (H4.keep KK179 nin_c0), V187_b25, E182_rl, F183_modCount, F184_elementData, F185_size, V179, Y186_es, V189_b84, E190_b84, V191_b137, E192_b137⟩)
theorem ef_rmCut_1_1_0_1_1 (m : MethodId) (x0 : Addr) (x1 : Addr) (x2 : Int32) : entryFrame m #[(.ref x0), (.ref x1), (.int x2)] 9 = mkF m 0 #[.val (.ref x0), .val (.ref x1), .val (.int x2), .unset, .unset, .unset, .unset, .unset, .unset] [] := by first | (simp [entryFrame, mkF, argsToLocals, Value.category]; done) | rfl
set_option maxRecDepth 65536 in
set_option maxHeartbeats 40000000 in
theorem rmCut_1_1_0_1_1 (l : Launch) (Z : State) (a0 : Array Value) (hw : ∀ d ∈ tables_1, d.before a0 Z = true) (g aW aC cu c0 c1 rl es r0 r1 : Addr) (pt q u0 mc : Int32) (n0 : Nat) (h0 : Heap) (n0_cu : n0 ≤ cu) (n0_rl : n0 ≤ rl) (n0_es : n0 ≤ es) (Z0 : n0 ≤ h0.size) (ox : aC < n0) (hlo : (pt - (1 : Int32)) < q) (ne_aC_aW : aC ≠ aW) (Eg : Exa Z h0 g "com/example/collectary/collectary/broker/Grid") (Exx : Exa Z h0 aC "com/example/collectary/collectary/broker/Grid$Axis") (Fo : Fld Z h0 aC "java/lang/Enum" "ordinal" "I" (.int (1 : Int32))) (SW : Sta Z h0 "com/example/collectary/collectary/broker/Grid$Axis" "WORD" "Lcom/example/collectary/collectary/broker/Grid$Axis;" (.ref aW)) (H0 : Fld Z h0 g "com/example/collectary/collectary/broker/Grid" "cuts" "[[I" (.ref cu)) (H1 : Fld Z h0 g "com/example/collectary/collectary/broker/Grid" "rows" "Ljava/util/List;" (.ref rl)) (H2 : AV Z h0 cu (.array .int) [.ref c0, .ref c1]) (H3 : CM Z h0 cu "[I") (H4 : AV Z h0 c0 .int [(.int u0)]) (H5 : AV Z h0 c1 .int [(.int q)]) (H6 : Exa Z h0 rl "java/util/ArrayList") (H7 : Fld Z h0 rl "java/util/AbstractList" "modCount" "I" (.int mc)) (H8 : Fld Z h0 rl "java/util/ArrayList" "elementData" "[Ljava/lang/Object;" (.ref es)) (H9 : Fld Z h0 rl "java/util/ArrayList" "size" "I" (.int (2 : Int32))) (H10 : AV Z h0 es (.object "java/lang/Object") [(.ref r0), (.ref r1), .null, .null, .null, .null, .null, .null, .null, .null]) (H11 : CM Z h0 es "java/lang/Object") (H12 : AV Z h0 r0 .int [(.int (0 : Int32)), (.int (0 : Int32))]) (H13 : Exa Z h0 r0 "[I") (H14 : AV Z h0 r1 .int [(.int (0 : Int32)), (.int (0 : Int32))]) (H15 : Exa Z h0 r1 "[I") : Con l Z (⟨"com/example/collectary/collectary/broker/Grid", "addCut", "(Lcom/example/collectary/collectary/broker/Grid$Axis;I)V"⟩ : MethodName) prog_14_method_11_code 9 none [] ({ frames := 3, cells := 3, slots := 8, locals := 90 } : Room) #[(.ref g), (.ref aC), (.int pt)] h0 (fun v h L => v = none ∧ Fr n0 L ∧ Keep h0 h [cu, rl, es] ∧ ∃ cn t0 t1 : Addr, Fld Z h g "com/example/collectary/collectary/broker/Grid" "cuts" "[[I" (.ref cu) ∧ Fld Z h g "com/example/collectary/collectary/broker/Grid" "rows" "Ljava/util/List;" (.ref rl) ∧ AV Z h cu (.array .int) [.ref c0, .ref cn] ∧ CM Z h cu "[I" ∧ AV Z h c0 .int [(.int u0)] ∧ AV Z h cn .int [(.int pt), (.int q)] ∧ Exa Z h rl "java/util/ArrayList" ∧ Fld Z h rl "java/util/AbstractList" "modCount" "I" (.int mc) ∧ Fld Z h rl "java/util/ArrayList" "elementData" "[Ljava/lang/Object;" (.ref es) ∧ Fld Z h rl "java/util/ArrayList" "size" "I" (.int (2 : Int32)) ∧ AV Z h es (.object "java/lang/Object") [(.ref t0), (.ref t1), .null, .null, .null, .null, .null, .null, .null, .null] ∧ CM Z h es "java/lang/Object" ∧ AV Z h t0 .int [(.int (0 : Int32)), (.int (0 : Int32)), (.int (0 : Int32))] ∧ Exa Z h t0 "[I" ∧ AV Z h t1 .int [(.int (0 : Int32)), (.int (0 : Int32)), (.int (0 : Int32))] ∧ Exa Z h t1 "[I") := by
  refine Con.of (plainFor_of_name pn_com_example_collectary_collectary_broker_Grid) ?_
  intro p e s m below meth c T X hx hby hml hown hnm hret eT hZ hsh Φ fin
  replace hown : s.vm.findClass "com/example/collectary/collectary/broker/Grid" = some m.cls := hown
  replace hml : 9 = c.maxLocals := hml.symm
  refine own_step (fun tq kq => castTop (ef_rmCut_1_1_0_1_1 m g aC pt) kq) ?_
  have N0 := Fr.nil n0
  have K0 : Keep h0 h0 [cu, rl, es] := Keep.refl h0 [cu, rl, es]
  have ne1_g_cu : g ≠ cu := own_ne_ea Eg (own_w hw 8 rfl) H2
  have ne2_aC_cu : aC ≠ cu := Nat.ne_of_lt (Nat.lt_of_lt_of_le ox n0_cu)
  have ne3_c0_cu : c0 ≠ cu := own_ne_av2 H4 H2 (by decide)
  have ne4_c1_cu : c1 ≠ cu := own_ne_av2 H5 H2 (by decide)
  have ne5_rl_cu : rl ≠ cu := own_ne_ea H6 (own_w hw 26 rfl) H2
  have ne6_es_cu : es ≠ cu := own_ne_av2 H10 H2 (by decide)
  have ne7_r0_cu : r0 ≠ cu := own_ne_av2 H12 H2 (by decide)
  have ne8_r1_cu : r1 ≠ cu := own_ne_av2 H14 H2 (by decide)
  have ne9_g_rl : g ≠ rl := ne_exa Eg H6 (by decide)
  have ne10_aC_rl : aC ≠ rl := Nat.ne_of_lt (Nat.lt_of_lt_of_le ox n0_rl)
  have ne11_c0_rl : c0 ≠ rl := (own_ne_ea H6 (own_w hw 26 rfl) H4).symm
  have ne12_c1_rl : c1 ≠ rl := (own_ne_ea H6 (own_w hw 26 rfl) H5).symm
  have ne13_es_rl : es ≠ rl := (own_ne_ea H6 (own_w hw 26 rfl) H10).symm
  have ne14_r0_rl : r0 ≠ rl := (own_ne_ea H6 (own_w hw 26 rfl) H12).symm
  have ne15_r1_rl : r1 ≠ rl := (own_ne_ea H6 (own_w hw 26 rfl) H14).symm
  have ne16_g_es : g ≠ es := own_ne_ea Eg (own_w hw 8 rfl) H10
  have ne17_aC_es : aC ≠ es := Nat.ne_of_lt (Nat.lt_of_lt_of_le ox n0_es)
  have ne18_c0_es : c0 ≠ es := own_ne_av2 H4 H10 (by decide)
  have ne19_c1_es : c1 ≠ es := own_ne_av2 H5 H10 (by decide)
  have ne20_r0_es : r0 ≠ es := own_ne_av2 H12 H10 (by decide)
  have ne21_r1_es : r1 ≠ es := own_ne_av2 H14 H10 (by decide)
  have nin_g : g ∉ [cu, rl, es] := (ninS ne1_g_cu (ninS ne9_g_rl (ninS ne16_g_es nin0)))
  have lt0_g := Eg.lt
  have nin_aC : aC ∉ [cu, rl, es] := (ninS ne2_aC_cu (ninS ne10_aC_rl (ninS ne17_aC_es nin0)))
  have lt0_aC := Exx.lt
  have nin_c0 : c0 ∉ [cu, rl, es] := (ninS ne3_c0_cu (ninS ne11_c0_rl (ninS ne18_c0_es nin0)))
  have lt0_c0 := H4.lt
  have nin_c1 : c1 ∉ [cu, rl, es] := (ninS ne4_c1_cu (ninS ne12_c1_rl (ninS ne19_c1_es nin0)))
  have lt0_c1 := H5.lt
  have nin_r0 : r0 ∉ [cu, rl, es] := (ninS ne7_r0_cu (ninS ne14_r0_rl (ninS ne20_r0_es nin0)))
  have lt0_r0 := H12.lt
  have nin_r1 : r1 ∉ [cu, rl, es] := (ninS ne8_r1_cu (ninS ne15_r1_rl (ninS ne21_r1_es nin0)))
  have lt0_r1 := H14.lt
  have plain_ws : ∀ x ∈ [cu, rl, es], ∀ c : Cell, h0[x]? = some c → c.vm.isStatics = false := (allS H2.plain (allS (own_plainE H6) (allS H10.plain all0)))
  refine own_aloadN X hx hby d_14_11__0 rfl rfl (pc' := 1) rfl ?_
  refine own_aloadN X hx hby d_14_11__1 rfl rfl (pc' := 2) rfl ?_
  refine own_iloadN X hx hby d_14_11__2 rfl (pc' := 3) rfl ?_
  refine own_iconst X hx hby d_14_11__3 (v := (1 : Int32)) rfl (pc' := 4) rfl ?_
  refine own_isub X hx hby d_14_11__4 (pc' := 5) rfl ?_
  refine own_callV X hx hby hZ (by exact hml) hown (own_w hw 102 rfl) (own_w hw 103 rfl) (own_w hw 105 rfl) (own_w hw 104 rfl) (own_w hw 9 rfl) (own_w hw 106 rfl) (by decide) eT 0 (by decide) (by decide) (by decide) (by decide) (argsL := [(.ref aC), (.int (pt - (1 : Int32)))]) (rest := []) (lenOf pd__Lcom_example_collectary_collectary_broker_Grid_Axis_I_I rfl) rfl (Nat.le_of_eq rfl) Eg (rmIv1_1 l Z a0 hw g aC cu c0 c1 q (pt - (1 : Int32)) h0 Exx Fo H0 H2 H5) d_14_11__5 (pc' := 8) rfl ?_
  intro v22 T22 L22 X22 hQ22
  obtain ⟨rfl, rfl, e22⟩ := hQ22
  rw [List.append_nil] at X22
  replace e22 : T22.heap = h0 := e22
  show GoP p e below Φ (T22.setTop (mkF m 8 #[.val (.ref g), .val (.ref aC), .val (.int pt), .unset, .unset, .unset, .unset, .unset, .unset] [(.int (if (pt - (1 : Int32)) < q then (0 : Int32) else (1 : Int32)))]))
  rw [if_pos hlo]
  refine own_istoreN X22 hx hby d_14_11__8  (Ls' := #[.val (.ref g), .val (.ref aC), .val (.int pt), .val (.int (0 : Int32)), .unset, .unset, .unset, .unset, .unset]) rfl (pc' := 9) rfl ?_
  refine own_aloadN X22 hx hby d_14_11__9 rfl rfl (pc' := 10) rfl ?_
  refine own_getF X22 hx hby hZ hown (host := "") (Or.inl (own_w hw 23 rfl)) Via.refl e22 H0 d_14_11__10 (pc' := 13) rfl ?_
  intro T23 X23 e23
  refine own_aloadN X23 hx hby d_14_11__13 rfl rfl (pc' := 14) rfl ?_
  refine own_callU X23 hx hby hZ (by exact hml) hown (x0 := (⟨"com/example/collectary/collectary/broker/Grid$Axis", "ordinal", "()I"⟩ : MethodName)) (y := (⟨"java/lang/Enum", "ordinal", "()I"⟩ : MethodName)) (own_w hw 52 rfl) (own_w hw 53 rfl) (own_w hw 54 rfl) (own_w hw 56 rfl) (own_w hw 55 rfl) (own_w hw 57 rfl) (own_w hw 58 rfl) (by decide) e23 1 (by decide) (by decide) (by decide) (by decide) (argsL := []) (rest := [(.ref cu)]) (lenOf pd___I rfl) rfl (Nat.le_of_eq rfl) Exx (rmO l Z a0 hw aC (1 : Int32) h0 Fo) d_14_11__14 (pc' := 17) rfl ?_
  intro v24 T24 L24 X24 hQ24
  obtain ⟨rfl, rfl, e24⟩ := hQ24
  rw [List.append_nil] at X24
  replace e24 : T24.heap = h0 := e24
  show GoP p e below Φ (T24.setTop (mkF m 17 #[.val (.ref g), .val (.ref aC), .val (.int pt), .val (.int (0 : Int32)), .unset, .unset, .unset, .unset, .unset] [(.int (1 : Int32)), (.ref cu)]))
  refine own_aaload X24 hx hby hZ e24 H2 rfl (by decide) (v := (.ref c1)) rfl d_14_11__17 (pc' := 18) rfl ?_
  refine own_astore X24 hx hby d_14_11__18 rfl (Ls' := #[.val (.ref g), .val (.ref aC), .val (.int pt), .val (.int (0 : Int32)), .val (.ref c1), .unset, .unset, .unset, .unset]) rfl (pc' := 20) rfl ?_
  refine own_aload X24 hx hby d_14_11__20 rfl rfl (pc' := 22) rfl ?_
  refine own_alen X24 hx hby hZ e24 (n := (1 : Int32)) H5 rfl d_14_11__22 (pc' := 23) rfl ?_
  refine own_iconst X24 hx hby d_14_11__23 (v := (1 : Int32)) rfl (pc' := 24) rfl ?_
  refine own_iadd X24 hx hby d_14_11__24 (pc' := 25) rfl ?_
  show GoP p e below Φ (T24.setTop (mkF m 25 #[.val (.ref g), .val (.ref aC), .val (.int pt), .val (.int (0 : Int32)), .val (.ref c1), .unset, .unset, .unset, .unset] [(.int (2 : Int32))]))
  refine own_newI X24 hx hby hZ (own_w hw 17 rfl) e24 (by decide) 2 (by decide) (by decide) (by decide) (by decide) d_14_11__25 (pc' := 27) rfl ?_
  intro T25 h25 b25 X25 e25 E25 g25 V25 I25 A25
  have ne_cu_b25 : cu ≠ b25 := Nat.ne_of_lt (g25 ▸ H2.lt)
  have ne_rl_b25 : rl ≠ b25 := Nat.ne_of_lt (g25 ▸ H6.lt)
  have ne_es_b25 : es ≠ b25 := Nat.ne_of_lt (g25 ▸ H10.lt)
  have V26_cu := H2.ext E25
  have Y27_cu := H3.ext E25
  have E28_rl := H6.ext E25
  have F29_modCount := H7.ext E25
  have F30_elementData := H8.ext E25
  have F31_size := H9.ext E25
  have V32_es := H10.ext E25
  have Y33_es := H11.ext E25
  have Z25 : n0 ≤ h25.size := Nat.le_trans Z0 E25.1
  have n0_b25 : n0 ≤ b25 := g25 ▸ Z0
  have sz_b25 : h0.size ≤ b25 := g25 ▸ K0.1
  have K25 : Keep h0 h25 [cu, rl, es] := K0.ext E25
  replace V25 : AV Z h25 b25 .int [(.int (0 : Int32)), (.int (0 : Int32))] := V25
  show GoP p e below Φ (T25.setTop (mkF m 27 #[.val (.ref g), .val (.ref aC), .val (.int pt), .val (.int (0 : Int32)), .val (.ref c1), .unset, .unset, .unset, .unset] [(.ref b25)]))
  refine own_astore X25 hx hby d_14_11__27 rfl (Ls' := #[.val (.ref g), .val (.ref aC), .val (.int pt), .val (.int (0 : Int32)), .val (.ref c1), .val (.ref b25), .unset, .unset, .unset]) rfl (pc' := 29) rfl ?_
  refine own_aload X25 hx hby d_14_11__29 rfl rfl (pc' := 31) rfl ?_
  refine own_iconst X25 hx hby d_14_11__31 (v := (0 : Int32)) rfl (pc' := 32) rfl ?_
  refine own_aload X25 hx hby d_14_11__32 rfl rfl (pc' := 34) rfl ?_
  refine own_iconst X25 hx hby d_14_11__34 (v := (0 : Int32)) rfl (pc' := 35) rfl ?_
  refine own_iloadN X25 hx hby d_14_11__35 rfl (pc' := 36) rfl ?_
  refine own_copyV X25 hx hby (dv := (.int 0)) hZ (by exact hml) hown (own_w hw 114 rfl) (own_w hw 117 rfl) (own_w hw 115 rfl) (own_w hw 116 rfl) e25 (H5.keep K25 nin_c1) V25 rfl rfl rfl (by decide) (by decide) (by decide) (Nat.le_of_ble_eq_true rfl) (Nat.le_of_ble_eq_true rfl) N0 n0_b25 (by decide) 0 (Nat.le_of_eq rfl) (by decide) d_14_11__36 (pc' := 39) rfl ?_
  intro T34 h34 L34 X34 e34 Nn34 K34 V34
  replace V34 : AV Z h34 b25 .int [(.int (0 : Int32)), (.int (0 : Int32))] := V34
  have V35_cu := V26_cu.keep K34 (ninS ne_cu_b25 nin0)
  have Y36_cu := Y27_cu.keep K34 
  have E37_rl := E28_rl.keep K34 
  have F38_modCount := F29_modCount.keep K34 (ninS ne_rl_b25 nin0)
  have F39_elementData := F30_elementData.keep K34 (ninS ne_rl_b25 nin0)
  have F40_size := F31_size.keep K34 (ninS ne_rl_b25 nin0)
  have V41_es := V32_es.keep K34 (ninS ne_es_b25 nin0)
  have Y42_es := Y33_es.keep K34 
  have E43_b25 := A25.keep K34 
  have KC34 : Keep h0 h34 [cu, rl, es] := K25.trans K34 (allS (Or.inr sz_b25) all0)
  have ZC34 : n0 ≤ h34.size := Nat.le_trans Z25 K34.1
  refine own_aload X34 hx hby d_14_11__39 rfl rfl (pc' := 41) rfl ?_
  refine own_iloadN X34 hx hby d_14_11__41 rfl (pc' := 42) rfl ?_
  refine own_iloadN X34 hx hby d_14_11__42 rfl (pc' := 43) rfl ?_
  refine own_iastore X34 hx hby hZ e34 V34 (by decide) (Nat.le_of_ble_eq_true rfl) d_14_11__43 (pc' := 44) rfl ?_
  intro T44 h44 X44 e44 W44 V44
  replace V44 : AV Z h44 b25 .int [(.int pt), (.int (0 : Int32))] := V44
  have V45_cu := V35_cu.other W44 ne_cu_b25
  have Y46_cu := Y36_cu.wr W44
  have E47_rl := E37_rl.wr W44
  have F48_modCount := F38_modCount.other W44 (Or.inl ne_rl_b25)
  have F49_elementData := F39_elementData.other W44 (Or.inl ne_rl_b25)
  have F50_size := F40_size.other W44 (Or.inl ne_rl_b25)
  have V51_es := V41_es.other W44 ne_es_b25
  have Y52_es := Y42_es.wr W44
  have E54_b25 := E43_b25.wr W44
  have Z44 : n0 ≤ h44.size := by rw [W44.size]; exact ZC34
  have N44 := Fr.snoc X44 Nn34 n0_b25
  have K44 : Keep h0 h44 [cu, rl, es] := KC34.wr W44 (Or.inr sz_b25)
  refine own_aload X44 hx hby d_14_11__44 rfl rfl (pc' := 46) rfl ?_
  refine own_iloadN X44 hx hby d_14_11__46 rfl (pc' := 47) rfl ?_
  refine own_aload X44 hx hby d_14_11__47 rfl rfl (pc' := 49) rfl ?_
  refine own_iloadN X44 hx hby d_14_11__49 rfl (pc' := 50) rfl ?_
  refine own_iconst X44 hx hby d_14_11__50 (v := (1 : Int32)) rfl (pc' := 51) rfl ?_
  refine own_iadd X44 hx hby d_14_11__51 (pc' := 52) rfl ?_
  show GoP p e below Φ (T44.setTop (mkF m 52 #[.val (.ref g), .val (.ref aC), .val (.int pt), .val (.int (0 : Int32)), .val (.ref c1), .val (.ref b25), .unset, .unset, .unset] [(.int (1 : Int32)), (.ref b25), (.int (0 : Int32)), (.ref c1)]))
  refine own_aload X44 hx hby d_14_11__52 rfl rfl (pc' := 54) rfl ?_
  refine own_alen X44 hx hby hZ e44 (n := (1 : Int32)) (H5.keep K44 nin_c1) rfl d_14_11__54 (pc' := 55) rfl ?_
  refine own_iloadN X44 hx hby d_14_11__55 rfl (pc' := 56) rfl ?_
  refine own_isub X44 hx hby d_14_11__56 (pc' := 57) rfl ?_
  show GoP p e below Φ (T44.setTop (mkF m 57 #[.val (.ref g), .val (.ref aC), .val (.int pt), .val (.int (0 : Int32)), .val (.ref c1), .val (.ref b25), .unset, .unset, .unset] [(.int (1 : Int32)), (.int (1 : Int32)), (.ref b25), (.int (0 : Int32)), (.ref c1)]))
  refine own_copyV X44 hx hby (dv := (.int 0)) hZ (by exact hml) hown (own_w hw 114 rfl) (own_w hw 117 rfl) (own_w hw 115 rfl) (own_w hw 116 rfl) e44 (H5.keep K44 nin_c1) V44 rfl rfl rfl (by decide) (by decide) (by decide) (Nat.le_of_ble_eq_true rfl) (Nat.le_of_ble_eq_true rfl) N44 n0_b25 (by decide) 0 (Nat.le_of_eq rfl) (by decide) d_14_11__57 (pc' := 60) rfl ?_
  intro T55 h55 L55 X55 e55 Nn55 K55 V55
  replace V55 : AV Z h55 b25 .int [(.int pt), (.int q)] := V55
  have V56_cu := V45_cu.keep K55 (ninS ne_cu_b25 nin0)
  have Y57_cu := Y46_cu.keep K55 
  have E58_rl := E47_rl.keep K55 
  have F59_modCount := F48_modCount.keep K55 (ninS ne_rl_b25 nin0)
  have F60_elementData := F49_elementData.keep K55 (ninS ne_rl_b25 nin0)
  have F61_size := F50_size.keep K55 (ninS ne_rl_b25 nin0)
  have V62_es := V51_es.keep K55 (ninS ne_es_b25 nin0)
  have Y63_es := Y52_es.keep K55 
  have E64_b25 := E54_b25.keep K55 
  have KC55 : Keep h0 h55 [cu, rl, es] := K44.trans K55 (allS (Or.inr sz_b25) all0)
  have ZC55 : n0 ≤ h55.size := Nat.le_trans Z44 K55.1
  refine own_aloadN X55 hx hby d_14_11__60 rfl rfl (pc' := 61) rfl ?_
  refine own_getF X55 hx hby hZ hown (host := "") (Or.inl (own_w hw 23 rfl)) Via.refl e55 (H0.keep KC55 nin_g) d_14_11__61 (pc' := 64) rfl ?_
  intro T65 X65 e65
  refine own_aloadN X65 hx hby d_14_11__64 rfl rfl (pc' := 65) rfl ?_
  refine own_callU X65 hx hby hZ (by exact hml) hown (x0 := (⟨"com/example/collectary/collectary/broker/Grid$Axis", "ordinal", "()I"⟩ : MethodName)) (y := (⟨"java/lang/Enum", "ordinal", "()I"⟩ : MethodName)) (own_w hw 52 rfl) (own_w hw 53 rfl) (own_w hw 54 rfl) (own_w hw 56 rfl) (own_w hw 55 rfl) (own_w hw 57 rfl) (own_w hw 58 rfl) (by decide) e65 1 (by decide) (by decide) (by decide) (by decide) (argsL := []) (rest := [(.ref cu)]) (lenOf pd___I rfl) rfl (Nat.le_of_eq rfl) (Exx.keep KC55) (rmO l Z a0 hw aC (1 : Int32) h55 (Fo.keep KC55 nin_aC)) d_14_11__65 (pc' := 68) rfl ?_
  intro v66 T66 L66 X66 hQ66
  obtain ⟨rfl, rfl, e66⟩ := hQ66
  rw [List.append_nil] at X66
  replace e66 : T66.heap = h55 := e66
  show GoP p e below Φ (T66.setTop (mkF m 68 #[.val (.ref g), .val (.ref aC), .val (.int pt), .val (.int (0 : Int32)), .val (.ref c1), .val (.ref b25), .unset, .unset, .unset] [(.int (1 : Int32)), (.ref cu)]))
  refine own_aload X66 hx hby d_14_11__68 rfl rfl (pc' := 70) rfl ?_
  refine own_aastore X66 hx hby hZ e66 V56_cu rfl (own_sto V56_cu Y57_cu (Ins.self E64_b25)) (by decide) (Nat.le_of_ble_eq_true rfl) d_14_11__70 (pc' := 71) rfl ?_
  intro T67 h67 X67 e67 W67 V67
  replace V67 : AV Z h67 cu (.array .int) [(.ref c0), (.ref b25)] := V67
  have Y69_cu := Y57_cu.wr W67
  have E70_rl := E58_rl.wr W67
  have F71_modCount := F59_modCount.other W67 (Or.inl ne5_rl_cu)
  have F72_elementData := F60_elementData.other W67 (Or.inl ne5_rl_cu)
  have F73_size := F61_size.other W67 (Or.inl ne5_rl_cu)
  have V74_es := V62_es.other W67 ne6_es_cu
  have Y75_es := Y63_es.wr W67
  have V76_b25 := V55.other W67 (Ne.symm ne_cu_b25)
  have E77_b25 := E64_b25.wr W67
  have Z67 : n0 ≤ h67.size := by rw [W67.size]; exact ZC55
  have N67 := Fr.snoc X67 Nn55 n0_cu
  have K67 : Keep h0 h67 [cu, rl, es] := KC55.wr W67 (Or.inl (List.mem_of_getElem? (i := 0) rfl))
  refine own_aloadN X67 hx hby d_14_11__71 rfl rfl (pc' := 72) rfl ?_
  refine own_getS X67 hx hby hZ hown (host := "") (Or.inl (own_w hw 51 rfl)) Via.refl e67 (own_stakeep SW K67 plain_ws) d_14_11__72 (pc' := 75) rfl ?_
  intro T78 X78 e78
  refine own_acmp X78 hx hby d_14_11__75 rfl rfl (same := false) (decide_eq_false (fun q => ne_aC_aW (Value.ref.inj q))) (by decide) (pc' := 112) (by decide) ?_
  refine own_iconst X78 hx hby d_14_11__112 (v := (0 : Int32)) rfl (pc' := 113) rfl ?_
  refine own_istore X78 hx hby d_14_11__113  (Ls' := #[.val (.ref g), .val (.ref aC), .val (.int pt), .val (.int (0 : Int32)), .val (.ref c1), .val (.ref b25), .val (.int (0 : Int32)), .unset, .unset]) rfl (pc' := 115) rfl ?_
  refine own_iload X78 hx hby d_14_11__115 rfl (pc' := 117) rfl ?_
  refine own_aloadN X78 hx hby d_14_11__117 rfl rfl (pc' := 118) rfl ?_
  refine own_getF X78 hx hby hZ hown (host := "") (Or.inl (own_w hw 49 rfl)) Via.refl e78 (H1.keep K67 nin_g) d_14_11__118 (pc' := 121) rfl ?_
  intro T79 X79 e79
  refine own_callF X79 hx hby hZ (by exact hml) hown (x0 := (⟨"java/util/List", "size", "()I"⟩ : MethodName)) (y := (⟨"java/util/ArrayList", "size", "()I"⟩ : MethodName)) (own_w hw 160 rfl) (own_w hw 161 rfl) (own_w hw 162 rfl) (own_w hw 163 rfl) (own_w hw 164 rfl) (own_w hw 165 rfl) (own_w hw 166 rfl) (own_w hw 69 rfl) (own_w hw 27 rfl) rfl (own_w hw 167 rfl) (by decide) e79 1 (by decide) (by decide) (by decide) (by decide) (argsL := []) (rest := [(.int (0 : Int32))]) (lenOf pd___I rfl) rfl (Nat.le_of_eq rfl) E70_rl (rmSz l Z a0 hw rl (2 : Int32) h67 F73_size) d_14_11__121 (pc' := 126) rfl ?_
  intro v80 T80 L80 X80 hQ80
  obtain ⟨rfl, rfl, e80⟩ := hQ80
  rw [List.append_nil] at X80
  replace e80 : T80.heap = h67 := e80
  show GoP p e below Φ (T80.setTop (mkF m 126 #[.val (.ref g), .val (.ref aC), .val (.int pt), .val (.int (0 : Int32)), .val (.ref c1), .val (.ref b25), .val (.int (0 : Int32)), .unset, .unset] [(.int (2 : Int32)), (.int (0 : Int32))]))
  refine own_icmpN X80 hx hby d_14_11__126 (tlt (by decide)).2.1 (pc' := 129) rfl ?_
  refine own_aloadN X80 hx hby d_14_11__129 rfl rfl (pc' := 130) rfl ?_
  refine own_getF X80 hx hby hZ hown (host := "") (Or.inl (own_w hw 49 rfl)) Via.refl e80 (H1.keep K67 nin_g) d_14_11__130 (pc' := 133) rfl ?_
  intro T81 X81 e81
  refine own_iload X81 hx hby d_14_11__133 rfl (pc' := 135) rfl ?_
  refine own_callF X81 hx hby hZ (by exact hml) hown (x0 := (⟨"java/util/List", "get", "(I)Ljava/lang/Object;"⟩ : MethodName)) (y := (⟨"java/util/ArrayList", "get", "(I)Ljava/lang/Object;"⟩ : MethodName)) (own_w hw 118 rfl) (own_w hw 119 rfl) (own_w hw 120 rfl) (own_w hw 121 rfl) (own_w hw 122 rfl) (own_w hw 123 rfl) (own_w hw 124 rfl) (own_w hw 69 rfl) (own_w hw 27 rfl) rfl (own_w hw 125 rfl) (by decide) e81 0 (by decide) (by decide) (by decide) (by decide) (argsL := [(.int (0 : Int32))]) (rest := []) (lenOf pd__I_Ljava_lang_Object_ rfl) rfl (Nat.le_of_eq rfl) E70_rl (rmG0 l Z a0 hw rl es r0 (2 : Int32) (.ref r1) .null .null .null .null .null .null .null .null h67 (by decide) E70_rl F73_size F72_elementData V74_es) d_14_11__135 (pc' := 140) rfl ?_
  intro v82 T82 L82 X82 hQ82
  obtain ⟨rfl, rfl, e82⟩ := hQ82
  rw [List.append_nil] at X82
  replace e82 : T82.heap = h67 := e82
  show GoP p e below Φ (T82.setTop (mkF m 140 #[.val (.ref g), .val (.ref aC), .val (.int pt), .val (.int (0 : Int32)), .val (.ref c1), .val (.ref b25), .val (.int (0 : Int32)), .unset, .unset] [(.ref r0)]))
  obtain ⟨T83, X83, e83, st83⟩ := castY X82 hx hZ hown (own_w hw 20 rfl) e82 (Ins.self (H13.keep K67)) (g := (mkF m 140 #[.val (.ref g), .val (.ref aC), .val (.int pt), .val (.int (0 : Int32)), .val (.ref c1), .val (.ref b25), .val (.int (0 : Int32)), .unset, .unset] [(.ref r0)])) rfl rfl (hb hby d_14_11__140)
  refine own_step st83 ?_
  show GoP p e below Φ (T83.setTop (mkF m 143 #[.val (.ref g), .val (.ref aC), .val (.int pt), .val (.int (0 : Int32)), .val (.ref c1), .val (.ref b25), .val (.int (0 : Int32)), .unset, .unset] [(.ref r0)]))
  refine own_astore X83 hx hby d_14_11__143 rfl (Ls' := #[.val (.ref g), .val (.ref aC), .val (.int pt), .val (.int (0 : Int32)), .val (.ref c1), .val (.ref b25), .val (.int (0 : Int32)), .val (.ref r0), .unset]) rfl (pc' := 145) rfl ?_
  refine own_aload X83 hx hby d_14_11__145 rfl rfl (pc' := 147) rfl ?_
  refine own_alen X83 hx hby hZ e83 (n := (2 : Int32)) (H12.keep K67 nin_r0) rfl d_14_11__147 (pc' := 148) rfl ?_
  refine own_iconst X83 hx hby d_14_11__148 (v := (1 : Int32)) rfl (pc' := 149) rfl ?_
  refine own_iadd X83 hx hby d_14_11__149 (pc' := 150) rfl ?_
  show GoP p e below Φ (T83.setTop (mkF m 150 #[.val (.ref g), .val (.ref aC), .val (.int pt), .val (.int (0 : Int32)), .val (.ref c1), .val (.ref b25), .val (.int (0 : Int32)), .val (.ref r0), .unset] [(.int (3 : Int32))]))
  refine own_newI X83 hx hby hZ (own_w hw 17 rfl) e83 (by decide) 3 (by decide) (by decide) (by decide) (by decide) d_14_11__150 (pc' := 152) rfl ?_
  intro T84 h84 b84 X84 e84 E84 g84 V84 I84 A84
  have ne_cu_b84 : cu ≠ b84 := Nat.ne_of_lt (g84 ▸ V67.lt)
  have ne_rl_b84 : rl ≠ b84 := Nat.ne_of_lt (g84 ▸ E70_rl.lt)
  have ne_es_b84 : es ≠ b84 := Nat.ne_of_lt (g84 ▸ V74_es.lt)
  have ne_b25_b84 : b25 ≠ b84 := Nat.ne_of_lt (g84 ▸ V76_b25.lt)
  have V85_cu := V67.ext E84
  have Y86_cu := Y69_cu.ext E84
  have E87_rl := E70_rl.ext E84
  have F88_modCount := F71_modCount.ext E84
  have F89_elementData := F72_elementData.ext E84
  have F90_size := F73_size.ext E84
  have V91_es := V74_es.ext E84
  have Y92_es := Y75_es.ext E84
  have V93_b25 := V76_b25.ext E84
  have E94_b25 := E77_b25.ext E84
  have Z84 : n0 ≤ h84.size := Nat.le_trans Z67 E84.1
  have n0_b84 : n0 ≤ b84 := g84 ▸ Z67
  have sz_b84 : h0.size ≤ b84 := g84 ▸ K67.1
  have K84 : Keep h0 h84 [cu, rl, es] := K67.ext E84
  replace V84 : AV Z h84 b84 .int [(.int (0 : Int32)), (.int (0 : Int32)), (.int (0 : Int32))] := V84
  show GoP p e below Φ (T84.setTop (mkF m 152 #[.val (.ref g), .val (.ref aC), .val (.int pt), .val (.int (0 : Int32)), .val (.ref c1), .val (.ref b25), .val (.int (0 : Int32)), .val (.ref r0), .unset] [(.ref b84)]))
  refine own_astore X84 hx hby d_14_11__152 rfl (Ls' := #[.val (.ref g), .val (.ref aC), .val (.int pt), .val (.int (0 : Int32)), .val (.ref c1), .val (.ref b25), .val (.int (0 : Int32)), .val (.ref r0), .val (.ref b84)]) rfl (pc' := 154) rfl ?_
  refine own_aload X84 hx hby d_14_11__154 rfl rfl (pc' := 156) rfl ?_
  refine own_iconst X84 hx hby d_14_11__156 (v := (0 : Int32)) rfl (pc' := 157) rfl ?_
  refine own_aload X84 hx hby d_14_11__157 rfl rfl (pc' := 159) rfl ?_
  refine own_iconst X84 hx hby d_14_11__159 (v := (0 : Int32)) rfl (pc' := 160) rfl ?_
  refine own_iloadN X84 hx hby d_14_11__160 rfl (pc' := 161) rfl ?_
  refine own_iconst X84 hx hby d_14_11__161 (v := (1 : Int32)) rfl (pc' := 162) rfl ?_
  refine own_iadd X84 hx hby d_14_11__162 (pc' := 163) rfl ?_
  show GoP p e below Φ (T84.setTop (mkF m 163 #[.val (.ref g), .val (.ref aC), .val (.int pt), .val (.int (0 : Int32)), .val (.ref c1), .val (.ref b25), .val (.int (0 : Int32)), .val (.ref r0), .val (.ref b84)] [(.int (1 : Int32)), (.int (0 : Int32)), (.ref b84), (.int (0 : Int32)), (.ref r0)]))
  refine own_copyV X84 hx hby (dv := (.int 0)) hZ (by exact hml) hown (own_w hw 114 rfl) (own_w hw 117 rfl) (own_w hw 115 rfl) (own_w hw 116 rfl) e84 (H12.keep K84 nin_r0) V84 rfl rfl rfl (by decide) (by decide) (by decide) (Nat.le_of_ble_eq_true rfl) (Nat.le_of_ble_eq_true rfl) N67 n0_b84 (by decide) 0 (Nat.le_of_eq rfl) (by decide) d_14_11__163 (pc' := 166) rfl ?_
  intro T95 h95 L95 X95 e95 Nn95 K95 V95
  replace V95 : AV Z h95 b84 .int [(.int (0 : Int32)), (.int (0 : Int32)), (.int (0 : Int32))] := V95
  have V96_cu := V85_cu.keep K95 (ninS ne_cu_b84 nin0)
  have Y97_cu := Y86_cu.keep K95 
  have E98_rl := E87_rl.keep K95 
  have F99_modCount := F88_modCount.keep K95 (ninS ne_rl_b84 nin0)
  have F100_elementData := F89_elementData.keep K95 (ninS ne_rl_b84 nin0)
  have F101_size := F90_size.keep K95 (ninS ne_rl_b84 nin0)
  have V102_es := V91_es.keep K95 (ninS ne_es_b84 nin0)
  have Y103_es := Y92_es.keep K95 
  have V104_b25 := V93_b25.keep K95 (ninS ne_b25_b84 nin0)
  have E105_b25 := E94_b25.keep K95 
  have E106_b84 := A84.keep K95 
  have KC95 : Keep h0 h95 [cu, rl, es] := K84.trans K95 (allS (Or.inr sz_b84) all0)
  have ZC95 : n0 ≤ h95.size := Nat.le_trans Z84 K95.1
  refine own_aload X95 hx hby d_14_11__166 rfl rfl (pc' := 168) rfl ?_
  refine own_iloadN X95 hx hby d_14_11__168 rfl (pc' := 169) rfl ?_
  refine own_aload X95 hx hby d_14_11__169 rfl rfl (pc' := 171) rfl ?_
  refine own_iloadN X95 hx hby d_14_11__171 rfl (pc' := 172) rfl ?_
  refine own_iconst X95 hx hby d_14_11__172 (v := (1 : Int32)) rfl (pc' := 173) rfl ?_
  refine own_iadd X95 hx hby d_14_11__173 (pc' := 174) rfl ?_
  show GoP p e below Φ (T95.setTop (mkF m 174 #[.val (.ref g), .val (.ref aC), .val (.int pt), .val (.int (0 : Int32)), .val (.ref c1), .val (.ref b25), .val (.int (0 : Int32)), .val (.ref r0), .val (.ref b84)] [(.int (1 : Int32)), (.ref b84), (.int (0 : Int32)), (.ref r0)]))
  refine own_aload X95 hx hby d_14_11__174 rfl rfl (pc' := 176) rfl ?_
  refine own_alen X95 hx hby hZ e95 (n := (2 : Int32)) (H12.keep KC95 nin_r0) rfl d_14_11__176 (pc' := 177) rfl ?_
  refine own_iloadN X95 hx hby d_14_11__177 rfl (pc' := 178) rfl ?_
  refine own_isub X95 hx hby d_14_11__178 (pc' := 179) rfl ?_
  show GoP p e below Φ (T95.setTop (mkF m 179 #[.val (.ref g), .val (.ref aC), .val (.int pt), .val (.int (0 : Int32)), .val (.ref c1), .val (.ref b25), .val (.int (0 : Int32)), .val (.ref r0), .val (.ref b84)] [(.int (2 : Int32)), (.int (1 : Int32)), (.ref b84), (.int (0 : Int32)), (.ref r0)]))
  refine own_copyV X95 hx hby (dv := (.int 0)) hZ (by exact hml) hown (own_w hw 114 rfl) (own_w hw 117 rfl) (own_w hw 115 rfl) (own_w hw 116 rfl) e95 (H12.keep KC95 nin_r0) V95 rfl rfl rfl (by decide) (by decide) (by decide) (Nat.le_of_ble_eq_true rfl) (Nat.le_of_ble_eq_true rfl) Nn95 n0_b84 (by decide) 0 (Nat.le_of_eq rfl) (by decide) d_14_11__179 (pc' := 182) rfl ?_
  intro T107 h107 L107 X107 e107 Nn107 K107 V107
  replace V107 : AV Z h107 b84 .int [(.int (0 : Int32)), (.int (0 : Int32)), (.int (0 : Int32))] := V107
  have V108_cu := V96_cu.keep K107 (ninS ne_cu_b84 nin0)
  have Y109_cu := Y97_cu.keep K107 
  have E110_rl := E98_rl.keep K107 
  have F111_modCount := F99_modCount.keep K107 (ninS ne_rl_b84 nin0)
  have F112_elementData := F100_elementData.keep K107 (ninS ne_rl_b84 nin0)
  have F113_size := F101_size.keep K107 (ninS ne_rl_b84 nin0)
  have V114_es := V102_es.keep K107 (ninS ne_es_b84 nin0)
  have Y115_es := Y103_es.keep K107 
  have V116_b25 := V104_b25.keep K107 (ninS ne_b25_b84 nin0)
  have E117_b25 := E105_b25.keep K107 
  have E118_b84 := E106_b84.keep K107 
  have KC107 : Keep h0 h107 [cu, rl, es] := KC95.trans K107 (allS (Or.inr sz_b84) all0)
  have ZC107 : n0 ≤ h107.size := Nat.le_trans ZC95 K107.1
  refine own_aloadN X107 hx hby d_14_11__182 rfl rfl (pc' := 183) rfl ?_
  refine own_getF X107 hx hby hZ hown (host := "") (Or.inl (own_w hw 49 rfl)) Via.refl e107 (H1.keep KC107 nin_g) d_14_11__183 (pc' := 186) rfl ?_
  intro T119 X119 e119
  refine own_iload X119 hx hby d_14_11__186 rfl (pc' := 188) rfl ?_
  refine own_aload X119 hx hby d_14_11__188 rfl rfl (pc' := 190) rfl ?_
  refine own_callF X119 hx hby hZ (by exact hml) hown (x0 := (⟨"java/util/List", "set", "(ILjava/lang/Object;)Ljava/lang/Object;"⟩ : MethodName)) (y := (⟨"java/util/ArrayList", "set", "(ILjava/lang/Object;)Ljava/lang/Object;"⟩ : MethodName)) (own_w hw 168 rfl) (own_w hw 169 rfl) (own_w hw 170 rfl) (own_w hw 171 rfl) (own_w hw 172 rfl) (own_w hw 173 rfl) (own_w hw 174 rfl) (own_w hw 69 rfl) (own_w hw 27 rfl) rfl (own_w hw 175 rfl) (by decide) e119 0 (by decide) (by decide) (by decide) (by decide) (argsL := [(.int (0 : Int32)), (.ref b84)]) (rest := []) (lenOf pd__ILjava_lang_Object__Ljava_lang_Object_ rfl) rfl (Nat.le_of_eq rfl) E110_rl (rmS0 l Z a0 hw rl es r0 b84 (2 : Int32) (.ref r1) .null .null .null .null .null .null .null .null n0 h107 n0_es (Ne.symm ne13_es_rl) (Ne.symm ne_es_b84) (by decide) Y115_es E118_b84 E110_rl F113_size F112_elementData V114_es) d_14_11__190 (pc' := 195) rfl ?_
  intro v120 T120 L120 X120 hQ120
  obtain ⟨rfl, Nq120, K120, V120⟩ := hQ120
  have V121_cu := V108_cu.keep K120 (ninS (Ne.symm ne6_es_cu) nin0)
  have Y122_cu := Y109_cu.keep K120
  have E123_rl := E110_rl.keep K120
  have F124_modCount := F111_modCount.keep K120 (ninS (Ne.symm ne13_es_rl) nin0)
  have F125_elementData := F112_elementData.keep K120 (ninS (Ne.symm ne13_es_rl) nin0)
  have F126_size := F113_size.keep K120 (ninS (Ne.symm ne13_es_rl) nin0)
  have Y127_es := Y115_es.keep K120
  have V128_b25 := V116_b25.keep K120 (ninS (Ne.symm ne_es_b25) nin0)
  have E129_b25 := E117_b25.keep K120
  have V130_b84 := V107.keep K120 (ninS (Ne.symm ne_es_b84) nin0)
  have E131_b84 := E118_b84.keep K120
  have N120 := Fr.app Nn107 Nq120
  have Z120 : n0 ≤ T120.heap.size := Nat.le_trans ZC107 K120.1
  have KK120 : Keep h0 T120.heap [cu, rl, es] := KC107.trans K120 (allS (Or.inl (List.mem_of_getElem? (i := 2) rfl)) all0)
  show GoP p e below Φ (T120.setTop (mkF m 195 #[.val (.ref g), .val (.ref aC), .val (.int pt), .val (.int (0 : Int32)), .val (.ref c1), .val (.ref b25), .val (.int (0 : Int32)), .val (.ref r0), .val (.ref b84)] [(.ref r0)]))
  refine own_pop X120 hx hby d_14_11__195 rfl (pc' := 196) rfl ?_
  refine own_iinc X120 hx hby d_14_11__196 rfl (v := (1 : Int32)) rfl (Ls' := #[.val (.ref g), .val (.ref aC), .val (.int pt), .val (.int (0 : Int32)), .val (.ref c1), .val (.ref b25), .val (.int (1 : Int32)), .val (.ref r0), .val (.ref b84)]) rfl (pc' := 199) rfl ?_
  refine own_goto X120 hx hby d_14_11__199 (by decide) (pc' := 115) (by decide) ?_
  refine own_iload X120 hx hby d_14_11__115 rfl (pc' := 117) rfl ?_
  refine own_aloadN X120 hx hby d_14_11__117 rfl rfl (pc' := 118) rfl ?_
  refine own_getF X120 hx hby hZ hown (host := "") (Or.inl (own_w hw 49 rfl)) Via.refl rfl (H1.keep KK120 nin_g) d_14_11__118 (pc' := 121) rfl ?_
  intro T132 X132 e132
  refine own_callF X132 hx hby hZ (by exact hml) hown (x0 := (⟨"java/util/List", "size", "()I"⟩ : MethodName)) (y := (⟨"java/util/ArrayList", "size", "()I"⟩ : MethodName)) (own_w hw 160 rfl) (own_w hw 161 rfl) (own_w hw 162 rfl) (own_w hw 163 rfl) (own_w hw 164 rfl) (own_w hw 165 rfl) (own_w hw 166 rfl) (own_w hw 69 rfl) (own_w hw 27 rfl) rfl (own_w hw 167 rfl) (by decide) e132 1 (by decide) (by decide) (by decide) (by decide) (argsL := []) (rest := [(.int (1 : Int32))]) (lenOf pd___I rfl) rfl (Nat.le_of_eq rfl) E123_rl (rmSz l Z a0 hw rl (2 : Int32) T120.heap F126_size) d_14_11__121 (pc' := 126) rfl ?_
  intro v133 T133 L133 X133 hQ133
  obtain ⟨rfl, rfl, e133⟩ := hQ133
  rw [List.append_nil] at X133
  replace e133 : T133.heap = T120.heap := e133
  show GoP p e below Φ (T133.setTop (mkF m 126 #[.val (.ref g), .val (.ref aC), .val (.int pt), .val (.int (0 : Int32)), .val (.ref c1), .val (.ref b25), .val (.int (1 : Int32)), .val (.ref r0), .val (.ref b84)] [(.int (2 : Int32)), (.int (1 : Int32))]))
  refine own_icmpN X133 hx hby d_14_11__126 (tlt (by decide)).2.1 (pc' := 129) rfl ?_
  refine own_aloadN X133 hx hby d_14_11__129 rfl rfl (pc' := 130) rfl ?_
  refine own_getF X133 hx hby hZ hown (host := "") (Or.inl (own_w hw 49 rfl)) Via.refl e133 (H1.keep KK120 nin_g) d_14_11__130 (pc' := 133) rfl ?_
  intro T134 X134 e134
  refine own_iload X134 hx hby d_14_11__133 rfl (pc' := 135) rfl ?_
  refine own_callF X134 hx hby hZ (by exact hml) hown (x0 := (⟨"java/util/List", "get", "(I)Ljava/lang/Object;"⟩ : MethodName)) (y := (⟨"java/util/ArrayList", "get", "(I)Ljava/lang/Object;"⟩ : MethodName)) (own_w hw 118 rfl) (own_w hw 119 rfl) (own_w hw 120 rfl) (own_w hw 121 rfl) (own_w hw 122 rfl) (own_w hw 123 rfl) (own_w hw 124 rfl) (own_w hw 69 rfl) (own_w hw 27 rfl) rfl (own_w hw 125 rfl) (by decide) e134 0 (by decide) (by decide) (by decide) (by decide) (argsL := [(.int (1 : Int32))]) (rest := []) (lenOf pd__I_Ljava_lang_Object_ rfl) rfl (Nat.le_of_eq rfl) E123_rl (rmG1 l Z a0 hw rl es r1 (2 : Int32) (.ref b84) .null .null .null .null .null .null .null .null T120.heap (by decide) E123_rl F126_size F125_elementData V120) d_14_11__135 (pc' := 140) rfl ?_
  intro v135 T135 L135 X135 hQ135
  obtain ⟨rfl, rfl, e135⟩ := hQ135
  rw [List.append_nil] at X135
  replace e135 : T135.heap = T120.heap := e135
  show GoP p e below Φ (T135.setTop (mkF m 140 #[.val (.ref g), .val (.ref aC), .val (.int pt), .val (.int (0 : Int32)), .val (.ref c1), .val (.ref b25), .val (.int (1 : Int32)), .val (.ref r0), .val (.ref b84)] [(.ref r1)]))
  obtain ⟨T136, X136, e136, st136⟩ := castY X135 hx hZ hown (own_w hw 20 rfl) e135 (Ins.self (H15.keep KK120)) (g := (mkF m 140 #[.val (.ref g), .val (.ref aC), .val (.int pt), .val (.int (0 : Int32)), .val (.ref c1), .val (.ref b25), .val (.int (1 : Int32)), .val (.ref r0), .val (.ref b84)] [(.ref r1)])) rfl rfl (hb hby d_14_11__140)
  refine own_step st136 ?_
  show GoP p e below Φ (T136.setTop (mkF m 143 #[.val (.ref g), .val (.ref aC), .val (.int pt), .val (.int (0 : Int32)), .val (.ref c1), .val (.ref b25), .val (.int (1 : Int32)), .val (.ref r0), .val (.ref b84)] [(.ref r1)]))
  refine own_astore X136 hx hby d_14_11__143 rfl (Ls' := #[.val (.ref g), .val (.ref aC), .val (.int pt), .val (.int (0 : Int32)), .val (.ref c1), .val (.ref b25), .val (.int (1 : Int32)), .val (.ref r1), .val (.ref b84)]) rfl (pc' := 145) rfl ?_
  refine own_aload X136 hx hby d_14_11__145 rfl rfl (pc' := 147) rfl ?_
  refine own_alen X136 hx hby hZ e136 (n := (2 : Int32)) (H14.keep KK120 nin_r1) rfl d_14_11__147 (pc' := 148) rfl ?_
  refine own_iconst X136 hx hby d_14_11__148 (v := (1 : Int32)) rfl (pc' := 149) rfl ?_
  refine own_iadd X136 hx hby d_14_11__149 (pc' := 150) rfl ?_
  show GoP p e below Φ (T136.setTop (mkF m 150 #[.val (.ref g), .val (.ref aC), .val (.int pt), .val (.int (0 : Int32)), .val (.ref c1), .val (.ref b25), .val (.int (1 : Int32)), .val (.ref r1), .val (.ref b84)] [(.int (3 : Int32))]))
  refine own_newI X136 hx hby hZ (own_w hw 17 rfl) e136 (by decide) 3 (by decide) (by decide) (by decide) (by decide) d_14_11__150 (pc' := 152) rfl ?_
  intro T137 h137 b137 X137 e137 E137 g137 V137 I137 A137
  have ne_cu_b137 : cu ≠ b137 := Nat.ne_of_lt (g137 ▸ V121_cu.lt)
  have ne_rl_b137 : rl ≠ b137 := Nat.ne_of_lt (g137 ▸ E123_rl.lt)
  have ne_es_b137 : es ≠ b137 := Nat.ne_of_lt (g137 ▸ V120.lt)
  have ne_b25_b137 : b25 ≠ b137 := Nat.ne_of_lt (g137 ▸ V128_b25.lt)
  have ne_b84_b137 : b84 ≠ b137 := Nat.ne_of_lt (g137 ▸ V130_b84.lt)
  have V138_cu := V121_cu.ext E137
  have Y139_cu := Y122_cu.ext E137
  have E140_rl := E123_rl.ext E137
  have F141_modCount := F124_modCount.ext E137
  have F142_elementData := F125_elementData.ext E137
  have F143_size := F126_size.ext E137
  have V144_es := V120.ext E137
  have Y145_es := Y127_es.ext E137
  have V146_b25 := V128_b25.ext E137
  have E147_b25 := E129_b25.ext E137
  have V148_b84 := V130_b84.ext E137
  have E149_b84 := E131_b84.ext E137
  have Z137 : n0 ≤ h137.size := Nat.le_trans Z120 E137.1
  have n0_b137 : n0 ≤ b137 := g137 ▸ Z120
  have sz_b137 : h0.size ≤ b137 := g137 ▸ KK120.1
  have K137 : Keep h0 h137 [cu, rl, es] := KK120.ext E137
  replace V137 : AV Z h137 b137 .int [(.int (0 : Int32)), (.int (0 : Int32)), (.int (0 : Int32))] := V137
  show GoP p e below Φ (T137.setTop (mkF m 152 #[.val (.ref g), .val (.ref aC), .val (.int pt), .val (.int (0 : Int32)), .val (.ref c1), .val (.ref b25), .val (.int (1 : Int32)), .val (.ref r1), .val (.ref b84)] [(.ref b137)]))
  refine own_astore X137 hx hby d_14_11__152 rfl (Ls' := #[.val (.ref g), .val (.ref aC), .val (.int pt), .val (.int (0 : Int32)), .val (.ref c1), .val (.ref b25), .val (.int (1 : Int32)), .val (.ref r1), .val (.ref b137)]) rfl (pc' := 154) rfl ?_
  refine own_aload X137 hx hby d_14_11__154 rfl rfl (pc' := 156) rfl ?_
  refine own_iconst X137 hx hby d_14_11__156 (v := (0 : Int32)) rfl (pc' := 157) rfl ?_
  refine own_aload X137 hx hby d_14_11__157 rfl rfl (pc' := 159) rfl ?_
  refine own_iconst X137 hx hby d_14_11__159 (v := (0 : Int32)) rfl (pc' := 160) rfl ?_
  refine own_iloadN X137 hx hby d_14_11__160 rfl (pc' := 161) rfl ?_
  refine own_iconst X137 hx hby d_14_11__161 (v := (1 : Int32)) rfl (pc' := 162) rfl ?_
  refine own_iadd X137 hx hby d_14_11__162 (pc' := 163) rfl ?_
  show GoP p e below Φ (T137.setTop (mkF m 163 #[.val (.ref g), .val (.ref aC), .val (.int pt), .val (.int (0 : Int32)), .val (.ref c1), .val (.ref b25), .val (.int (1 : Int32)), .val (.ref r1), .val (.ref b137)] [(.int (1 : Int32)), (.int (0 : Int32)), (.ref b137), (.int (0 : Int32)), (.ref r1)]))
  refine own_copyV X137 hx hby (dv := (.int 0)) hZ (by exact hml) hown (own_w hw 114 rfl) (own_w hw 117 rfl) (own_w hw 115 rfl) (own_w hw 116 rfl) e137 (H14.keep K137 nin_r1) V137 rfl rfl rfl (by decide) (by decide) (by decide) (Nat.le_of_ble_eq_true rfl) (Nat.le_of_ble_eq_true rfl) N120 n0_b137 (by decide) 0 (Nat.le_of_eq rfl) (by decide) d_14_11__163 (pc' := 166) rfl ?_
  intro T150 h150 L150 X150 e150 Nn150 K150 V150
  replace V150 : AV Z h150 b137 .int [(.int (0 : Int32)), (.int (0 : Int32)), (.int (0 : Int32))] := V150
  have V151_cu := V138_cu.keep K150 (ninS ne_cu_b137 nin0)
  have Y152_cu := Y139_cu.keep K150 
  have E153_rl := E140_rl.keep K150 
  have F154_modCount := F141_modCount.keep K150 (ninS ne_rl_b137 nin0)
  have F155_elementData := F142_elementData.keep K150 (ninS ne_rl_b137 nin0)
  have F156_size := F143_size.keep K150 (ninS ne_rl_b137 nin0)
  have V157_es := V144_es.keep K150 (ninS ne_es_b137 nin0)
  have Y158_es := Y145_es.keep K150 
  have V159_b25 := V146_b25.keep K150 (ninS ne_b25_b137 nin0)
  have E160_b25 := E147_b25.keep K150 
  have V161_b84 := V148_b84.keep K150 (ninS ne_b84_b137 nin0)
  have E162_b84 := E149_b84.keep K150 
  have E163_b137 := A137.keep K150 
  have KC150 : Keep h0 h150 [cu, rl, es] := K137.trans K150 (allS (Or.inr sz_b137) all0)
  have ZC150 : n0 ≤ h150.size := Nat.le_trans Z137 K150.1
  refine own_aload X150 hx hby d_14_11__166 rfl rfl (pc' := 168) rfl ?_
  refine own_iloadN X150 hx hby d_14_11__168 rfl (pc' := 169) rfl ?_
  refine own_aload X150 hx hby d_14_11__169 rfl rfl (pc' := 171) rfl ?_
  refine own_iloadN X150 hx hby d_14_11__171 rfl (pc' := 172) rfl ?_
  refine own_iconst X150 hx hby d_14_11__172 (v := (1 : Int32)) rfl (pc' := 173) rfl ?_
  refine own_iadd X150 hx hby d_14_11__173 (pc' := 174) rfl ?_
  show GoP p e below Φ (T150.setTop (mkF m 174 #[.val (.ref g), .val (.ref aC), .val (.int pt), .val (.int (0 : Int32)), .val (.ref c1), .val (.ref b25), .val (.int (1 : Int32)), .val (.ref r1), .val (.ref b137)] [(.int (1 : Int32)), (.ref b137), (.int (0 : Int32)), (.ref r1)]))
  refine own_aload X150 hx hby d_14_11__174 rfl rfl (pc' := 176) rfl ?_
  refine own_alen X150 hx hby hZ e150 (n := (2 : Int32)) (H14.keep KC150 nin_r1) rfl d_14_11__176 (pc' := 177) rfl ?_
  refine own_iloadN X150 hx hby d_14_11__177 rfl (pc' := 178) rfl ?_
  refine own_isub X150 hx hby d_14_11__178 (pc' := 179) rfl ?_
  show GoP p e below Φ (T150.setTop (mkF m 179 #[.val (.ref g), .val (.ref aC), .val (.int pt), .val (.int (0 : Int32)), .val (.ref c1), .val (.ref b25), .val (.int (1 : Int32)), .val (.ref r1), .val (.ref b137)] [(.int (2 : Int32)), (.int (1 : Int32)), (.ref b137), (.int (0 : Int32)), (.ref r1)]))
  refine own_copyV X150 hx hby (dv := (.int 0)) hZ (by exact hml) hown (own_w hw 114 rfl) (own_w hw 117 rfl) (own_w hw 115 rfl) (own_w hw 116 rfl) e150 (H14.keep KC150 nin_r1) V150 rfl rfl rfl (by decide) (by decide) (by decide) (Nat.le_of_ble_eq_true rfl) (Nat.le_of_ble_eq_true rfl) Nn150 n0_b137 (by decide) 0 (Nat.le_of_eq rfl) (by decide) d_14_11__179 (pc' := 182) rfl ?_
  intro T164 h164 L164 X164 e164 Nn164 K164 V164
  replace V164 : AV Z h164 b137 .int [(.int (0 : Int32)), (.int (0 : Int32)), (.int (0 : Int32))] := V164
  have V165_cu := V151_cu.keep K164 (ninS ne_cu_b137 nin0)
  have Y166_cu := Y152_cu.keep K164 
  have E167_rl := E153_rl.keep K164 
  have F168_modCount := F154_modCount.keep K164 (ninS ne_rl_b137 nin0)
  have F169_elementData := F155_elementData.keep K164 (ninS ne_rl_b137 nin0)
  have F170_size := F156_size.keep K164 (ninS ne_rl_b137 nin0)
  have V171_es := V157_es.keep K164 (ninS ne_es_b137 nin0)
  have Y172_es := Y158_es.keep K164 
  have V173_b25 := V159_b25.keep K164 (ninS ne_b25_b137 nin0)
  have E174_b25 := E160_b25.keep K164 
  have V175_b84 := V161_b84.keep K164 (ninS ne_b84_b137 nin0)
  have E176_b84 := E162_b84.keep K164 
  have E177_b137 := E163_b137.keep K164 
  have KC164 : Keep h0 h164 [cu, rl, es] := KC150.trans K164 (allS (Or.inr sz_b137) all0)
  have ZC164 : n0 ≤ h164.size := Nat.le_trans ZC150 K164.1
  refine own_aloadN X164 hx hby d_14_11__182 rfl rfl (pc' := 183) rfl ?_
  refine own_getF X164 hx hby hZ hown (host := "") (Or.inl (own_w hw 49 rfl)) Via.refl e164 (H1.keep KC164 nin_g) d_14_11__183 (pc' := 186) rfl ?_
  intro T178 X178 e178
  refine own_iload X178 hx hby d_14_11__186 rfl (pc' := 188) rfl ?_
  refine own_aload X178 hx hby d_14_11__188 rfl rfl (pc' := 190) rfl ?_
  refine own_callF X178 hx hby hZ (by exact hml) hown (x0 := (⟨"java/util/List", "set", "(ILjava/lang/Object;)Ljava/lang/Object;"⟩ : MethodName)) (y := (⟨"java/util/ArrayList", "set", "(ILjava/lang/Object;)Ljava/lang/Object;"⟩ : MethodName)) (own_w hw 168 rfl) (own_w hw 169 rfl) (own_w hw 170 rfl) (own_w hw 171 rfl) (own_w hw 172 rfl) (own_w hw 173 rfl) (own_w hw 174 rfl) (own_w hw 69 rfl) (own_w hw 27 rfl) rfl (own_w hw 175 rfl) (by decide) e178 0 (by decide) (by decide) (by decide) (by decide) (argsL := [(.int (1 : Int32)), (.ref b137)]) (rest := []) (lenOf pd__ILjava_lang_Object__Ljava_lang_Object_ rfl) rfl (Nat.le_of_eq rfl) E167_rl (rmS1 l Z a0 hw rl es r1 b137 (2 : Int32) (.ref b84) .null .null .null .null .null .null .null .null n0 h164 n0_es (Ne.symm ne13_es_rl) (Ne.symm ne_es_b137) (by decide) Y172_es E177_b137 E167_rl F170_size F169_elementData V171_es) d_14_11__190 (pc' := 195) rfl ?_
  intro v179 T179 L179 X179 hQ179
  obtain ⟨rfl, Nq179, K179, V179⟩ := hQ179
  have V180_cu := V165_cu.keep K179 (ninS (Ne.symm ne6_es_cu) nin0)
  have Y181_cu := Y166_cu.keep K179
  have E182_rl := E167_rl.keep K179
  have F183_modCount := F168_modCount.keep K179 (ninS (Ne.symm ne13_es_rl) nin0)
  have F184_elementData := F169_elementData.keep K179 (ninS (Ne.symm ne13_es_rl) nin0)
  have F185_size := F170_size.keep K179 (ninS (Ne.symm ne13_es_rl) nin0)
  have Y186_es := Y172_es.keep K179
  have V187_b25 := V173_b25.keep K179 (ninS (Ne.symm ne_es_b25) nin0)
  have E188_b25 := E174_b25.keep K179
  have V189_b84 := V175_b84.keep K179 (ninS (Ne.symm ne_es_b84) nin0)
  have E190_b84 := E176_b84.keep K179
  have V191_b137 := V164.keep K179 (ninS (Ne.symm ne_es_b137) nin0)
  have E192_b137 := E177_b137.keep K179
  have N179 := Fr.app Nn164 Nq179
  have Z179 : n0 ≤ T179.heap.size := Nat.le_trans ZC164 K179.1
  have KK179 : Keep h0 T179.heap [cu, rl, es] := KC164.trans K179 (allS (Or.inl (List.mem_of_getElem? (i := 2) rfl)) all0)
  show GoP p e below Φ (T179.setTop (mkF m 195 #[.val (.ref g), .val (.ref aC), .val (.int pt), .val (.int (0 : Int32)), .val (.ref c1), .val (.ref b25), .val (.int (1 : Int32)), .val (.ref r1), .val (.ref b137)] [(.ref r1)]))
  refine own_pop X179 hx hby d_14_11__195 rfl (pc' := 196) rfl ?_
  refine own_iinc X179 hx hby d_14_11__196 rfl (v := (1 : Int32)) rfl (Ls' := #[.val (.ref g), .val (.ref aC), .val (.int pt), .val (.int (0 : Int32)), .val (.ref c1), .val (.ref b25), .val (.int (2 : Int32)), .val (.ref r1), .val (.ref b137)]) rfl (pc' := 199) rfl ?_
  refine own_goto X179 hx hby d_14_11__199 (by decide) (pc' := 115) (by decide) ?_
  refine own_iload X179 hx hby d_14_11__115 rfl (pc' := 117) rfl ?_
  refine own_aloadN X179 hx hby d_14_11__117 rfl rfl (pc' := 118) rfl ?_
  refine own_getF X179 hx hby hZ hown (host := "") (Or.inl (own_w hw 49 rfl)) Via.refl rfl (H1.keep KK179 nin_g) d_14_11__118 (pc' := 121) rfl ?_
  intro T193 X193 e193
  refine own_callF X193 hx hby hZ (by exact hml) hown (x0 := (⟨"java/util/List", "size", "()I"⟩ : MethodName)) (y := (⟨"java/util/ArrayList", "size", "()I"⟩ : MethodName)) (own_w hw 160 rfl) (own_w hw 161 rfl) (own_w hw 162 rfl) (own_w hw 163 rfl) (own_w hw 164 rfl) (own_w hw 165 rfl) (own_w hw 166 rfl) (own_w hw 69 rfl) (own_w hw 27 rfl) rfl (own_w hw 167 rfl) (by decide) e193 1 (by decide) (by decide) (by decide) (by decide) (argsL := []) (rest := [(.int (2 : Int32))]) (lenOf pd___I rfl) rfl (Nat.le_of_eq rfl) E182_rl (rmSz l Z a0 hw rl (2 : Int32) T179.heap F185_size) d_14_11__121 (pc' := 126) rfl ?_
  intro v194 T194 L194 X194 hQ194
  obtain ⟨rfl, rfl, e194⟩ := hQ194
  rw [List.append_nil] at X194
  replace e194 : T194.heap = T179.heap := e194
  show GoP p e below Φ (T194.setTop (mkF m 126 #[.val (.ref g), .val (.ref aC), .val (.int pt), .val (.int (0 : Int32)), .val (.ref c1), .val (.ref b25), .val (.int (2 : Int32)), .val (.ref r1), .val (.ref b137)] [(.int (2 : Int32)), (.int (2 : Int32))]))
  refine own_icmpY X194 hx hby d_14_11__126 (flt (by decide)).2.1 (by decide) (pc' := 202) (by decide) ?_
  exact own_ret0 X194 hx hby fin hret d_14_11__202 (by decide) (by decide) (by rw [e194]; exact ⟨rfl, N179, KK179, b25, b84, b137, (H0.keep KK179 nin_g), (H1.keep KK179 nin_g), V180_cu, Y181_cu, (H4.keep KK179 nin_c0), V187_b25, E182_rl, F183_modCount, F184_elementData, F185_size, V179, Y186_es, V189_b84, E190_b84, V191_b137, E192_b137⟩)
theorem ef_rmCut_1_1_1_1_1 (m : MethodId) (x0 : Addr) (x1 : Addr) (x2 : Int32) : entryFrame m #[(.ref x0), (.ref x1), (.int x2)] 9 = mkF m 0 #[.val (.ref x0), .val (.ref x1), .val (.int x2), .unset, .unset, .unset, .unset, .unset, .unset] [] := by first | (simp [entryFrame, mkF, argsToLocals, Value.category]; done) | rfl
set_option maxRecDepth 65536 in
set_option maxHeartbeats 40000000 in
theorem rmCut_1_1_1_1_1 (l : Launch) (Z : State) (a0 : Array Value) (hw : ∀ d ∈ tables_1, d.before a0 Z = true) (g aW aC cu c0 c1 rl es r0 r1 : Addr) (pt q u0 mc : Int32) (n0 : Nat) (h0 : Heap) (n0_cu : n0 ≤ cu) (n0_rl : n0 ≤ rl) (n0_es : n0 ≤ es) (Z0 : n0 ≤ h0.size) (ox : aC < n0) (hlo : ¬ (pt - (1 : Int32)) < q) (ne_aC_aW : aC ≠ aW) (Eg : Exa Z h0 g "com/example/collectary/collectary/broker/Grid") (Exx : Exa Z h0 aC "com/example/collectary/collectary/broker/Grid$Axis") (Fo : Fld Z h0 aC "java/lang/Enum" "ordinal" "I" (.int (1 : Int32))) (SW : Sta Z h0 "com/example/collectary/collectary/broker/Grid$Axis" "WORD" "Lcom/example/collectary/collectary/broker/Grid$Axis;" (.ref aW)) (H0 : Fld Z h0 g "com/example/collectary/collectary/broker/Grid" "cuts" "[[I" (.ref cu)) (H1 : Fld Z h0 g "com/example/collectary/collectary/broker/Grid" "rows" "Ljava/util/List;" (.ref rl)) (H2 : AV Z h0 cu (.array .int) [.ref c0, .ref c1]) (H3 : CM Z h0 cu "[I") (H4 : AV Z h0 c0 .int [(.int u0)]) (H5 : AV Z h0 c1 .int [(.int q)]) (H6 : Exa Z h0 rl "java/util/ArrayList") (H7 : Fld Z h0 rl "java/util/AbstractList" "modCount" "I" (.int mc)) (H8 : Fld Z h0 rl "java/util/ArrayList" "elementData" "[Ljava/lang/Object;" (.ref es)) (H9 : Fld Z h0 rl "java/util/ArrayList" "size" "I" (.int (2 : Int32))) (H10 : AV Z h0 es (.object "java/lang/Object") [(.ref r0), (.ref r1), .null, .null, .null, .null, .null, .null, .null, .null]) (H11 : CM Z h0 es "java/lang/Object") (H12 : AV Z h0 r0 .int [(.int (0 : Int32)), (.int (0 : Int32))]) (H13 : Exa Z h0 r0 "[I") (H14 : AV Z h0 r1 .int [(.int (0 : Int32)), (.int (0 : Int32))]) (H15 : Exa Z h0 r1 "[I") : Con l Z (⟨"com/example/collectary/collectary/broker/Grid", "addCut", "(Lcom/example/collectary/collectary/broker/Grid$Axis;I)V"⟩ : MethodName) prog_14_method_11_code 9 none [] ({ frames := 3, cells := 3, slots := 8, locals := 90 } : Room) #[(.ref g), (.ref aC), (.int pt)] h0 (fun v h L => v = none ∧ Fr n0 L ∧ Keep h0 h [cu, rl, es] ∧ ∃ cn t0 t1 : Addr, Fld Z h g "com/example/collectary/collectary/broker/Grid" "cuts" "[[I" (.ref cu) ∧ Fld Z h g "com/example/collectary/collectary/broker/Grid" "rows" "Ljava/util/List;" (.ref rl) ∧ AV Z h cu (.array .int) [.ref c0, .ref cn] ∧ CM Z h cu "[I" ∧ AV Z h c0 .int [(.int u0)] ∧ AV Z h cn .int [(.int q), (.int pt)] ∧ Exa Z h rl "java/util/ArrayList" ∧ Fld Z h rl "java/util/AbstractList" "modCount" "I" (.int mc) ∧ Fld Z h rl "java/util/ArrayList" "elementData" "[Ljava/lang/Object;" (.ref es) ∧ Fld Z h rl "java/util/ArrayList" "size" "I" (.int (2 : Int32)) ∧ AV Z h es (.object "java/lang/Object") [(.ref t0), (.ref t1), .null, .null, .null, .null, .null, .null, .null, .null] ∧ CM Z h es "java/lang/Object" ∧ AV Z h t0 .int [(.int (0 : Int32)), (.int (0 : Int32)), (.int (0 : Int32))] ∧ Exa Z h t0 "[I" ∧ AV Z h t1 .int [(.int (0 : Int32)), (.int (0 : Int32)), (.int (0 : Int32))] ∧ Exa Z h t1 "[I") := by
  refine Con.of (plainFor_of_name pn_com_example_collectary_collectary_broker_Grid) ?_
  intro p e s m below meth c T X hx hby hml hown hnm hret eT hZ hsh Φ fin
  replace hown : s.vm.findClass "com/example/collectary/collectary/broker/Grid" = some m.cls := hown
  replace hml : 9 = c.maxLocals := hml.symm
  refine own_step (fun tq kq => castTop (ef_rmCut_1_1_1_1_1 m g aC pt) kq) ?_
  have N0 := Fr.nil n0
  have K0 : Keep h0 h0 [cu, rl, es] := Keep.refl h0 [cu, rl, es]
  have ne1_g_cu : g ≠ cu := own_ne_ea Eg (own_w hw 8 rfl) H2
  have ne2_aC_cu : aC ≠ cu := Nat.ne_of_lt (Nat.lt_of_lt_of_le ox n0_cu)
  have ne3_c0_cu : c0 ≠ cu := own_ne_av2 H4 H2 (by decide)
  have ne4_c1_cu : c1 ≠ cu := own_ne_av2 H5 H2 (by decide)
  have ne5_rl_cu : rl ≠ cu := own_ne_ea H6 (own_w hw 26 rfl) H2
  have ne6_es_cu : es ≠ cu := own_ne_av2 H10 H2 (by decide)
  have ne7_r0_cu : r0 ≠ cu := own_ne_av2 H12 H2 (by decide)
  have ne8_r1_cu : r1 ≠ cu := own_ne_av2 H14 H2 (by decide)
  have ne9_g_rl : g ≠ rl := ne_exa Eg H6 (by decide)
  have ne10_aC_rl : aC ≠ rl := Nat.ne_of_lt (Nat.lt_of_lt_of_le ox n0_rl)
  have ne11_c0_rl : c0 ≠ rl := (own_ne_ea H6 (own_w hw 26 rfl) H4).symm
  have ne12_c1_rl : c1 ≠ rl := (own_ne_ea H6 (own_w hw 26 rfl) H5).symm
  have ne13_es_rl : es ≠ rl := (own_ne_ea H6 (own_w hw 26 rfl) H10).symm
  have ne14_r0_rl : r0 ≠ rl := (own_ne_ea H6 (own_w hw 26 rfl) H12).symm
  have ne15_r1_rl : r1 ≠ rl := (own_ne_ea H6 (own_w hw 26 rfl) H14).symm
  have ne16_g_es : g ≠ es := own_ne_ea Eg (own_w hw 8 rfl) H10
  have ne17_aC_es : aC ≠ es := Nat.ne_of_lt (Nat.lt_of_lt_of_le ox n0_es)
  have ne18_c0_es : c0 ≠ es := own_ne_av2 H4 H10 (by decide)
  have ne19_c1_es : c1 ≠ es := own_ne_av2 H5 H10 (by decide)
  have ne20_r0_es : r0 ≠ es := own_ne_av2 H12 H10 (by decide)
  have ne21_r1_es : r1 ≠ es := own_ne_av2 H14 H10 (by decide)
  have nin_g : g ∉ [cu, rl, es] := (ninS ne1_g_cu (ninS ne9_g_rl (ninS ne16_g_es nin0)))
  have lt0_g := Eg.lt
  have nin_aC : aC ∉ [cu, rl, es] := (ninS ne2_aC_cu (ninS ne10_aC_rl (ninS ne17_aC_es nin0)))
  have lt0_aC := Exx.lt
  have nin_c0 : c0 ∉ [cu, rl, es] := (ninS ne3_c0_cu (ninS ne11_c0_rl (ninS ne18_c0_es nin0)))
  have lt0_c0 := H4.lt
  have nin_c1 : c1 ∉ [cu, rl, es] := (ninS ne4_c1_cu (ninS ne12_c1_rl (ninS ne19_c1_es nin0)))
  have lt0_c1 := H5.lt
  have nin_r0 : r0 ∉ [cu, rl, es] := (ninS ne7_r0_cu (ninS ne14_r0_rl (ninS ne20_r0_es nin0)))
  have lt0_r0 := H12.lt
  have nin_r1 : r1 ∉ [cu, rl, es] := (ninS ne8_r1_cu (ninS ne15_r1_rl (ninS ne21_r1_es nin0)))
  have lt0_r1 := H14.lt
  have plain_ws : ∀ x ∈ [cu, rl, es], ∀ c : Cell, h0[x]? = some c → c.vm.isStatics = false := (allS H2.plain (allS (own_plainE H6) (allS H10.plain all0)))
  refine own_aloadN X hx hby d_14_11__0 rfl rfl (pc' := 1) rfl ?_
  refine own_aloadN X hx hby d_14_11__1 rfl rfl (pc' := 2) rfl ?_
  refine own_iloadN X hx hby d_14_11__2 rfl (pc' := 3) rfl ?_
  refine own_iconst X hx hby d_14_11__3 (v := (1 : Int32)) rfl (pc' := 4) rfl ?_
  refine own_isub X hx hby d_14_11__4 (pc' := 5) rfl ?_
  refine own_callV X hx hby hZ (by exact hml) hown (own_w hw 102 rfl) (own_w hw 103 rfl) (own_w hw 105 rfl) (own_w hw 104 rfl) (own_w hw 9 rfl) (own_w hw 106 rfl) (by decide) eT 0 (by decide) (by decide) (by decide) (by decide) (argsL := [(.ref aC), (.int (pt - (1 : Int32)))]) (rest := []) (lenOf pd__Lcom_example_collectary_collectary_broker_Grid_Axis_I_I rfl) rfl (Nat.le_of_eq rfl) Eg (rmIv1_1 l Z a0 hw g aC cu c0 c1 q (pt - (1 : Int32)) h0 Exx Fo H0 H2 H5) d_14_11__5 (pc' := 8) rfl ?_
  intro v22 T22 L22 X22 hQ22
  obtain ⟨rfl, rfl, e22⟩ := hQ22
  rw [List.append_nil] at X22
  replace e22 : T22.heap = h0 := e22
  show GoP p e below Φ (T22.setTop (mkF m 8 #[.val (.ref g), .val (.ref aC), .val (.int pt), .unset, .unset, .unset, .unset, .unset, .unset] [(.int (if (pt - (1 : Int32)) < q then (0 : Int32) else (1 : Int32)))]))
  rw [if_neg hlo]
  refine own_istoreN X22 hx hby d_14_11__8  (Ls' := #[.val (.ref g), .val (.ref aC), .val (.int pt), .val (.int (1 : Int32)), .unset, .unset, .unset, .unset, .unset]) rfl (pc' := 9) rfl ?_
  refine own_aloadN X22 hx hby d_14_11__9 rfl rfl (pc' := 10) rfl ?_
  refine own_getF X22 hx hby hZ hown (host := "") (Or.inl (own_w hw 23 rfl)) Via.refl e22 H0 d_14_11__10 (pc' := 13) rfl ?_
  intro T23 X23 e23
  refine own_aloadN X23 hx hby d_14_11__13 rfl rfl (pc' := 14) rfl ?_
  refine own_callU X23 hx hby hZ (by exact hml) hown (x0 := (⟨"com/example/collectary/collectary/broker/Grid$Axis", "ordinal", "()I"⟩ : MethodName)) (y := (⟨"java/lang/Enum", "ordinal", "()I"⟩ : MethodName)) (own_w hw 52 rfl) (own_w hw 53 rfl) (own_w hw 54 rfl) (own_w hw 56 rfl) (own_w hw 55 rfl) (own_w hw 57 rfl) (own_w hw 58 rfl) (by decide) e23 1 (by decide) (by decide) (by decide) (by decide) (argsL := []) (rest := [(.ref cu)]) (lenOf pd___I rfl) rfl (Nat.le_of_eq rfl) Exx (rmO l Z a0 hw aC (1 : Int32) h0 Fo) d_14_11__14 (pc' := 17) rfl ?_
  intro v24 T24 L24 X24 hQ24
  obtain ⟨rfl, rfl, e24⟩ := hQ24
  rw [List.append_nil] at X24
  replace e24 : T24.heap = h0 := e24
  show GoP p e below Φ (T24.setTop (mkF m 17 #[.val (.ref g), .val (.ref aC), .val (.int pt), .val (.int (1 : Int32)), .unset, .unset, .unset, .unset, .unset] [(.int (1 : Int32)), (.ref cu)]))
  refine own_aaload X24 hx hby hZ e24 H2 rfl (by decide) (v := (.ref c1)) rfl d_14_11__17 (pc' := 18) rfl ?_
  refine own_astore X24 hx hby d_14_11__18 rfl (Ls' := #[.val (.ref g), .val (.ref aC), .val (.int pt), .val (.int (1 : Int32)), .val (.ref c1), .unset, .unset, .unset, .unset]) rfl (pc' := 20) rfl ?_
  refine own_aload X24 hx hby d_14_11__20 rfl rfl (pc' := 22) rfl ?_
  refine own_alen X24 hx hby hZ e24 (n := (1 : Int32)) H5 rfl d_14_11__22 (pc' := 23) rfl ?_
  refine own_iconst X24 hx hby d_14_11__23 (v := (1 : Int32)) rfl (pc' := 24) rfl ?_
  refine own_iadd X24 hx hby d_14_11__24 (pc' := 25) rfl ?_
  show GoP p e below Φ (T24.setTop (mkF m 25 #[.val (.ref g), .val (.ref aC), .val (.int pt), .val (.int (1 : Int32)), .val (.ref c1), .unset, .unset, .unset, .unset] [(.int (2 : Int32))]))
  refine own_newI X24 hx hby hZ (own_w hw 17 rfl) e24 (by decide) 2 (by decide) (by decide) (by decide) (by decide) d_14_11__25 (pc' := 27) rfl ?_
  intro T25 h25 b25 X25 e25 E25 g25 V25 I25 A25
  have ne_cu_b25 : cu ≠ b25 := Nat.ne_of_lt (g25 ▸ H2.lt)
  have ne_rl_b25 : rl ≠ b25 := Nat.ne_of_lt (g25 ▸ H6.lt)
  have ne_es_b25 : es ≠ b25 := Nat.ne_of_lt (g25 ▸ H10.lt)
  have V26_cu := H2.ext E25
  have Y27_cu := H3.ext E25
  have E28_rl := H6.ext E25
  have F29_modCount := H7.ext E25
  have F30_elementData := H8.ext E25
  have F31_size := H9.ext E25
  have V32_es := H10.ext E25
  have Y33_es := H11.ext E25
  have Z25 : n0 ≤ h25.size := Nat.le_trans Z0 E25.1
  have n0_b25 : n0 ≤ b25 := g25 ▸ Z0
  have sz_b25 : h0.size ≤ b25 := g25 ▸ K0.1
  have K25 : Keep h0 h25 [cu, rl, es] := K0.ext E25
  replace V25 : AV Z h25 b25 .int [(.int (0 : Int32)), (.int (0 : Int32))] := V25
  show GoP p e below Φ (T25.setTop (mkF m 27 #[.val (.ref g), .val (.ref aC), .val (.int pt), .val (.int (1 : Int32)), .val (.ref c1), .unset, .unset, .unset, .unset] [(.ref b25)]))
  refine own_astore X25 hx hby d_14_11__27 rfl (Ls' := #[.val (.ref g), .val (.ref aC), .val (.int pt), .val (.int (1 : Int32)), .val (.ref c1), .val (.ref b25), .unset, .unset, .unset]) rfl (pc' := 29) rfl ?_
  refine own_aload X25 hx hby d_14_11__29 rfl rfl (pc' := 31) rfl ?_
  refine own_iconst X25 hx hby d_14_11__31 (v := (0 : Int32)) rfl (pc' := 32) rfl ?_
  refine own_aload X25 hx hby d_14_11__32 rfl rfl (pc' := 34) rfl ?_
  refine own_iconst X25 hx hby d_14_11__34 (v := (0 : Int32)) rfl (pc' := 35) rfl ?_
  refine own_iloadN X25 hx hby d_14_11__35 rfl (pc' := 36) rfl ?_
  refine own_copyV X25 hx hby (dv := (.int 0)) hZ (by exact hml) hown (own_w hw 114 rfl) (own_w hw 117 rfl) (own_w hw 115 rfl) (own_w hw 116 rfl) e25 (H5.keep K25 nin_c1) V25 rfl rfl rfl (by decide) (by decide) (by decide) (Nat.le_of_ble_eq_true rfl) (Nat.le_of_ble_eq_true rfl) N0 n0_b25 (by decide) 0 (Nat.le_of_eq rfl) (by decide) d_14_11__36 (pc' := 39) rfl ?_
  intro T34 h34 L34 X34 e34 Nn34 K34 V34
  replace V34 : AV Z h34 b25 .int [(.int q), (.int (0 : Int32))] := V34
  have V35_cu := V26_cu.keep K34 (ninS ne_cu_b25 nin0)
  have Y36_cu := Y27_cu.keep K34 
  have E37_rl := E28_rl.keep K34 
  have F38_modCount := F29_modCount.keep K34 (ninS ne_rl_b25 nin0)
  have F39_elementData := F30_elementData.keep K34 (ninS ne_rl_b25 nin0)
  have F40_size := F31_size.keep K34 (ninS ne_rl_b25 nin0)
  have V41_es := V32_es.keep K34 (ninS ne_es_b25 nin0)
  have Y42_es := Y33_es.keep K34 
  have E43_b25 := A25.keep K34 
  have KC34 : Keep h0 h34 [cu, rl, es] := K25.trans K34 (allS (Or.inr sz_b25) all0)
  have ZC34 : n0 ≤ h34.size := Nat.le_trans Z25 K34.1
  refine own_aload X34 hx hby d_14_11__39 rfl rfl (pc' := 41) rfl ?_
  refine own_iloadN X34 hx hby d_14_11__41 rfl (pc' := 42) rfl ?_
  refine own_iloadN X34 hx hby d_14_11__42 rfl (pc' := 43) rfl ?_
  refine own_iastore X34 hx hby hZ e34 V34 (by decide) (Nat.le_of_ble_eq_true rfl) d_14_11__43 (pc' := 44) rfl ?_
  intro T44 h44 X44 e44 W44 V44
  replace V44 : AV Z h44 b25 .int [(.int q), (.int pt)] := V44
  have V45_cu := V35_cu.other W44 ne_cu_b25
  have Y46_cu := Y36_cu.wr W44
  have E47_rl := E37_rl.wr W44
  have F48_modCount := F38_modCount.other W44 (Or.inl ne_rl_b25)
  have F49_elementData := F39_elementData.other W44 (Or.inl ne_rl_b25)
  have F50_size := F40_size.other W44 (Or.inl ne_rl_b25)
  have V51_es := V41_es.other W44 ne_es_b25
  have Y52_es := Y42_es.wr W44
  have E54_b25 := E43_b25.wr W44
  have Z44 : n0 ≤ h44.size := by rw [W44.size]; exact ZC34
  have N44 := Fr.snoc X44 Nn34 n0_b25
  have K44 : Keep h0 h44 [cu, rl, es] := KC34.wr W44 (Or.inr sz_b25)
  refine own_aload X44 hx hby d_14_11__44 rfl rfl (pc' := 46) rfl ?_
  refine own_iloadN X44 hx hby d_14_11__46 rfl (pc' := 47) rfl ?_
  refine own_aload X44 hx hby d_14_11__47 rfl rfl (pc' := 49) rfl ?_
  refine own_iloadN X44 hx hby d_14_11__49 rfl (pc' := 50) rfl ?_
  refine own_iconst X44 hx hby d_14_11__50 (v := (1 : Int32)) rfl (pc' := 51) rfl ?_
  refine own_iadd X44 hx hby d_14_11__51 (pc' := 52) rfl ?_
  show GoP p e below Φ (T44.setTop (mkF m 52 #[.val (.ref g), .val (.ref aC), .val (.int pt), .val (.int (1 : Int32)), .val (.ref c1), .val (.ref b25), .unset, .unset, .unset] [(.int (2 : Int32)), (.ref b25), (.int (1 : Int32)), (.ref c1)]))
  refine own_aload X44 hx hby d_14_11__52 rfl rfl (pc' := 54) rfl ?_
  refine own_alen X44 hx hby hZ e44 (n := (1 : Int32)) (H5.keep K44 nin_c1) rfl d_14_11__54 (pc' := 55) rfl ?_
  refine own_iloadN X44 hx hby d_14_11__55 rfl (pc' := 56) rfl ?_
  refine own_isub X44 hx hby d_14_11__56 (pc' := 57) rfl ?_
  show GoP p e below Φ (T44.setTop (mkF m 57 #[.val (.ref g), .val (.ref aC), .val (.int pt), .val (.int (1 : Int32)), .val (.ref c1), .val (.ref b25), .unset, .unset, .unset] [(.int (0 : Int32)), (.int (2 : Int32)), (.ref b25), (.int (1 : Int32)), (.ref c1)]))
  refine own_copyV X44 hx hby (dv := (.int 0)) hZ (by exact hml) hown (own_w hw 114 rfl) (own_w hw 117 rfl) (own_w hw 115 rfl) (own_w hw 116 rfl) e44 (H5.keep K44 nin_c1) V44 rfl rfl rfl (by decide) (by decide) (by decide) (Nat.le_of_ble_eq_true rfl) (Nat.le_of_ble_eq_true rfl) N44 n0_b25 (by decide) 0 (Nat.le_of_eq rfl) (by decide) d_14_11__57 (pc' := 60) rfl ?_
  intro T55 h55 L55 X55 e55 Nn55 K55 V55
  replace V55 : AV Z h55 b25 .int [(.int q), (.int pt)] := V55
  have V56_cu := V45_cu.keep K55 (ninS ne_cu_b25 nin0)
  have Y57_cu := Y46_cu.keep K55 
  have E58_rl := E47_rl.keep K55 
  have F59_modCount := F48_modCount.keep K55 (ninS ne_rl_b25 nin0)
  have F60_elementData := F49_elementData.keep K55 (ninS ne_rl_b25 nin0)
  have F61_size := F50_size.keep K55 (ninS ne_rl_b25 nin0)
  have V62_es := V51_es.keep K55 (ninS ne_es_b25 nin0)
  have Y63_es := Y52_es.keep K55 
  have E64_b25 := E54_b25.keep K55 
  have KC55 : Keep h0 h55 [cu, rl, es] := K44.trans K55 (allS (Or.inr sz_b25) all0)
  have ZC55 : n0 ≤ h55.size := Nat.le_trans Z44 K55.1
  refine own_aloadN X55 hx hby d_14_11__60 rfl rfl (pc' := 61) rfl ?_
  refine own_getF X55 hx hby hZ hown (host := "") (Or.inl (own_w hw 23 rfl)) Via.refl e55 (H0.keep KC55 nin_g) d_14_11__61 (pc' := 64) rfl ?_
  intro T65 X65 e65
  refine own_aloadN X65 hx hby d_14_11__64 rfl rfl (pc' := 65) rfl ?_
  refine own_callU X65 hx hby hZ (by exact hml) hown (x0 := (⟨"com/example/collectary/collectary/broker/Grid$Axis", "ordinal", "()I"⟩ : MethodName)) (y := (⟨"java/lang/Enum", "ordinal", "()I"⟩ : MethodName)) (own_w hw 52 rfl) (own_w hw 53 rfl) (own_w hw 54 rfl) (own_w hw 56 rfl) (own_w hw 55 rfl) (own_w hw 57 rfl) (own_w hw 58 rfl) (by decide) e65 1 (by decide) (by decide) (by decide) (by decide) (argsL := []) (rest := [(.ref cu)]) (lenOf pd___I rfl) rfl (Nat.le_of_eq rfl) (Exx.keep KC55) (rmO l Z a0 hw aC (1 : Int32) h55 (Fo.keep KC55 nin_aC)) d_14_11__65 (pc' := 68) rfl ?_
  intro v66 T66 L66 X66 hQ66
  obtain ⟨rfl, rfl, e66⟩ := hQ66
  rw [List.append_nil] at X66
  replace e66 : T66.heap = h55 := e66
  show GoP p e below Φ (T66.setTop (mkF m 68 #[.val (.ref g), .val (.ref aC), .val (.int pt), .val (.int (1 : Int32)), .val (.ref c1), .val (.ref b25), .unset, .unset, .unset] [(.int (1 : Int32)), (.ref cu)]))
  refine own_aload X66 hx hby d_14_11__68 rfl rfl (pc' := 70) rfl ?_
  refine own_aastore X66 hx hby hZ e66 V56_cu rfl (own_sto V56_cu Y57_cu (Ins.self E64_b25)) (by decide) (Nat.le_of_ble_eq_true rfl) d_14_11__70 (pc' := 71) rfl ?_
  intro T67 h67 X67 e67 W67 V67
  replace V67 : AV Z h67 cu (.array .int) [(.ref c0), (.ref b25)] := V67
  have Y69_cu := Y57_cu.wr W67
  have E70_rl := E58_rl.wr W67
  have F71_modCount := F59_modCount.other W67 (Or.inl ne5_rl_cu)
  have F72_elementData := F60_elementData.other W67 (Or.inl ne5_rl_cu)
  have F73_size := F61_size.other W67 (Or.inl ne5_rl_cu)
  have V74_es := V62_es.other W67 ne6_es_cu
  have Y75_es := Y63_es.wr W67
  have V76_b25 := V55.other W67 (Ne.symm ne_cu_b25)
  have E77_b25 := E64_b25.wr W67
  have Z67 : n0 ≤ h67.size := by rw [W67.size]; exact ZC55
  have N67 := Fr.snoc X67 Nn55 n0_cu
  have K67 : Keep h0 h67 [cu, rl, es] := KC55.wr W67 (Or.inl (List.mem_of_getElem? (i := 0) rfl))
  refine own_aloadN X67 hx hby d_14_11__71 rfl rfl (pc' := 72) rfl ?_
  refine own_getS X67 hx hby hZ hown (host := "") (Or.inl (own_w hw 51 rfl)) Via.refl e67 (own_stakeep SW K67 plain_ws) d_14_11__72 (pc' := 75) rfl ?_
  intro T78 X78 e78
  refine own_acmp X78 hx hby d_14_11__75 rfl rfl (same := false) (decide_eq_false (fun q => ne_aC_aW (Value.ref.inj q))) (by decide) (pc' := 112) (by decide) ?_
  refine own_iconst X78 hx hby d_14_11__112 (v := (0 : Int32)) rfl (pc' := 113) rfl ?_
  refine own_istore X78 hx hby d_14_11__113  (Ls' := #[.val (.ref g), .val (.ref aC), .val (.int pt), .val (.int (1 : Int32)), .val (.ref c1), .val (.ref b25), .val (.int (0 : Int32)), .unset, .unset]) rfl (pc' := 115) rfl ?_
  refine own_iload X78 hx hby d_14_11__115 rfl (pc' := 117) rfl ?_
  refine own_aloadN X78 hx hby d_14_11__117 rfl rfl (pc' := 118) rfl ?_
  refine own_getF X78 hx hby hZ hown (host := "") (Or.inl (own_w hw 49 rfl)) Via.refl e78 (H1.keep K67 nin_g) d_14_11__118 (pc' := 121) rfl ?_
  intro T79 X79 e79
  refine own_callF X79 hx hby hZ (by exact hml) hown (x0 := (⟨"java/util/List", "size", "()I"⟩ : MethodName)) (y := (⟨"java/util/ArrayList", "size", "()I"⟩ : MethodName)) (own_w hw 160 rfl) (own_w hw 161 rfl) (own_w hw 162 rfl) (own_w hw 163 rfl) (own_w hw 164 rfl) (own_w hw 165 rfl) (own_w hw 166 rfl) (own_w hw 69 rfl) (own_w hw 27 rfl) rfl (own_w hw 167 rfl) (by decide) e79 1 (by decide) (by decide) (by decide) (by decide) (argsL := []) (rest := [(.int (0 : Int32))]) (lenOf pd___I rfl) rfl (Nat.le_of_eq rfl) E70_rl (rmSz l Z a0 hw rl (2 : Int32) h67 F73_size) d_14_11__121 (pc' := 126) rfl ?_
  intro v80 T80 L80 X80 hQ80
  obtain ⟨rfl, rfl, e80⟩ := hQ80
  rw [List.append_nil] at X80
  replace e80 : T80.heap = h67 := e80
  show GoP p e below Φ (T80.setTop (mkF m 126 #[.val (.ref g), .val (.ref aC), .val (.int pt), .val (.int (1 : Int32)), .val (.ref c1), .val (.ref b25), .val (.int (0 : Int32)), .unset, .unset] [(.int (2 : Int32)), (.int (0 : Int32))]))
  refine own_icmpN X80 hx hby d_14_11__126 (tlt (by decide)).2.1 (pc' := 129) rfl ?_
  refine own_aloadN X80 hx hby d_14_11__129 rfl rfl (pc' := 130) rfl ?_
  refine own_getF X80 hx hby hZ hown (host := "") (Or.inl (own_w hw 49 rfl)) Via.refl e80 (H1.keep K67 nin_g) d_14_11__130 (pc' := 133) rfl ?_
  intro T81 X81 e81
  refine own_iload X81 hx hby d_14_11__133 rfl (pc' := 135) rfl ?_
  refine own_callF X81 hx hby hZ (by exact hml) hown (x0 := (⟨"java/util/List", "get", "(I)Ljava/lang/Object;"⟩ : MethodName)) (y := (⟨"java/util/ArrayList", "get", "(I)Ljava/lang/Object;"⟩ : MethodName)) (own_w hw 118 rfl) (own_w hw 119 rfl) (own_w hw 120 rfl) (own_w hw 121 rfl) (own_w hw 122 rfl) (own_w hw 123 rfl) (own_w hw 124 rfl) (own_w hw 69 rfl) (own_w hw 27 rfl) rfl (own_w hw 125 rfl) (by decide) e81 0 (by decide) (by decide) (by decide) (by decide) (argsL := [(.int (0 : Int32))]) (rest := []) (lenOf pd__I_Ljava_lang_Object_ rfl) rfl (Nat.le_of_eq rfl) E70_rl (rmG0 l Z a0 hw rl es r0 (2 : Int32) (.ref r1) .null .null .null .null .null .null .null .null h67 (by decide) E70_rl F73_size F72_elementData V74_es) d_14_11__135 (pc' := 140) rfl ?_
  intro v82 T82 L82 X82 hQ82
  obtain ⟨rfl, rfl, e82⟩ := hQ82
  rw [List.append_nil] at X82
  replace e82 : T82.heap = h67 := e82
  show GoP p e below Φ (T82.setTop (mkF m 140 #[.val (.ref g), .val (.ref aC), .val (.int pt), .val (.int (1 : Int32)), .val (.ref c1), .val (.ref b25), .val (.int (0 : Int32)), .unset, .unset] [(.ref r0)]))
  obtain ⟨T83, X83, e83, st83⟩ := castY X82 hx hZ hown (own_w hw 20 rfl) e82 (Ins.self (H13.keep K67)) (g := (mkF m 140 #[.val (.ref g), .val (.ref aC), .val (.int pt), .val (.int (1 : Int32)), .val (.ref c1), .val (.ref b25), .val (.int (0 : Int32)), .unset, .unset] [(.ref r0)])) rfl rfl (hb hby d_14_11__140)
  refine own_step st83 ?_
  show GoP p e below Φ (T83.setTop (mkF m 143 #[.val (.ref g), .val (.ref aC), .val (.int pt), .val (.int (1 : Int32)), .val (.ref c1), .val (.ref b25), .val (.int (0 : Int32)), .unset, .unset] [(.ref r0)]))
  refine own_astore X83 hx hby d_14_11__143 rfl (Ls' := #[.val (.ref g), .val (.ref aC), .val (.int pt), .val (.int (1 : Int32)), .val (.ref c1), .val (.ref b25), .val (.int (0 : Int32)), .val (.ref r0), .unset]) rfl (pc' := 145) rfl ?_
  refine own_aload X83 hx hby d_14_11__145 rfl rfl (pc' := 147) rfl ?_
  refine own_alen X83 hx hby hZ e83 (n := (2 : Int32)) (H12.keep K67 nin_r0) rfl d_14_11__147 (pc' := 148) rfl ?_
  refine own_iconst X83 hx hby d_14_11__148 (v := (1 : Int32)) rfl (pc' := 149) rfl ?_
  refine own_iadd X83 hx hby d_14_11__149 (pc' := 150) rfl ?_
  show GoP p e below Φ (T83.setTop (mkF m 150 #[.val (.ref g), .val (.ref aC), .val (.int pt), .val (.int (1 : Int32)), .val (.ref c1), .val (.ref b25), .val (.int (0 : Int32)), .val (.ref r0), .unset] [(.int (3 : Int32))]))
  refine own_newI X83 hx hby hZ (own_w hw 17 rfl) e83 (by decide) 3 (by decide) (by decide) (by decide) (by decide) d_14_11__150 (pc' := 152) rfl ?_
  intro T84 h84 b84 X84 e84 E84 g84 V84 I84 A84
  have ne_cu_b84 : cu ≠ b84 := Nat.ne_of_lt (g84 ▸ V67.lt)
  have ne_rl_b84 : rl ≠ b84 := Nat.ne_of_lt (g84 ▸ E70_rl.lt)
  have ne_es_b84 : es ≠ b84 := Nat.ne_of_lt (g84 ▸ V74_es.lt)
  have ne_b25_b84 : b25 ≠ b84 := Nat.ne_of_lt (g84 ▸ V76_b25.lt)
  have V85_cu := V67.ext E84
  have Y86_cu := Y69_cu.ext E84
  have E87_rl := E70_rl.ext E84
  have F88_modCount := F71_modCount.ext E84
  have F89_elementData := F72_elementData.ext E84
  have F90_size := F73_size.ext E84
  have V91_es := V74_es.ext E84
  have Y92_es := Y75_es.ext E84
  have V93_b25 := V76_b25.ext E84
  have E94_b25 := E77_b25.ext E84
  have Z84 : n0 ≤ h84.size := Nat.le_trans Z67 E84.1
  have n0_b84 : n0 ≤ b84 := g84 ▸ Z67
  have sz_b84 : h0.size ≤ b84 := g84 ▸ K67.1
  have K84 : Keep h0 h84 [cu, rl, es] := K67.ext E84
  replace V84 : AV Z h84 b84 .int [(.int (0 : Int32)), (.int (0 : Int32)), (.int (0 : Int32))] := V84
  show GoP p e below Φ (T84.setTop (mkF m 152 #[.val (.ref g), .val (.ref aC), .val (.int pt), .val (.int (1 : Int32)), .val (.ref c1), .val (.ref b25), .val (.int (0 : Int32)), .val (.ref r0), .unset] [(.ref b84)]))
  refine own_astore X84 hx hby d_14_11__152 rfl (Ls' := #[.val (.ref g), .val (.ref aC), .val (.int pt), .val (.int (1 : Int32)), .val (.ref c1), .val (.ref b25), .val (.int (0 : Int32)), .val (.ref r0), .val (.ref b84)]) rfl (pc' := 154) rfl ?_
  refine own_aload X84 hx hby d_14_11__154 rfl rfl (pc' := 156) rfl ?_
  refine own_iconst X84 hx hby d_14_11__156 (v := (0 : Int32)) rfl (pc' := 157) rfl ?_
  refine own_aload X84 hx hby d_14_11__157 rfl rfl (pc' := 159) rfl ?_
  refine own_iconst X84 hx hby d_14_11__159 (v := (0 : Int32)) rfl (pc' := 160) rfl ?_
  refine own_iloadN X84 hx hby d_14_11__160 rfl (pc' := 161) rfl ?_
  refine own_iconst X84 hx hby d_14_11__161 (v := (1 : Int32)) rfl (pc' := 162) rfl ?_
  refine own_iadd X84 hx hby d_14_11__162 (pc' := 163) rfl ?_
  show GoP p e below Φ (T84.setTop (mkF m 163 #[.val (.ref g), .val (.ref aC), .val (.int pt), .val (.int (1 : Int32)), .val (.ref c1), .val (.ref b25), .val (.int (0 : Int32)), .val (.ref r0), .val (.ref b84)] [(.int (2 : Int32)), (.int (0 : Int32)), (.ref b84), (.int (0 : Int32)), (.ref r0)]))
  refine own_copyV X84 hx hby (dv := (.int 0)) hZ (by exact hml) hown (own_w hw 114 rfl) (own_w hw 117 rfl) (own_w hw 115 rfl) (own_w hw 116 rfl) e84 (H12.keep K84 nin_r0) V84 rfl rfl rfl (by decide) (by decide) (by decide) (Nat.le_of_ble_eq_true rfl) (Nat.le_of_ble_eq_true rfl) N67 n0_b84 (by decide) 0 (Nat.le_of_eq rfl) (by decide) d_14_11__163 (pc' := 166) rfl ?_
  intro T95 h95 L95 X95 e95 Nn95 K95 V95
  replace V95 : AV Z h95 b84 .int [(.int (0 : Int32)), (.int (0 : Int32)), (.int (0 : Int32))] := V95
  have V96_cu := V85_cu.keep K95 (ninS ne_cu_b84 nin0)
  have Y97_cu := Y86_cu.keep K95 
  have E98_rl := E87_rl.keep K95 
  have F99_modCount := F88_modCount.keep K95 (ninS ne_rl_b84 nin0)
  have F100_elementData := F89_elementData.keep K95 (ninS ne_rl_b84 nin0)
  have F101_size := F90_size.keep K95 (ninS ne_rl_b84 nin0)
  have V102_es := V91_es.keep K95 (ninS ne_es_b84 nin0)
  have Y103_es := Y92_es.keep K95 
  have V104_b25 := V93_b25.keep K95 (ninS ne_b25_b84 nin0)
  have E105_b25 := E94_b25.keep K95 
  have E106_b84 := A84.keep K95 
  have KC95 : Keep h0 h95 [cu, rl, es] := K84.trans K95 (allS (Or.inr sz_b84) all0)
  have ZC95 : n0 ≤ h95.size := Nat.le_trans Z84 K95.1
  refine own_aload X95 hx hby d_14_11__166 rfl rfl (pc' := 168) rfl ?_
  refine own_iloadN X95 hx hby d_14_11__168 rfl (pc' := 169) rfl ?_
  refine own_aload X95 hx hby d_14_11__169 rfl rfl (pc' := 171) rfl ?_
  refine own_iloadN X95 hx hby d_14_11__171 rfl (pc' := 172) rfl ?_
  refine own_iconst X95 hx hby d_14_11__172 (v := (1 : Int32)) rfl (pc' := 173) rfl ?_
  refine own_iadd X95 hx hby d_14_11__173 (pc' := 174) rfl ?_
  show GoP p e below Φ (T95.setTop (mkF m 174 #[.val (.ref g), .val (.ref aC), .val (.int pt), .val (.int (1 : Int32)), .val (.ref c1), .val (.ref b25), .val (.int (0 : Int32)), .val (.ref r0), .val (.ref b84)] [(.int (2 : Int32)), (.ref b84), (.int (1 : Int32)), (.ref r0)]))
  refine own_aload X95 hx hby d_14_11__174 rfl rfl (pc' := 176) rfl ?_
  refine own_alen X95 hx hby hZ e95 (n := (2 : Int32)) (H12.keep KC95 nin_r0) rfl d_14_11__176 (pc' := 177) rfl ?_
  refine own_iloadN X95 hx hby d_14_11__177 rfl (pc' := 178) rfl ?_
  refine own_isub X95 hx hby d_14_11__178 (pc' := 179) rfl ?_
  show GoP p e below Φ (T95.setTop (mkF m 179 #[.val (.ref g), .val (.ref aC), .val (.int pt), .val (.int (1 : Int32)), .val (.ref c1), .val (.ref b25), .val (.int (0 : Int32)), .val (.ref r0), .val (.ref b84)] [(.int (1 : Int32)), (.int (2 : Int32)), (.ref b84), (.int (1 : Int32)), (.ref r0)]))
  refine own_copyV X95 hx hby (dv := (.int 0)) hZ (by exact hml) hown (own_w hw 114 rfl) (own_w hw 117 rfl) (own_w hw 115 rfl) (own_w hw 116 rfl) e95 (H12.keep KC95 nin_r0) V95 rfl rfl rfl (by decide) (by decide) (by decide) (Nat.le_of_ble_eq_true rfl) (Nat.le_of_ble_eq_true rfl) Nn95 n0_b84 (by decide) 0 (Nat.le_of_eq rfl) (by decide) d_14_11__179 (pc' := 182) rfl ?_
  intro T107 h107 L107 X107 e107 Nn107 K107 V107
  replace V107 : AV Z h107 b84 .int [(.int (0 : Int32)), (.int (0 : Int32)), (.int (0 : Int32))] := V107
  have V108_cu := V96_cu.keep K107 (ninS ne_cu_b84 nin0)
  have Y109_cu := Y97_cu.keep K107 
  have E110_rl := E98_rl.keep K107 
  have F111_modCount := F99_modCount.keep K107 (ninS ne_rl_b84 nin0)
  have F112_elementData := F100_elementData.keep K107 (ninS ne_rl_b84 nin0)
  have F113_size := F101_size.keep K107 (ninS ne_rl_b84 nin0)
  have V114_es := V102_es.keep K107 (ninS ne_es_b84 nin0)
  have Y115_es := Y103_es.keep K107 
  have V116_b25 := V104_b25.keep K107 (ninS ne_b25_b84 nin0)
  have E117_b25 := E105_b25.keep K107 
  have E118_b84 := E106_b84.keep K107 
  have KC107 : Keep h0 h107 [cu, rl, es] := KC95.trans K107 (allS (Or.inr sz_b84) all0)
  have ZC107 : n0 ≤ h107.size := Nat.le_trans ZC95 K107.1
  refine own_aloadN X107 hx hby d_14_11__182 rfl rfl (pc' := 183) rfl ?_
  refine own_getF X107 hx hby hZ hown (host := "") (Or.inl (own_w hw 49 rfl)) Via.refl e107 (H1.keep KC107 nin_g) d_14_11__183 (pc' := 186) rfl ?_
  intro T119 X119 e119
  refine own_iload X119 hx hby d_14_11__186 rfl (pc' := 188) rfl ?_
  refine own_aload X119 hx hby d_14_11__188 rfl rfl (pc' := 190) rfl ?_
  refine own_callF X119 hx hby hZ (by exact hml) hown (x0 := (⟨"java/util/List", "set", "(ILjava/lang/Object;)Ljava/lang/Object;"⟩ : MethodName)) (y := (⟨"java/util/ArrayList", "set", "(ILjava/lang/Object;)Ljava/lang/Object;"⟩ : MethodName)) (own_w hw 168 rfl) (own_w hw 169 rfl) (own_w hw 170 rfl) (own_w hw 171 rfl) (own_w hw 172 rfl) (own_w hw 173 rfl) (own_w hw 174 rfl) (own_w hw 69 rfl) (own_w hw 27 rfl) rfl (own_w hw 175 rfl) (by decide) e119 0 (by decide) (by decide) (by decide) (by decide) (argsL := [(.int (0 : Int32)), (.ref b84)]) (rest := []) (lenOf pd__ILjava_lang_Object__Ljava_lang_Object_ rfl) rfl (Nat.le_of_eq rfl) E110_rl (rmS0 l Z a0 hw rl es r0 b84 (2 : Int32) (.ref r1) .null .null .null .null .null .null .null .null n0 h107 n0_es (Ne.symm ne13_es_rl) (Ne.symm ne_es_b84) (by decide) Y115_es E118_b84 E110_rl F113_size F112_elementData V114_es) d_14_11__190 (pc' := 195) rfl ?_
  intro v120 T120 L120 X120 hQ120
  obtain ⟨rfl, Nq120, K120, V120⟩ := hQ120
  have V121_cu := V108_cu.keep K120 (ninS (Ne.symm ne6_es_cu) nin0)
  have Y122_cu := Y109_cu.keep K120
  have E123_rl := E110_rl.keep K120
  have F124_modCount := F111_modCount.keep K120 (ninS (Ne.symm ne13_es_rl) nin0)
  have F125_elementData := F112_elementData.keep K120 (ninS (Ne.symm ne13_es_rl) nin0)
  have F126_size := F113_size.keep K120 (ninS (Ne.symm ne13_es_rl) nin0)
  have Y127_es := Y115_es.keep K120
  have V128_b25 := V116_b25.keep K120 (ninS (Ne.symm ne_es_b25) nin0)
  have E129_b25 := E117_b25.keep K120
  have V130_b84 := V107.keep K120 (ninS (Ne.symm ne_es_b84) nin0)
  have E131_b84 := E118_b84.keep K120
  have N120 := Fr.app Nn107 Nq120
  have Z120 : n0 ≤ T120.heap.size := Nat.le_trans ZC107 K120.1
  have KK120 : Keep h0 T120.heap [cu, rl, es] := KC107.trans K120 (allS (Or.inl (List.mem_of_getElem? (i := 2) rfl)) all0)
  show GoP p e below Φ (T120.setTop (mkF m 195 #[.val (.ref g), .val (.ref aC), .val (.int pt), .val (.int (1 : Int32)), .val (.ref c1), .val (.ref b25), .val (.int (0 : Int32)), .val (.ref r0), .val (.ref b84)] [(.ref r0)]))
  refine own_pop X120 hx hby d_14_11__195 rfl (pc' := 196) rfl ?_
  refine own_iinc X120 hx hby d_14_11__196 rfl (v := (1 : Int32)) rfl (Ls' := #[.val (.ref g), .val (.ref aC), .val (.int pt), .val (.int (1 : Int32)), .val (.ref c1), .val (.ref b25), .val (.int (1 : Int32)), .val (.ref r0), .val (.ref b84)]) rfl (pc' := 199) rfl ?_
  refine own_goto X120 hx hby d_14_11__199 (by decide) (pc' := 115) (by decide) ?_
  refine own_iload X120 hx hby d_14_11__115 rfl (pc' := 117) rfl ?_
  refine own_aloadN X120 hx hby d_14_11__117 rfl rfl (pc' := 118) rfl ?_
  refine own_getF X120 hx hby hZ hown (host := "") (Or.inl (own_w hw 49 rfl)) Via.refl rfl (H1.keep KK120 nin_g) d_14_11__118 (pc' := 121) rfl ?_
  intro T132 X132 e132
  refine own_callF X132 hx hby hZ (by exact hml) hown (x0 := (⟨"java/util/List", "size", "()I"⟩ : MethodName)) (y := (⟨"java/util/ArrayList", "size", "()I"⟩ : MethodName)) (own_w hw 160 rfl) (own_w hw 161 rfl) (own_w hw 162 rfl) (own_w hw 163 rfl) (own_w hw 164 rfl) (own_w hw 165 rfl) (own_w hw 166 rfl) (own_w hw 69 rfl) (own_w hw 27 rfl) rfl (own_w hw 167 rfl) (by decide) e132 1 (by decide) (by decide) (by decide) (by decide) (argsL := []) (rest := [(.int (1 : Int32))]) (lenOf pd___I rfl) rfl (Nat.le_of_eq rfl) E123_rl (rmSz l Z a0 hw rl (2 : Int32) T120.heap F126_size) d_14_11__121 (pc' := 126) rfl ?_
  intro v133 T133 L133 X133 hQ133
  obtain ⟨rfl, rfl, e133⟩ := hQ133
  rw [List.append_nil] at X133
  replace e133 : T133.heap = T120.heap := e133
  show GoP p e below Φ (T133.setTop (mkF m 126 #[.val (.ref g), .val (.ref aC), .val (.int pt), .val (.int (1 : Int32)), .val (.ref c1), .val (.ref b25), .val (.int (1 : Int32)), .val (.ref r0), .val (.ref b84)] [(.int (2 : Int32)), (.int (1 : Int32))]))
  refine own_icmpN X133 hx hby d_14_11__126 (tlt (by decide)).2.1 (pc' := 129) rfl ?_
  refine own_aloadN X133 hx hby d_14_11__129 rfl rfl (pc' := 130) rfl ?_
  refine own_getF X133 hx hby hZ hown (host := "") (Or.inl (own_w hw 49 rfl)) Via.refl e133 (H1.keep KK120 nin_g) d_14_11__130 (pc' := 133) rfl ?_
  intro T134 X134 e134
  refine own_iload X134 hx hby d_14_11__133 rfl (pc' := 135) rfl ?_
  refine own_callF X134 hx hby hZ (by exact hml) hown (x0 := (⟨"java/util/List", "get", "(I)Ljava/lang/Object;"⟩ : MethodName)) (y := (⟨"java/util/ArrayList", "get", "(I)Ljava/lang/Object;"⟩ : MethodName)) (own_w hw 118 rfl) (own_w hw 119 rfl) (own_w hw 120 rfl) (own_w hw 121 rfl) (own_w hw 122 rfl) (own_w hw 123 rfl) (own_w hw 124 rfl) (own_w hw 69 rfl) (own_w hw 27 rfl) rfl (own_w hw 125 rfl) (by decide) e134 0 (by decide) (by decide) (by decide) (by decide) (argsL := [(.int (1 : Int32))]) (rest := []) (lenOf pd__I_Ljava_lang_Object_ rfl) rfl (Nat.le_of_eq rfl) E123_rl (rmG1 l Z a0 hw rl es r1 (2 : Int32) (.ref b84) .null .null .null .null .null .null .null .null T120.heap (by decide) E123_rl F126_size F125_elementData V120) d_14_11__135 (pc' := 140) rfl ?_
  intro v135 T135 L135 X135 hQ135
  obtain ⟨rfl, rfl, e135⟩ := hQ135
  rw [List.append_nil] at X135
  replace e135 : T135.heap = T120.heap := e135
  show GoP p e below Φ (T135.setTop (mkF m 140 #[.val (.ref g), .val (.ref aC), .val (.int pt), .val (.int (1 : Int32)), .val (.ref c1), .val (.ref b25), .val (.int (1 : Int32)), .val (.ref r0), .val (.ref b84)] [(.ref r1)]))
  obtain ⟨T136, X136, e136, st136⟩ := castY X135 hx hZ hown (own_w hw 20 rfl) e135 (Ins.self (H15.keep KK120)) (g := (mkF m 140 #[.val (.ref g), .val (.ref aC), .val (.int pt), .val (.int (1 : Int32)), .val (.ref c1), .val (.ref b25), .val (.int (1 : Int32)), .val (.ref r0), .val (.ref b84)] [(.ref r1)])) rfl rfl (hb hby d_14_11__140)
  refine own_step st136 ?_
  show GoP p e below Φ (T136.setTop (mkF m 143 #[.val (.ref g), .val (.ref aC), .val (.int pt), .val (.int (1 : Int32)), .val (.ref c1), .val (.ref b25), .val (.int (1 : Int32)), .val (.ref r0), .val (.ref b84)] [(.ref r1)]))
  refine own_astore X136 hx hby d_14_11__143 rfl (Ls' := #[.val (.ref g), .val (.ref aC), .val (.int pt), .val (.int (1 : Int32)), .val (.ref c1), .val (.ref b25), .val (.int (1 : Int32)), .val (.ref r1), .val (.ref b84)]) rfl (pc' := 145) rfl ?_
  refine own_aload X136 hx hby d_14_11__145 rfl rfl (pc' := 147) rfl ?_
  refine own_alen X136 hx hby hZ e136 (n := (2 : Int32)) (H14.keep KK120 nin_r1) rfl d_14_11__147 (pc' := 148) rfl ?_
  refine own_iconst X136 hx hby d_14_11__148 (v := (1 : Int32)) rfl (pc' := 149) rfl ?_
  refine own_iadd X136 hx hby d_14_11__149 (pc' := 150) rfl ?_
  show GoP p e below Φ (T136.setTop (mkF m 150 #[.val (.ref g), .val (.ref aC), .val (.int pt), .val (.int (1 : Int32)), .val (.ref c1), .val (.ref b25), .val (.int (1 : Int32)), .val (.ref r1), .val (.ref b84)] [(.int (3 : Int32))]))
  refine own_newI X136 hx hby hZ (own_w hw 17 rfl) e136 (by decide) 3 (by decide) (by decide) (by decide) (by decide) d_14_11__150 (pc' := 152) rfl ?_
  intro T137 h137 b137 X137 e137 E137 g137 V137 I137 A137
  have ne_cu_b137 : cu ≠ b137 := Nat.ne_of_lt (g137 ▸ V121_cu.lt)
  have ne_rl_b137 : rl ≠ b137 := Nat.ne_of_lt (g137 ▸ E123_rl.lt)
  have ne_es_b137 : es ≠ b137 := Nat.ne_of_lt (g137 ▸ V120.lt)
  have ne_b25_b137 : b25 ≠ b137 := Nat.ne_of_lt (g137 ▸ V128_b25.lt)
  have ne_b84_b137 : b84 ≠ b137 := Nat.ne_of_lt (g137 ▸ V130_b84.lt)
  have V138_cu := V121_cu.ext E137
  have Y139_cu := Y122_cu.ext E137
  have E140_rl := E123_rl.ext E137
  have F141_modCount := F124_modCount.ext E137
  have F142_elementData := F125_elementData.ext E137
  have F143_size := F126_size.ext E137
  have V144_es := V120.ext E137
  have Y145_es := Y127_es.ext E137
  have V146_b25 := V128_b25.ext E137
  have E147_b25 := E129_b25.ext E137
  have V148_b84 := V130_b84.ext E137
  have E149_b84 := E131_b84.ext E137
  have Z137 : n0 ≤ h137.size := Nat.le_trans Z120 E137.1
  have n0_b137 : n0 ≤ b137 := g137 ▸ Z120
  have sz_b137 : h0.size ≤ b137 := g137 ▸ KK120.1
  have K137 : Keep h0 h137 [cu, rl, es] := KK120.ext E137
  replace V137 : AV Z h137 b137 .int [(.int (0 : Int32)), (.int (0 : Int32)), (.int (0 : Int32))] := V137
  show GoP p e below Φ (T137.setTop (mkF m 152 #[.val (.ref g), .val (.ref aC), .val (.int pt), .val (.int (1 : Int32)), .val (.ref c1), .val (.ref b25), .val (.int (1 : Int32)), .val (.ref r1), .val (.ref b84)] [(.ref b137)]))
  refine own_astore X137 hx hby d_14_11__152 rfl (Ls' := #[.val (.ref g), .val (.ref aC), .val (.int pt), .val (.int (1 : Int32)), .val (.ref c1), .val (.ref b25), .val (.int (1 : Int32)), .val (.ref r1), .val (.ref b137)]) rfl (pc' := 154) rfl ?_
  refine own_aload X137 hx hby d_14_11__154 rfl rfl (pc' := 156) rfl ?_
  refine own_iconst X137 hx hby d_14_11__156 (v := (0 : Int32)) rfl (pc' := 157) rfl ?_
  refine own_aload X137 hx hby d_14_11__157 rfl rfl (pc' := 159) rfl ?_
  refine own_iconst X137 hx hby d_14_11__159 (v := (0 : Int32)) rfl (pc' := 160) rfl ?_
  refine own_iloadN X137 hx hby d_14_11__160 rfl (pc' := 161) rfl ?_
  refine own_iconst X137 hx hby d_14_11__161 (v := (1 : Int32)) rfl (pc' := 162) rfl ?_
  refine own_iadd X137 hx hby d_14_11__162 (pc' := 163) rfl ?_
  show GoP p e below Φ (T137.setTop (mkF m 163 #[.val (.ref g), .val (.ref aC), .val (.int pt), .val (.int (1 : Int32)), .val (.ref c1), .val (.ref b25), .val (.int (1 : Int32)), .val (.ref r1), .val (.ref b137)] [(.int (2 : Int32)), (.int (0 : Int32)), (.ref b137), (.int (0 : Int32)), (.ref r1)]))
  refine own_copyV X137 hx hby (dv := (.int 0)) hZ (by exact hml) hown (own_w hw 114 rfl) (own_w hw 117 rfl) (own_w hw 115 rfl) (own_w hw 116 rfl) e137 (H14.keep K137 nin_r1) V137 rfl rfl rfl (by decide) (by decide) (by decide) (Nat.le_of_ble_eq_true rfl) (Nat.le_of_ble_eq_true rfl) N120 n0_b137 (by decide) 0 (Nat.le_of_eq rfl) (by decide) d_14_11__163 (pc' := 166) rfl ?_
  intro T150 h150 L150 X150 e150 Nn150 K150 V150
  replace V150 : AV Z h150 b137 .int [(.int (0 : Int32)), (.int (0 : Int32)), (.int (0 : Int32))] := V150
  have V151_cu := V138_cu.keep K150 (ninS ne_cu_b137 nin0)
  have Y152_cu := Y139_cu.keep K150 
  have E153_rl := E140_rl.keep K150 
  have F154_modCount := F141_modCount.keep K150 (ninS ne_rl_b137 nin0)
  have F155_elementData := F142_elementData.keep K150 (ninS ne_rl_b137 nin0)
  have F156_size := F143_size.keep K150 (ninS ne_rl_b137 nin0)
  have V157_es := V144_es.keep K150 (ninS ne_es_b137 nin0)
  have Y158_es := Y145_es.keep K150 
  have V159_b25 := V146_b25.keep K150 (ninS ne_b25_b137 nin0)
  have E160_b25 := E147_b25.keep K150 
  have V161_b84 := V148_b84.keep K150 (ninS ne_b84_b137 nin0)
  have E162_b84 := E149_b84.keep K150 
  have E163_b137 := A137.keep K150 
  have KC150 : Keep h0 h150 [cu, rl, es] := K137.trans K150 (allS (Or.inr sz_b137) all0)
  have ZC150 : n0 ≤ h150.size := Nat.le_trans Z137 K150.1
  refine own_aload X150 hx hby d_14_11__166 rfl rfl (pc' := 168) rfl ?_
  refine own_iloadN X150 hx hby d_14_11__168 rfl (pc' := 169) rfl ?_
  refine own_aload X150 hx hby d_14_11__169 rfl rfl (pc' := 171) rfl ?_
  refine own_iloadN X150 hx hby d_14_11__171 rfl (pc' := 172) rfl ?_
  refine own_iconst X150 hx hby d_14_11__172 (v := (1 : Int32)) rfl (pc' := 173) rfl ?_
  refine own_iadd X150 hx hby d_14_11__173 (pc' := 174) rfl ?_
  show GoP p e below Φ (T150.setTop (mkF m 174 #[.val (.ref g), .val (.ref aC), .val (.int pt), .val (.int (1 : Int32)), .val (.ref c1), .val (.ref b25), .val (.int (1 : Int32)), .val (.ref r1), .val (.ref b137)] [(.int (2 : Int32)), (.ref b137), (.int (1 : Int32)), (.ref r1)]))
  refine own_aload X150 hx hby d_14_11__174 rfl rfl (pc' := 176) rfl ?_
  refine own_alen X150 hx hby hZ e150 (n := (2 : Int32)) (H14.keep KC150 nin_r1) rfl d_14_11__176 (pc' := 177) rfl ?_
  refine own_iloadN X150 hx hby d_14_11__177 rfl (pc' := 178) rfl ?_
  refine own_isub X150 hx hby d_14_11__178 (pc' := 179) rfl ?_
  show GoP p e below Φ (T150.setTop (mkF m 179 #[.val (.ref g), .val (.ref aC), .val (.int pt), .val (.int (1 : Int32)), .val (.ref c1), .val (.ref b25), .val (.int (1 : Int32)), .val (.ref r1), .val (.ref b137)] [(.int (1 : Int32)), (.int (2 : Int32)), (.ref b137), (.int (1 : Int32)), (.ref r1)]))
  refine own_copyV X150 hx hby (dv := (.int 0)) hZ (by exact hml) hown (own_w hw 114 rfl) (own_w hw 117 rfl) (own_w hw 115 rfl) (own_w hw 116 rfl) e150 (H14.keep KC150 nin_r1) V150 rfl rfl rfl (by decide) (by decide) (by decide) (Nat.le_of_ble_eq_true rfl) (Nat.le_of_ble_eq_true rfl) Nn150 n0_b137 (by decide) 0 (Nat.le_of_eq rfl) (by decide) d_14_11__179 (pc' := 182) rfl ?_
  intro T164 h164 L164 X164 e164 Nn164 K164 V164
  replace V164 : AV Z h164 b137 .int [(.int (0 : Int32)), (.int (0 : Int32)), (.int (0 : Int32))] := V164
  have V165_cu := V151_cu.keep K164 (ninS ne_cu_b137 nin0)
  have Y166_cu := Y152_cu.keep K164 
  have E167_rl := E153_rl.keep K164 
  have F168_modCount := F154_modCount.keep K164 (ninS ne_rl_b137 nin0)
  have F169_elementData := F155_elementData.keep K164 (ninS ne_rl_b137 nin0)
  have F170_size := F156_size.keep K164 (ninS ne_rl_b137 nin0)
  have V171_es := V157_es.keep K164 (ninS ne_es_b137 nin0)
  have Y172_es := Y158_es.keep K164 
  have V173_b25 := V159_b25.keep K164 (ninS ne_b25_b137 nin0)
  have E174_b25 := E160_b25.keep K164 
  have V175_b84 := V161_b84.keep K164 (ninS ne_b84_b137 nin0)
  have E176_b84 := E162_b84.keep K164 
  have E177_b137 := E163_b137.keep K164 
  have KC164 : Keep h0 h164 [cu, rl, es] := KC150.trans K164 (allS (Or.inr sz_b137) all0)
  have ZC164 : n0 ≤ h164.size := Nat.le_trans ZC150 K164.1
  refine own_aloadN X164 hx hby d_14_11__182 rfl rfl (pc' := 183) rfl ?_
  refine own_getF X164 hx hby hZ hown (host := "") (Or.inl (own_w hw 49 rfl)) Via.refl e164 (H1.keep KC164 nin_g) d_14_11__183 (pc' := 186) rfl ?_
  intro T178 X178 e178
  refine own_iload X178 hx hby d_14_11__186 rfl (pc' := 188) rfl ?_
  refine own_aload X178 hx hby d_14_11__188 rfl rfl (pc' := 190) rfl ?_
  refine own_callF X178 hx hby hZ (by exact hml) hown (x0 := (⟨"java/util/List", "set", "(ILjava/lang/Object;)Ljava/lang/Object;"⟩ : MethodName)) (y := (⟨"java/util/ArrayList", "set", "(ILjava/lang/Object;)Ljava/lang/Object;"⟩ : MethodName)) (own_w hw 168 rfl) (own_w hw 169 rfl) (own_w hw 170 rfl) (own_w hw 171 rfl) (own_w hw 172 rfl) (own_w hw 173 rfl) (own_w hw 174 rfl) (own_w hw 69 rfl) (own_w hw 27 rfl) rfl (own_w hw 175 rfl) (by decide) e178 0 (by decide) (by decide) (by decide) (by decide) (argsL := [(.int (1 : Int32)), (.ref b137)]) (rest := []) (lenOf pd__ILjava_lang_Object__Ljava_lang_Object_ rfl) rfl (Nat.le_of_eq rfl) E167_rl (rmS1 l Z a0 hw rl es r1 b137 (2 : Int32) (.ref b84) .null .null .null .null .null .null .null .null n0 h164 n0_es (Ne.symm ne13_es_rl) (Ne.symm ne_es_b137) (by decide) Y172_es E177_b137 E167_rl F170_size F169_elementData V171_es) d_14_11__190 (pc' := 195) rfl ?_
  intro v179 T179 L179 X179 hQ179
  obtain ⟨rfl, Nq179, K179, V179⟩ := hQ179
  have V180_cu := V165_cu.keep K179 (ninS (Ne.symm ne6_es_cu) nin0)
  have Y181_cu := Y166_cu.keep K179
  have E182_rl := E167_rl.keep K179
  have F183_modCount := F168_modCount.keep K179 (ninS (Ne.symm ne13_es_rl) nin0)
  have F184_elementData := F169_elementData.keep K179 (ninS (Ne.symm ne13_es_rl) nin0)
  have F185_size := F170_size.keep K179 (ninS (Ne.symm ne13_es_rl) nin0)
  have Y186_es := Y172_es.keep K179
  have V187_b25 := V173_b25.keep K179 (ninS (Ne.symm ne_es_b25) nin0)
  have E188_b25 := E174_b25.keep K179
  have V189_b84 := V175_b84.keep K179 (ninS (Ne.symm ne_es_b84) nin0)
  have E190_b84 := E176_b84.keep K179
  have V191_b137 := V164.keep K179 (ninS (Ne.symm ne_es_b137) nin0)
  have E192_b137 := E177_b137.keep K179
  have N179 := Fr.app Nn164 Nq179
  have Z179 : n0 ≤ T179.heap.size := Nat.le_trans ZC164 K179.1
  have KK179 : Keep h0 T179.heap [cu, rl, es] := KC164.trans K179 (allS (Or.inl (List.mem_of_getElem? (i := 2) rfl)) all0)
  show GoP p e below Φ (T179.setTop (mkF m 195 #[.val (.ref g), .val (.ref aC), .val (.int pt), .val (.int (1 : Int32)), .val (.ref c1), .val (.ref b25), .val (.int (1 : Int32)), .val (.ref r1), .val (.ref b137)] [(.ref r1)]))
  refine own_pop X179 hx hby d_14_11__195 rfl (pc' := 196) rfl ?_
  refine own_iinc X179 hx hby d_14_11__196 rfl (v := (1 : Int32)) rfl (Ls' := #[.val (.ref g), .val (.ref aC), .val (.int pt), .val (.int (1 : Int32)), .val (.ref c1), .val (.ref b25), .val (.int (2 : Int32)), .val (.ref r1), .val (.ref b137)]) rfl (pc' := 199) rfl ?_
  refine own_goto X179 hx hby d_14_11__199 (by decide) (pc' := 115) (by decide) ?_
  refine own_iload X179 hx hby d_14_11__115 rfl (pc' := 117) rfl ?_
  refine own_aloadN X179 hx hby d_14_11__117 rfl rfl (pc' := 118) rfl ?_
  refine own_getF X179 hx hby hZ hown (host := "") (Or.inl (own_w hw 49 rfl)) Via.refl rfl (H1.keep KK179 nin_g) d_14_11__118 (pc' := 121) rfl ?_
  intro T193 X193 e193
  refine own_callF X193 hx hby hZ (by exact hml) hown (x0 := (⟨"java/util/List", "size", "()I"⟩ : MethodName)) (y := (⟨"java/util/ArrayList", "size", "()I"⟩ : MethodName)) (own_w hw 160 rfl) (own_w hw 161 rfl) (own_w hw 162 rfl) (own_w hw 163 rfl) (own_w hw 164 rfl) (own_w hw 165 rfl) (own_w hw 166 rfl) (own_w hw 69 rfl) (own_w hw 27 rfl) rfl (own_w hw 167 rfl) (by decide) e193 1 (by decide) (by decide) (by decide) (by decide) (argsL := []) (rest := [(.int (2 : Int32))]) (lenOf pd___I rfl) rfl (Nat.le_of_eq rfl) E182_rl (rmSz l Z a0 hw rl (2 : Int32) T179.heap F185_size) d_14_11__121 (pc' := 126) rfl ?_
  intro v194 T194 L194 X194 hQ194
  obtain ⟨rfl, rfl, e194⟩ := hQ194
  rw [List.append_nil] at X194
  replace e194 : T194.heap = T179.heap := e194
  show GoP p e below Φ (T194.setTop (mkF m 126 #[.val (.ref g), .val (.ref aC), .val (.int pt), .val (.int (1 : Int32)), .val (.ref c1), .val (.ref b25), .val (.int (2 : Int32)), .val (.ref r1), .val (.ref b137)] [(.int (2 : Int32)), (.int (2 : Int32))]))
  refine own_icmpY X194 hx hby d_14_11__126 (flt (by decide)).2.1 (by decide) (pc' := 202) (by decide) ?_
  exact own_ret0 X194 hx hby fin hret d_14_11__202 (by decide) (by decide) (by rw [e194]; exact ⟨rfl, N179, KK179, b25, b84, b137, (H0.keep KK179 nin_g), (H1.keep KK179 nin_g), V180_cu, Y181_cu, (H4.keep KK179 nin_c0), V187_b25, E182_rl, F183_modCount, F184_elementData, F185_size, V179, Y186_es, V189_b84, E190_b84, V191_b137, E192_b137⟩)
theorem own_t1 : (1 : Int32).toInt = 1 := by decide
theorem own_ab (p q : Int32) : ¬ ((((1 : Int32) + (p &&& (1073741823 : Int32))) + (1 : Int32)) + (q &&& (536870911 : Int32))) - (1 : Int32) < ((1 : Int32) + (p &&& (1073741823 : Int32))) ∧ ((1 : Int32) + (p &&& (1073741823 : Int32))) - (1 : Int32) < ((((1 : Int32) + (p &&& (1073741823 : Int32))) + (1 : Int32)) + (q &&& (536870911 : Int32))) := by
  have a := c_mask p 1073741823 30 (by decide) (by decide)
  have b := c_mask q 536870911 29 (by decide) (by decide)
  have e1 : ((1 : Int32) + (p &&& (1073741823 : Int32))).toInt = 1 + (p &&& (1073741823 : Int32)).toInt := own_add32 (by rw [own_t1]) (by omega) (by omega)
  generalize ((1 : Int32) + (p &&& (1073741823 : Int32))) = x at *
  have e2 : (x + (1 : Int32)).toInt = x.toInt + 1 := own_add32 (by rw [own_t1]) (by omega) (by omega)
  generalize x + (1 : Int32) = y at *
  have e3 : (y + (q &&& (536870911 : Int32))).toInt = y.toInt + (q &&& (536870911 : Int32)).toInt := own_add32 rfl (by omega) (by omega)
  generalize y + (q &&& (536870911 : Int32)) = z at *
  have e4 := own_sub32 (x := z) (y := (1 : Int32)) (k := z.toInt - 1) (by rw [own_t1]) (by omega) (by omega)
  have e5 := own_sub32 (x := x) (y := (1 : Int32)) (k := x.toInt - 1) (by rw [own_t1]) (by omega) (by omega)
  simp only [Int32.lt_iff_toInt_lt]
  omega
theorem ef_rm0 (m : MethodId) (x0 : Int32) (x1 : Int32) (x2 : Int32) (x3 : Int32) : entryFrame m #[(.int x0), (.int x1), (.int x2), (.int x3)] maxLocals = mkF m 0 #[.val (.int x0), .val (.int x1), .val (.int x2), .val (.int x3), .unset, .unset, .unset, .unset, .unset, .unset, .unset] [] := by first | (simp [entryFrame, mkF, argsToLocals, Value.category, maxLocals]; done) | rfl
theorem pn_com_example_collectary_collectary_broker_GridStartPinLaw : plainName "com/example/collectary/collectary/broker/GridStartPinLaw" = true := by first | (simp [plainName, overriddenIn]; done) | decide +kernel
theorem pd__II_V : parseMethodDescriptor "(II)V" = some ⟨[.int, .int], none⟩ := by decide +kernel
theorem pd__Lcom_example_collectary_collectary_broker_Grid_Axis_I_V : parseMethodDescriptor "(Lcom/example/collectary/collectary/broker/Grid$Axis;I)V" = some ⟨[(.object "com/example/collectary/collectary/broker/Grid$Axis"), .int], none⟩ := by decide +kernel
set_option maxRecDepth 65536 in
set_option maxHeartbeats 40000000 in
theorem rm0 (l : Launch) (Z : State) (a0 : Array Value) (hw : ∀ d ∈ tables_1, d.before a0 Z = true) (p1 p2 p3 p4 : Int32) (aW aC aD : Addr) (n0 : Nat) (h0 : Heap) (Z0 : n0 ≤ h0.size) (oW : aW < n0) (oC : aC < n0) (oD : aD < n0) (ne_aC_aW : aC ≠ aW) (EW : Exa Z h0 aW "com/example/collectary/collectary/broker/Grid$Axis") (EC : Exa Z h0 aC "com/example/collectary/collectary/broker/Grid$Axis") (OW : Fld Z h0 aW "java/lang/Enum" "ordinal" "I" (.int (0 : Int32))) (OC : Fld Z h0 aC "java/lang/Enum" "ordinal" "I" (.int (1 : Int32))) (SW : Sta Z h0 "com/example/collectary/collectary/broker/Grid$Axis" "WORD" "Lcom/example/collectary/collectary/broker/Grid$Axis;" (.ref aW)) (SC : Sta Z h0 "com/example/collectary/collectary/broker/Grid$Axis" "COLLECTION" "Lcom/example/collectary/collectary/broker/Grid$Axis;" (.ref aC)) (S : Sta Z h0 "java/util/ArrayList" "DEFAULTCAPACITY_EMPTY_ELEMENTDATA" "[Ljava/lang/Object;" (.ref aD)) (VD : AV Z h0 aD (.object "java/lang/Object") []) : Con l Z x code maxLocals ret tables_1 room_1 #[(.int p1), (.int p2), (.int p3), (.int p4)] h0 (fun v h L => v = some (.int 1) ∧ Fr n0 L) := by
  refine Con.of (plainFor_of_name pn_com_example_collectary_collectary_broker_GridStartPinLaw) ?_
  intro p e s m below meth c T X hx hby hml hown hnm hret eT hZ hsh Φ fin
  replace hown : s.vm.findClass "com/example/collectary/collectary/broker/GridStartPinLaw" = some m.cls := hown
  replace hml : 11 = c.maxLocals := hml.symm
  refine own_step (fun tq kq => castTop (ef_rm0 m p1 p2 p3 p4) kq) ?_
  replace hret : meth.sig.returnType = (some .boolean) := hret
  have N0 := Fr.nil n0
  refine own_iconst X hx hby at_0 (v := (1 : Int32)) rfl (pc' := 1) rfl ?_
  refine own_iloadN X hx hby at_1 rfl (pc' := 2) rfl ?_
  refine own_ldcI X hx hby hZ hown (own_w hw 0 rfl) at_2 (pc' := 4) rfl ?_
  refine own_iand X hx hby at_4 (pc' := 5) rfl ?_
  refine own_iadd X hx hby at_5 (pc' := 6) rfl ?_
  refine own_istore X hx hby at_6  (Ls' := #[.val (.int p1), .val (.int p2), .val (.int p3), .val (.int p4), .val (.int ((1 : Int32) + (p1 &&& (1073741823 : Int32)))), .unset, .unset, .unset, .unset, .unset, .unset]) rfl (pc' := 8) rfl ?_
  refine own_iload X hx hby at_8 rfl (pc' := 10) rfl ?_
  refine own_iconst X hx hby at_10 (v := (1 : Int32)) rfl (pc' := 11) rfl ?_
  refine own_iadd X hx hby at_11 (pc' := 12) rfl ?_
  refine own_iloadN X hx hby at_12 rfl (pc' := 13) rfl ?_
  refine own_ldcI X hx hby hZ hown (own_w hw 1 rfl) at_13 (pc' := 15) rfl ?_
  refine own_iand X hx hby at_15 (pc' := 16) rfl ?_
  refine own_iadd X hx hby at_16 (pc' := 17) rfl ?_
  refine own_istore X hx hby at_17  (Ls' := #[.val (.int p1), .val (.int p2), .val (.int p3), .val (.int p4), .val (.int ((1 : Int32) + (p1 &&& (1073741823 : Int32)))), .val (.int ((((1 : Int32) + (p1 &&& (1073741823 : Int32))) + (1 : Int32)) + (p2 &&& (536870911 : Int32)))), .unset, .unset, .unset, .unset, .unset]) rfl (pc' := 19) rfl ?_
  refine own_iconst X hx hby at_19 (v := (1 : Int32)) rfl (pc' := 20) rfl ?_
  refine own_iloadN X hx hby at_20 rfl (pc' := 21) rfl ?_
  refine own_ldcI X hx hby hZ hown (own_w hw 0 rfl) at_21 (pc' := 23) rfl ?_
  refine own_iand X hx hby at_23 (pc' := 24) rfl ?_
  refine own_iadd X hx hby at_24 (pc' := 25) rfl ?_
  refine own_istore X hx hby at_25  (Ls' := #[.val (.int p1), .val (.int p2), .val (.int p3), .val (.int p4), .val (.int ((1 : Int32) + (p1 &&& (1073741823 : Int32)))), .val (.int ((((1 : Int32) + (p1 &&& (1073741823 : Int32))) + (1 : Int32)) + (p2 &&& (536870911 : Int32)))), .val (.int ((1 : Int32) + (p3 &&& (1073741823 : Int32)))), .unset, .unset, .unset, .unset]) rfl (pc' := 27) rfl ?_
  obtain ⟨va, vb, ea, eb, hl1, hl0⟩ : ∃ va vb : Int32, va = ((1 : Int32) + (p1 &&& (1073741823 : Int32))) ∧ vb = ((((1 : Int32) + (p1 &&& (1073741823 : Int32))) + (1 : Int32)) + (p2 &&& (536870911 : Int32))) ∧ ¬ vb - (1 : Int32) < va ∧ va - (1 : Int32) < vb := ⟨_, _, rfl, rfl, own_ab p1 p2⟩
  obtain ⟨vc, ec⟩ : ∃ vc : Int32, vc = ((1 : Int32) + (p3 &&& (1073741823 : Int32))) := ⟨_, rfl⟩
  rw [← eb, ← ea, ← ec]
  refine own_iloadN X hx hby at_27 rfl (pc' := 28) rfl ?_
  refine own_iconst X hx hby at_28 (v := (1 : Int32)) rfl (pc' := 29) rfl ?_
  refine own_iand X hx hby at_29 (pc' := 30) rfl ?_
  by_cases hc30_1 : (p4 &&& (1 : Int32)) = (0 : Int32)
  · refine own_ifY X hx hby at_30 ((if0 _ _).trans (teq hc30_1).1) (by decide) (pc' := 39) (by decide) ?_
    refine own_getS X hx hby hZ hown (host := "") (Or.inl (own_w hw 5 rfl)) Via.refl eT SC at_39 (pc' := 42) rfl ?_
    intro T2 X2 e2
    refine own_astore X2 hx hby at_42 rfl (Ls' := #[.val (.int p1), .val (.int p2), .val (.int p3), .val (.int p4), .val (.int va), .val (.int vb), .val (.int vc), .val (.ref aC), .unset, .unset, .unset]) rfl (pc' := 44) rfl ?_
    refine own_aload X2 hx hby at_44 rfl rfl (pc' := 46) rfl ?_
    refine own_getS X2 hx hby hZ hown (host := "") (Or.inl (own_w hw 2 rfl)) Via.refl e2 SW at_46 (pc' := 49) rfl ?_
    intro T3 X3 e3
    refine own_acmp X3 hx hby at_49 rfl rfl (same := false) (decide_eq_false (fun q => ne_aC_aW (Value.ref.inj q))) (by decide) (pc' := 58) (by decide) ?_
    refine own_getS X3 hx hby hZ hown (host := "") (Or.inl (own_w hw 2 rfl)) Via.refl e3 SW at_58 (pc' := 61) rfl ?_
    intro T4 X4 e4
    refine own_astore X4 hx hby at_61 rfl (Ls' := #[.val (.int p1), .val (.int p2), .val (.int p3), .val (.int p4), .val (.int va), .val (.int vb), .val (.int vc), .val (.ref aC), .val (.ref aW), .unset, .unset]) rfl (pc' := 63) rfl ?_
    obtain ⟨T5, h5, X5, e5, E5, A5, D5, -, st5⟩ := newO X4 hx hZ hown (own_w hw 7 rfl) (own_w hw 8 rfl) (own_w hw 9 rfl) e4 (g := (mkF m 63 #[.val (.int p1), .val (.int p2), .val (.int p3), .val (.int p4), .val (.int va), .val (.int vb), .val (.int vc), .val (.ref aC), .val (.ref aW), .unset, .unset] [])) rfl (hb hby at_63) (by decide) (by decide)
    obtain ⟨b5, g5⟩ : ∃ z, z = h0.size := ⟨_, rfl⟩
    have ne_aW_b5 : aW ≠ b5 := Nat.ne_of_lt (g5 ▸ EW.lt)
    have ne_aC_b5 : aC ≠ b5 := Nat.ne_of_lt (g5 ▸ EC.lt)
    have ne_aD_b5 : aD ≠ b5 := Nat.ne_of_lt (g5 ▸ VD.lt)
    have E6_aW := EW.ext E5
    have E7_aC := EC.ext E5
    have F8_ordinal := OW.ext E5
    have F9_ordinal := OC.ext E5
    have S10_WORD := SW.ext E5
    have S11_COLLECTION := SC.ext E5
    have S12_DEFAULTCAPACITY_EMPTY_ELEMENTDATA := S.ext E5
    have V13_aD := VD.ext E5
    have Z5 : n0 ≤ h5.size := Nat.le_trans Z0 E5.1
    have n0_b5 : n0 ≤ b5 := g5 ▸ Z0
    rw [← g5] at A5 D5 st5
    refine own_step st5 ?_
    have F5_ids : Fld Z h5 b5 "com/example/collectary/collectary/broker/Grid" "ids" "[I" .null := D5 (Or.inr (own_w hw 19 rfl)) (ty := (.array .int)) (by decide)
    have F5_cuts : Fld Z h5 b5 "com/example/collectary/collectary/broker/Grid" "cuts" "[[I" .null := D5 (Or.inr (own_w hw 24 rfl)) (ty := (.array (.array .int))) (by decide)
    have F5_rows : Fld Z h5 b5 "com/example/collectary/collectary/broker/Grid" "rows" "Ljava/util/List;" .null := D5 (Or.inr (own_w hw 50 rfl)) (ty := (.object "java/util/List")) (by decide)
    show GoP p e below Φ (T5.setTop (mkF m 66 #[.val (.int p1), .val (.int p2), .val (.int p3), .val (.int p4), .val (.int va), .val (.int vb), .val (.int vc), .val (.ref aC), .val (.ref aW), .unset, .unset] [(.ref b5)]))
    refine own_dup X5 hx hby at_66 rfl (pc' := 67) rfl ?_
    refine own_ldcI X5 hx hby hZ hown (own_w hw 10 rfl) at_67 (pc' := 69) rfl ?_
    refine own_ldcI X5 hx hby hZ hown (own_w hw 10 rfl) at_69 (pc' := 71) rfl ?_
    refine own_callI X5 hx hby hZ (by exact hml) hown rfl (own_w hw 11 rfl) (own_w hw 12 rfl) (own_w hw 9 rfl) (own_w hw 13 rfl) (by decide) e5 1 (by decide) (by decide) (by decide) (by decide) (argsL := [(.int (2147483647 : Int32)), (.int (2147483647 : Int32))]) (rest := [(.ref b5)]) (lenOf pd__II_V rfl) rfl (Nat.le_of_eq rfl) (rmGI l Z a0 hw b5 aW aC aD (2147483647 : Int32) (2147483647 : Int32) n0 h5 n0_b5 Z5 oW oC oD A5 F5_ids F5_cuts F5_rows E6_aW E7_aC F8_ordinal F9_ordinal S10_WORD S11_COLLECTION S12_DEFAULTCAPACITY_EMPTY_ELEMENTDATA V13_aD) at_71 (pc' := 74) rfl ?_
    intro v14 T14 L14 X14 hQ14
    obtain ⟨rfl, Nq14, K14, Eg14, cu, c0, c1, rl, es, r0, n0_cu, n0_rl, n0_es, H14_0, H14_1, H14_2, H14_3, H14_4, H14_5, H14_6, H14_7, H14_8, H14_9, H14_10, H14_11, H14_12, H14_13⟩ := hQ14
    have gne_aW : aW ≠ b5 := Nat.ne_of_lt (Nat.lt_of_lt_of_le oW n0_b5)
    have gne_aC : aC ≠ b5 := Nat.ne_of_lt (Nat.lt_of_lt_of_le oC n0_b5)
    have E15_aW := E6_aW.keep K14
    have E16_aC := E7_aC.keep K14
    have F17_ordinal := F8_ordinal.keep K14 (ninS gne_aW nin0)
    have F18_ordinal := F9_ordinal.keep K14 (ninS gne_aC nin0)
    have S19_WORD := own_stakeep S10_WORD K14 (allS (own_plainE A5) all0)
    have N14 := Fr.app N0 Nq14
    have Z14 : n0 ≤ T14.heap.size := Nat.le_trans Z5 K14.1
    show GoP p e below Φ (T14.setTop (mkF m 74 #[.val (.int p1), .val (.int p2), .val (.int p3), .val (.int p4), .val (.int va), .val (.int vb), .val (.int vc), .val (.ref aC), .val (.ref aW), .unset, .unset] [(.ref b5)]))
    have ne_aW_cu : aW ≠ cu := Nat.ne_of_lt (Nat.lt_of_lt_of_le oW n0_cu)
    have ne_aW_rl : aW ≠ rl := Nat.ne_of_lt (Nat.lt_of_lt_of_le oW n0_rl)
    have ne_aW_es : aW ≠ es := Nat.ne_of_lt (Nat.lt_of_lt_of_le oW n0_es)
    have ne_aC_cu : aC ≠ cu := Nat.ne_of_lt (Nat.lt_of_lt_of_le oC n0_cu)
    have ne_aC_rl : aC ≠ rl := Nat.ne_of_lt (Nat.lt_of_lt_of_le oC n0_rl)
    have ne_aC_es : aC ≠ es := Nat.ne_of_lt (Nat.lt_of_lt_of_le oC n0_es)
    refine own_astore X14 hx hby at_74 rfl (Ls' := #[.val (.int p1), .val (.int p2), .val (.int p3), .val (.int p4), .val (.int va), .val (.int vb), .val (.int vc), .val (.ref aC), .val (.ref aW), .val (.ref b5), .unset]) rfl (pc' := 76) rfl ?_
    refine own_iloadN X14 hx hby at_76 rfl (pc' := 77) rfl ?_
    refine own_iconst X14 hx hby at_77 (v := (4 : Int32)) rfl (pc' := 78) rfl ?_
    refine own_iand X14 hx hby at_78 (pc' := 79) rfl ?_
    by_cases hc79_21 : (p4 &&& (4 : Int32)) = (0 : Int32)
    · refine own_ifY X14 hx hby at_79 ((if0 _ _).trans (teq hc79_21).1) (by decide) (pc' := 86) (by decide) ?_
      refine own_iconst X14 hx hby at_86 (v := (0 : Int32)) rfl (pc' := 87) rfl ?_
      refine own_istore X14 hx hby at_87  (Ls' := #[.val (.int p1), .val (.int p2), .val (.int p3), .val (.int p4), .val (.int va), .val (.int vb), .val (.int vc), .val (.ref aC), .val (.ref aW), .val (.ref b5), .val (.int (0 : Int32))]) rfl (pc' := 89) rfl ?_
      refine own_iload X14 hx hby at_89 rfl (pc' := 91) rfl ?_
      refine own_ifY X14 hx hby at_91 ((if0 _ _).trans (teq (by decide)).1) (by decide) (pc' := 103) (by decide) ?_
      refine own_iloadN X14 hx hby at_103 rfl (pc' := 104) rfl ?_
      refine own_iconst X14 hx hby at_104 (v := (2 : Int32)) rfl (pc' := 105) rfl ?_
      refine own_iand X14 hx hby at_105 (pc' := 106) rfl ?_
      by_cases hc106_22 : (p4 &&& (2 : Int32)) = (0 : Int32)
      · refine own_ifY X14 hx hby at_106 ((if0 _ _).trans (teq hc106_22).1) (by decide) (pc' := 130) (by decide) ?_
        refine own_aload X14 hx hby at_130 rfl rfl (pc' := 132) rfl ?_
        refine own_aload X14 hx hby at_132 rfl rfl (pc' := 134) rfl ?_
        refine own_iload X14 hx hby at_134 rfl (pc' := 136) rfl ?_
        refine own_callV X14 hx hby hZ (by exact hml) hown (own_w hw 97 rfl) (own_w hw 98 rfl) (own_w hw 100 rfl) (own_w hw 99 rfl) (own_w hw 9 rfl) (own_w hw 101 rfl) (by decide) rfl 0 (by decide) (by decide) (by decide) (by decide) (argsL := [(.ref aC), (.int vb)]) (rest := []) (lenOf pd__Lcom_example_collectary_collectary_broker_Grid_Axis_I_V rfl) rfl (Nat.le_of_eq rfl) Eg14 (rmCut_1_0_0_0_0 l Z a0 hw b5 aW aC cu c0 c1 rl es r0 vb (1 : Int32) n0 T14.heap n0_cu n0_rl n0_es Z14 oC  ne_aC_aW Eg14 E16_aC F18_ordinal S19_WORD H14_0 H14_1 H14_2 H14_3 H14_4 H14_5 H14_6 H14_7 H14_8 H14_9 H14_10 H14_11 H14_12 H14_13) at_136 (pc' := 139) rfl ?_
        intro v23 T23 L23 X23 hQ23
        obtain ⟨rfl, Nq23, K23, cn1, t1_0, H23_0, H23_1, H23_2, H23_3, H23_4, H23_5, H23_6, H23_7, H23_8, H23_9, H23_10, H23_11, H23_12, H23_13⟩ := hQ23
        have E24_aW := E15_aW.keep K23
        have E25_aC := E16_aC.keep K23
        have F26_ordinal := F17_ordinal.keep K23 (ninS ne_aW_cu (ninS ne_aW_rl (ninS ne_aW_es nin0)))
        have F27_ordinal := F18_ordinal.keep K23 (ninS ne_aC_cu (ninS ne_aC_rl (ninS ne_aC_es nin0)))
        have S28_WORD := own_stakeep S19_WORD K23 (allS H14_2.plain (allS (own_plainE H14_6) (allS H14_10.plain all0)))
        have E29_b5 := Eg14.keep K23
        have N23 := Fr.app N14 Nq23
        have Z23 : n0 ≤ T23.heap.size := Nat.le_trans Z14 K23.1
        show GoP p e below Φ (T23.setTop (mkF m 139 #[.val (.int p1), .val (.int p2), .val (.int p3), .val (.int p4), .val (.int va), .val (.int vb), .val (.int vc), .val (.ref aC), .val (.ref aW), .val (.ref b5), .val (.int (0 : Int32))] []))
        refine own_aload X23 hx hby at_139 rfl rfl (pc' := 141) rfl ?_
        refine own_aload X23 hx hby at_141 rfl rfl (pc' := 143) rfl ?_
        refine own_iload X23 hx hby at_143 rfl (pc' := 145) rfl ?_
        refine own_callV X23 hx hby hZ (by exact hml) hown (own_w hw 97 rfl) (own_w hw 98 rfl) (own_w hw 100 rfl) (own_w hw 99 rfl) (own_w hw 9 rfl) (own_w hw 101 rfl) (by decide) rfl 0 (by decide) (by decide) (by decide) (by decide) (argsL := [(.ref aC), (.int va)]) (rest := []) (lenOf pd__Lcom_example_collectary_collectary_broker_Grid_Axis_I_V rfl) rfl (Nat.le_of_eq rfl) E29_b5 (rmCut_1_1_0_0_1 l Z a0 hw b5 aW aC cu c0 cn1 rl es t1_0 va vb (1 : Int32) n0 T23.heap n0_cu n0_rl n0_es Z23 oC hl0 ne_aC_aW E29_b5 E25_aC F27_ordinal S28_WORD H23_0 H23_1 H23_2 H23_3 H23_4 H23_5 H23_6 H23_7 H23_8 H23_9 H23_10 H23_11 H23_12 H23_13) at_145 (pc' := 148) rfl ?_
        intro v30 T30 L30 X30 hQ30
        obtain ⟨rfl, Nq30, K30, cn2, t2_0, H30_0, H30_1, H30_2, H30_3, H30_4, H30_5, H30_6, H30_7, H30_8, H30_9, H30_10, H30_11, H30_12, H30_13⟩ := hQ30
        have E31_aW := E24_aW.keep K30
        have E32_aC := E25_aC.keep K30
        have F33_ordinal := F26_ordinal.keep K30 (ninS ne_aW_cu (ninS ne_aW_rl (ninS ne_aW_es nin0)))
        have F34_ordinal := F27_ordinal.keep K30 (ninS ne_aC_cu (ninS ne_aC_rl (ninS ne_aC_es nin0)))
        have S35_WORD := own_stakeep S28_WORD K30 (allS H23_2.plain (allS (own_plainE H23_6) (allS H23_10.plain all0)))
        have E36_b5 := E29_b5.keep K30
        have N30 := Fr.app N23 Nq30
        have Z30 : n0 ≤ T30.heap.size := Nat.le_trans Z23 K30.1
        show GoP p e below Φ (T30.setTop (mkF m 148 #[.val (.int p1), .val (.int p2), .val (.int p3), .val (.int p4), .val (.int va), .val (.int vb), .val (.int vc), .val (.ref aC), .val (.ref aW), .val (.ref b5), .val (.int (0 : Int32))] []))
        refine own_iload X30 hx hby at_148 rfl (pc' := 150) rfl ?_
        refine own_ifN X30 hx hby at_150 ((if0 _ _).trans (teq (by decide)).2) (pc' := 153) rfl ?_
        refine own_aload X30 hx hby at_153 rfl rfl (pc' := 155) rfl ?_
        refine own_aload X30 hx hby at_155 rfl rfl (pc' := 157) rfl ?_
        refine own_iload X30 hx hby at_157 rfl (pc' := 159) rfl ?_
        refine own_callV X30 hx hby hZ (by exact hml) hown (own_w hw 97 rfl) (own_w hw 98 rfl) (own_w hw 100 rfl) (own_w hw 99 rfl) (own_w hw 9 rfl) (own_w hw 101 rfl) (by decide) rfl 0 (by decide) (by decide) (by decide) (by decide) (argsL := [(.ref aW), (.int vc)]) (rest := []) (lenOf pd__Lcom_example_collectary_collectary_broker_Grid_Axis_I_V rfl) rfl (Nat.le_of_eq rfl) E36_b5 (rmCut_0_0_0_0_2 l Z a0 hw b5 aW aC cu c0 cn2 rl es t2_0 vc va vb (1 : Int32) n0 T30.heap n0_cu n0_rl n0_es Z30 oW   E36_b5 E31_aW F33_ordinal S35_WORD H30_0 H30_1 H30_2 H30_3 H30_4 H30_5 H30_6 H30_7 H30_8 H30_9 H30_10 H30_11 H30_12 H30_13) at_159 (pc' := 162) rfl ?_
        intro v37 T37 L37 X37 hQ37
        obtain ⟨rfl, Nq37, K37, cn3, rn3, H37_0, H37_1, H37_2, H37_3, H37_4, H37_5, H37_6, H37_7, H37_8, H37_9, H37_10, H37_11, H37_12, H37_13, H37_14, H37_15⟩ := hQ37
        have E38_aW := E31_aW.keep K37
        have E39_aC := E32_aC.keep K37
        have F40_ordinal := F33_ordinal.keep K37 (ninS ne_aW_cu (ninS ne_aW_rl (ninS ne_aW_es nin0)))
        have F41_ordinal := F34_ordinal.keep K37 (ninS ne_aC_cu (ninS ne_aC_rl (ninS ne_aC_es nin0)))
        have S42_WORD := own_stakeep S35_WORD K37 (allS H30_2.plain (allS (own_plainE H30_6) (allS H30_10.plain all0)))
        have E43_b5 := E36_b5.keep K37
        have N37 := Fr.app N30 Nq37
        have Z37 : n0 ≤ T37.heap.size := Nat.le_trans Z30 K37.1
        show GoP p e below Φ (T37.setTop (mkF m 162 #[.val (.int p1), .val (.int p2), .val (.int p3), .val (.int p4), .val (.int va), .val (.int vb), .val (.int vc), .val (.ref aC), .val (.ref aW), .val (.ref b5), .val (.int (0 : Int32))] []))
        refine own_aload X37 hx hby at_162 rfl rfl (pc' := 164) rfl ?_
        refine own_aload X37 hx hby at_164 rfl rfl (pc' := 166) rfl ?_
        refine own_iconst X37 hx hby at_166 (v := (0 : Int32)) rfl (pc' := 167) rfl ?_
        refine own_callV X37 hx hby hZ (by exact hml) hown (own_w hw 176 rfl) (own_w hw 177 rfl) (own_w hw 179 rfl) (own_w hw 178 rfl) (own_w hw 9 rfl) (own_w hw 180 rfl) (by decide) rfl 0 (by decide) (by decide) (by decide) (by decide) (argsL := [(.ref aC), (.int (0 : Int32))]) (rest := []) (lenOf pd__Lcom_example_collectary_collectary_broker_Grid_Axis_I_I rfl) rfl (Nat.le_of_eq rfl) E43_b5 (rmSt1_2_0 l Z a0 hw b5 aC cu cn3 cn2 va vb T37.heap E39_aC F41_ordinal H37_0 H37_2 H37_5) at_167 (pc' := 170) rfl ?_
        intro v44 T44 L44 X44 hQ44
        obtain ⟨rfl, rfl, e44⟩ := hQ44
        rw [List.append_nil] at X44
        replace e44 : T44.heap = T37.heap := e44
        show GoP p e below Φ (T44.setTop (mkF m 170 #[.val (.int p1), .val (.int p2), .val (.int p3), .val (.int p4), .val (.int va), .val (.int vb), .val (.int vc), .val (.ref aC), .val (.ref aW), .val (.ref b5), .val (.int (0 : Int32))] [(.int (0 : Int32))]))
        refine own_ifN X44 hx hby at_170 ((if0 _ _).trans (teq (by decide)).2) (pc' := 173) rfl ?_
        refine own_aload X44 hx hby at_173 rfl rfl (pc' := 175) rfl ?_
        refine own_aload X44 hx hby at_175 rfl rfl (pc' := 177) rfl ?_
        refine own_iconst X44 hx hby at_177 (v := (1 : Int32)) rfl (pc' := 178) rfl ?_
        refine own_callV X44 hx hby hZ (by exact hml) hown (own_w hw 176 rfl) (own_w hw 177 rfl) (own_w hw 179 rfl) (own_w hw 178 rfl) (own_w hw 9 rfl) (own_w hw 180 rfl) (by decide) e44 0 (by decide) (by decide) (by decide) (by decide) (argsL := [(.ref aC), (.int (1 : Int32))]) (rest := []) (lenOf pd__Lcom_example_collectary_collectary_broker_Grid_Axis_I_I rfl) rfl (Nat.le_of_eq rfl) E43_b5 (rmSt1_2_1 l Z a0 hw b5 aC cu cn3 cn2 va vb T37.heap E39_aC F41_ordinal H37_0 H37_2 H37_5) at_178 (pc' := 181) rfl ?_
        intro v45 T45 L45 X45 hQ45
        obtain ⟨rfl, rfl, e45⟩ := hQ45
        rw [List.append_nil] at X45
        replace e45 : T45.heap = T37.heap := e45
        show GoP p e below Φ (T45.setTop (mkF m 181 #[.val (.int p1), .val (.int p2), .val (.int p3), .val (.int p4), .val (.int va), .val (.int vb), .val (.int vc), .val (.ref aC), .val (.ref aW), .val (.ref b5), .val (.int (0 : Int32))] [(.int va)]))
        refine own_iload X45 hx hby at_181 rfl (pc' := 183) rfl ?_
        refine own_icmpN X45 hx hby at_183 (teq rfl).2 (pc' := 186) rfl ?_
        refine own_aload X45 hx hby at_186 rfl rfl (pc' := 188) rfl ?_
        refine own_aload X45 hx hby at_188 rfl rfl (pc' := 190) rfl ?_
        refine own_iconst X45 hx hby at_190 (v := (2 : Int32)) rfl (pc' := 191) rfl ?_
        refine own_callV X45 hx hby hZ (by exact hml) hown (own_w hw 176 rfl) (own_w hw 177 rfl) (own_w hw 179 rfl) (own_w hw 178 rfl) (own_w hw 9 rfl) (own_w hw 180 rfl) (by decide) e45 0 (by decide) (by decide) (by decide) (by decide) (argsL := [(.ref aC), (.int (2 : Int32))]) (rest := []) (lenOf pd__Lcom_example_collectary_collectary_broker_Grid_Axis_I_I rfl) rfl (Nat.le_of_eq rfl) E43_b5 (rmSt1_2_2 l Z a0 hw b5 aC cu cn3 cn2 va vb T37.heap E39_aC F41_ordinal H37_0 H37_2 H37_5) at_191 (pc' := 194) rfl ?_
        intro v46 T46 L46 X46 hQ46
        obtain ⟨rfl, rfl, e46⟩ := hQ46
        rw [List.append_nil] at X46
        replace e46 : T46.heap = T37.heap := e46
        show GoP p e below Φ (T46.setTop (mkF m 194 #[.val (.int p1), .val (.int p2), .val (.int p3), .val (.int p4), .val (.int va), .val (.int vb), .val (.int vc), .val (.ref aC), .val (.ref aW), .val (.ref b5), .val (.int (0 : Int32))] [(.int vb)]))
        refine own_iload X46 hx hby at_194 rfl (pc' := 196) rfl ?_
        refine own_icmpN X46 hx hby at_196 (teq rfl).2 (pc' := 199) rfl ?_
        refine own_aload X46 hx hby at_199 rfl rfl (pc' := 201) rfl ?_
        refine own_aload X46 hx hby at_201 rfl rfl (pc' := 203) rfl ?_
        refine own_iconst X46 hx hby at_203 (v := (0 : Int32)) rfl (pc' := 204) rfl ?_
        refine own_callV X46 hx hby hZ (by exact hml) hown (own_w hw 176 rfl) (own_w hw 177 rfl) (own_w hw 179 rfl) (own_w hw 178 rfl) (own_w hw 9 rfl) (own_w hw 180 rfl) (by decide) e46 0 (by decide) (by decide) (by decide) (by decide) (argsL := [(.ref aW), (.int (0 : Int32))]) (rest := []) (lenOf pd__Lcom_example_collectary_collectary_broker_Grid_Axis_I_I rfl) rfl (Nat.le_of_eq rfl) E43_b5 (rmSt0_1_0 l Z a0 hw b5 aW cu cn3 cn2 vc T37.heap E38_aW F40_ordinal H37_0 H37_2 H37_4) at_204 (pc' := 207) rfl ?_
        intro v47 T47 L47 X47 hQ47
        obtain ⟨rfl, rfl, e47⟩ := hQ47
        rw [List.append_nil] at X47
        replace e47 : T47.heap = T37.heap := e47
        show GoP p e below Φ (T47.setTop (mkF m 207 #[.val (.int p1), .val (.int p2), .val (.int p3), .val (.int p4), .val (.int va), .val (.int vb), .val (.int vc), .val (.ref aC), .val (.ref aW), .val (.ref b5), .val (.int (0 : Int32))] [(.int (0 : Int32))]))
        refine own_ifN X47 hx hby at_207 ((if0 _ _).trans (teq (by decide)).2) (pc' := 210) rfl ?_
        refine own_aload X47 hx hby at_210 rfl rfl (pc' := 212) rfl ?_
        refine own_aload X47 hx hby at_212 rfl rfl (pc' := 214) rfl ?_
        refine own_iconst X47 hx hby at_214 (v := (1 : Int32)) rfl (pc' := 215) rfl ?_
        refine own_callV X47 hx hby hZ (by exact hml) hown (own_w hw 176 rfl) (own_w hw 177 rfl) (own_w hw 179 rfl) (own_w hw 178 rfl) (own_w hw 9 rfl) (own_w hw 180 rfl) (by decide) e47 0 (by decide) (by decide) (by decide) (by decide) (argsL := [(.ref aW), (.int (1 : Int32))]) (rest := []) (lenOf pd__Lcom_example_collectary_collectary_broker_Grid_Axis_I_I rfl) rfl (Nat.le_of_eq rfl) E43_b5 (rmSt0_1_1 l Z a0 hw b5 aW cu cn3 cn2 vc T37.heap E38_aW F40_ordinal H37_0 H37_2 H37_4) at_215 (pc' := 218) rfl ?_
        intro v48 T48 L48 X48 hQ48
        obtain ⟨rfl, rfl, e48⟩ := hQ48
        rw [List.append_nil] at X48
        replace e48 : T48.heap = T37.heap := e48
        show GoP p e below Φ (T48.setTop (mkF m 218 #[.val (.int p1), .val (.int p2), .val (.int p3), .val (.int p4), .val (.int va), .val (.int vb), .val (.int vc), .val (.ref aC), .val (.ref aW), .val (.ref b5), .val (.int (0 : Int32))] [(.int vc)]))
        refine own_iload X48 hx hby at_218 rfl (pc' := 220) rfl ?_
        refine own_icmpN X48 hx hby at_220 (teq rfl).2 (pc' := 223) rfl ?_
        refine own_iconst X48 hx hby at_223 (v := (1 : Int32)) rfl (pc' := 224) rfl ?_
        refine own_goto X48 hx hby at_224 (by decide) (pc' := 228) (by decide) ?_
        exact own_retN X48 hx hby fin hret (by simp) rfl at_228 (by decide) (by decide) ⟨rfl, N37⟩
      · refine own_ifN X14 hx hby at_106 ((if0 _ _).trans (feq hc106_22).1) (pc' := 109) rfl ?_
        refine own_aload X14 hx hby at_109 rfl rfl (pc' := 111) rfl ?_
        refine own_aload X14 hx hby at_111 rfl rfl (pc' := 113) rfl ?_
        refine own_iload X14 hx hby at_113 rfl (pc' := 115) rfl ?_
        refine own_callV X14 hx hby hZ (by exact hml) hown (own_w hw 97 rfl) (own_w hw 98 rfl) (own_w hw 100 rfl) (own_w hw 99 rfl) (own_w hw 9 rfl) (own_w hw 101 rfl) (by decide) rfl 0 (by decide) (by decide) (by decide) (by decide) (argsL := [(.ref aC), (.int va)]) (rest := []) (lenOf pd__Lcom_example_collectary_collectary_broker_Grid_Axis_I_V rfl) rfl (Nat.le_of_eq rfl) Eg14 (rmCut_1_0_0_0_0 l Z a0 hw b5 aW aC cu c0 c1 rl es r0 va (1 : Int32) n0 T14.heap n0_cu n0_rl n0_es Z14 oC  ne_aC_aW Eg14 E16_aC F18_ordinal S19_WORD H14_0 H14_1 H14_2 H14_3 H14_4 H14_5 H14_6 H14_7 H14_8 H14_9 H14_10 H14_11 H14_12 H14_13) at_115 (pc' := 118) rfl ?_
        intro v49 T49 L49 X49 hQ49
        obtain ⟨rfl, Nq49, K49, cn4, t4_0, H49_0, H49_1, H49_2, H49_3, H49_4, H49_5, H49_6, H49_7, H49_8, H49_9, H49_10, H49_11, H49_12, H49_13⟩ := hQ49
        have E50_aW := E15_aW.keep K49
        have E51_aC := E16_aC.keep K49
        have F52_ordinal := F17_ordinal.keep K49 (ninS ne_aW_cu (ninS ne_aW_rl (ninS ne_aW_es nin0)))
        have F53_ordinal := F18_ordinal.keep K49 (ninS ne_aC_cu (ninS ne_aC_rl (ninS ne_aC_es nin0)))
        have S54_WORD := own_stakeep S19_WORD K49 (allS H14_2.plain (allS (own_plainE H14_6) (allS H14_10.plain all0)))
        have E55_b5 := Eg14.keep K49
        have N49 := Fr.app N14 Nq49
        have Z49 : n0 ≤ T49.heap.size := Nat.le_trans Z14 K49.1
        show GoP p e below Φ (T49.setTop (mkF m 118 #[.val (.int p1), .val (.int p2), .val (.int p3), .val (.int p4), .val (.int va), .val (.int vb), .val (.int vc), .val (.ref aC), .val (.ref aW), .val (.ref b5), .val (.int (0 : Int32))] []))
        refine own_aload X49 hx hby at_118 rfl rfl (pc' := 120) rfl ?_
        refine own_aload X49 hx hby at_120 rfl rfl (pc' := 122) rfl ?_
        refine own_iload X49 hx hby at_122 rfl (pc' := 124) rfl ?_
        refine own_callV X49 hx hby hZ (by exact hml) hown (own_w hw 97 rfl) (own_w hw 98 rfl) (own_w hw 100 rfl) (own_w hw 99 rfl) (own_w hw 9 rfl) (own_w hw 101 rfl) (by decide) rfl 0 (by decide) (by decide) (by decide) (by decide) (argsL := [(.ref aC), (.int vb)]) (rest := []) (lenOf pd__Lcom_example_collectary_collectary_broker_Grid_Axis_I_V rfl) rfl (Nat.le_of_eq rfl) E55_b5 (rmCut_1_1_1_0_1 l Z a0 hw b5 aW aC cu c0 cn4 rl es t4_0 vb va (1 : Int32) n0 T49.heap n0_cu n0_rl n0_es Z49 oC hl1 ne_aC_aW E55_b5 E51_aC F53_ordinal S54_WORD H49_0 H49_1 H49_2 H49_3 H49_4 H49_5 H49_6 H49_7 H49_8 H49_9 H49_10 H49_11 H49_12 H49_13) at_124 (pc' := 127) rfl ?_
        intro v56 T56 L56 X56 hQ56
        obtain ⟨rfl, Nq56, K56, cn5, t5_0, H56_0, H56_1, H56_2, H56_3, H56_4, H56_5, H56_6, H56_7, H56_8, H56_9, H56_10, H56_11, H56_12, H56_13⟩ := hQ56
        have E57_aW := E50_aW.keep K56
        have E58_aC := E51_aC.keep K56
        have F59_ordinal := F52_ordinal.keep K56 (ninS ne_aW_cu (ninS ne_aW_rl (ninS ne_aW_es nin0)))
        have F60_ordinal := F53_ordinal.keep K56 (ninS ne_aC_cu (ninS ne_aC_rl (ninS ne_aC_es nin0)))
        have S61_WORD := own_stakeep S54_WORD K56 (allS H49_2.plain (allS (own_plainE H49_6) (allS H49_10.plain all0)))
        have E62_b5 := E55_b5.keep K56
        have N56 := Fr.app N49 Nq56
        have Z56 : n0 ≤ T56.heap.size := Nat.le_trans Z49 K56.1
        show GoP p e below Φ (T56.setTop (mkF m 127 #[.val (.int p1), .val (.int p2), .val (.int p3), .val (.int p4), .val (.int va), .val (.int vb), .val (.int vc), .val (.ref aC), .val (.ref aW), .val (.ref b5), .val (.int (0 : Int32))] []))
        refine own_goto X56 hx hby at_127 (by decide) (pc' := 148) (by decide) ?_
        refine own_iload X56 hx hby at_148 rfl (pc' := 150) rfl ?_
        refine own_ifN X56 hx hby at_150 ((if0 _ _).trans (teq (by decide)).2) (pc' := 153) rfl ?_
        refine own_aload X56 hx hby at_153 rfl rfl (pc' := 155) rfl ?_
        refine own_aload X56 hx hby at_155 rfl rfl (pc' := 157) rfl ?_
        refine own_iload X56 hx hby at_157 rfl (pc' := 159) rfl ?_
        refine own_callV X56 hx hby hZ (by exact hml) hown (own_w hw 97 rfl) (own_w hw 98 rfl) (own_w hw 100 rfl) (own_w hw 99 rfl) (own_w hw 9 rfl) (own_w hw 101 rfl) (by decide) rfl 0 (by decide) (by decide) (by decide) (by decide) (argsL := [(.ref aW), (.int vc)]) (rest := []) (lenOf pd__Lcom_example_collectary_collectary_broker_Grid_Axis_I_V rfl) rfl (Nat.le_of_eq rfl) E62_b5 (rmCut_0_0_0_0_2 l Z a0 hw b5 aW aC cu c0 cn5 rl es t5_0 vc va vb (1 : Int32) n0 T56.heap n0_cu n0_rl n0_es Z56 oW   E62_b5 E57_aW F59_ordinal S61_WORD H56_0 H56_1 H56_2 H56_3 H56_4 H56_5 H56_6 H56_7 H56_8 H56_9 H56_10 H56_11 H56_12 H56_13) at_159 (pc' := 162) rfl ?_
        intro v63 T63 L63 X63 hQ63
        obtain ⟨rfl, Nq63, K63, cn6, rn6, H63_0, H63_1, H63_2, H63_3, H63_4, H63_5, H63_6, H63_7, H63_8, H63_9, H63_10, H63_11, H63_12, H63_13, H63_14, H63_15⟩ := hQ63
        have E64_aW := E57_aW.keep K63
        have E65_aC := E58_aC.keep K63
        have F66_ordinal := F59_ordinal.keep K63 (ninS ne_aW_cu (ninS ne_aW_rl (ninS ne_aW_es nin0)))
        have F67_ordinal := F60_ordinal.keep K63 (ninS ne_aC_cu (ninS ne_aC_rl (ninS ne_aC_es nin0)))
        have S68_WORD := own_stakeep S61_WORD K63 (allS H56_2.plain (allS (own_plainE H56_6) (allS H56_10.plain all0)))
        have E69_b5 := E62_b5.keep K63
        have N63 := Fr.app N56 Nq63
        have Z63 : n0 ≤ T63.heap.size := Nat.le_trans Z56 K63.1
        show GoP p e below Φ (T63.setTop (mkF m 162 #[.val (.int p1), .val (.int p2), .val (.int p3), .val (.int p4), .val (.int va), .val (.int vb), .val (.int vc), .val (.ref aC), .val (.ref aW), .val (.ref b5), .val (.int (0 : Int32))] []))
        refine own_aload X63 hx hby at_162 rfl rfl (pc' := 164) rfl ?_
        refine own_aload X63 hx hby at_164 rfl rfl (pc' := 166) rfl ?_
        refine own_iconst X63 hx hby at_166 (v := (0 : Int32)) rfl (pc' := 167) rfl ?_
        refine own_callV X63 hx hby hZ (by exact hml) hown (own_w hw 176 rfl) (own_w hw 177 rfl) (own_w hw 179 rfl) (own_w hw 178 rfl) (own_w hw 9 rfl) (own_w hw 180 rfl) (by decide) rfl 0 (by decide) (by decide) (by decide) (by decide) (argsL := [(.ref aC), (.int (0 : Int32))]) (rest := []) (lenOf pd__Lcom_example_collectary_collectary_broker_Grid_Axis_I_I rfl) rfl (Nat.le_of_eq rfl) E69_b5 (rmSt1_2_0 l Z a0 hw b5 aC cu cn6 cn5 va vb T63.heap E65_aC F67_ordinal H63_0 H63_2 H63_5) at_167 (pc' := 170) rfl ?_
        intro v70 T70 L70 X70 hQ70
        obtain ⟨rfl, rfl, e70⟩ := hQ70
        rw [List.append_nil] at X70
        replace e70 : T70.heap = T63.heap := e70
        show GoP p e below Φ (T70.setTop (mkF m 170 #[.val (.int p1), .val (.int p2), .val (.int p3), .val (.int p4), .val (.int va), .val (.int vb), .val (.int vc), .val (.ref aC), .val (.ref aW), .val (.ref b5), .val (.int (0 : Int32))] [(.int (0 : Int32))]))
        refine own_ifN X70 hx hby at_170 ((if0 _ _).trans (teq (by decide)).2) (pc' := 173) rfl ?_
        refine own_aload X70 hx hby at_173 rfl rfl (pc' := 175) rfl ?_
        refine own_aload X70 hx hby at_175 rfl rfl (pc' := 177) rfl ?_
        refine own_iconst X70 hx hby at_177 (v := (1 : Int32)) rfl (pc' := 178) rfl ?_
        refine own_callV X70 hx hby hZ (by exact hml) hown (own_w hw 176 rfl) (own_w hw 177 rfl) (own_w hw 179 rfl) (own_w hw 178 rfl) (own_w hw 9 rfl) (own_w hw 180 rfl) (by decide) e70 0 (by decide) (by decide) (by decide) (by decide) (argsL := [(.ref aC), (.int (1 : Int32))]) (rest := []) (lenOf pd__Lcom_example_collectary_collectary_broker_Grid_Axis_I_I rfl) rfl (Nat.le_of_eq rfl) E69_b5 (rmSt1_2_1 l Z a0 hw b5 aC cu cn6 cn5 va vb T63.heap E65_aC F67_ordinal H63_0 H63_2 H63_5) at_178 (pc' := 181) rfl ?_
        intro v71 T71 L71 X71 hQ71
        obtain ⟨rfl, rfl, e71⟩ := hQ71
        rw [List.append_nil] at X71
        replace e71 : T71.heap = T63.heap := e71
        show GoP p e below Φ (T71.setTop (mkF m 181 #[.val (.int p1), .val (.int p2), .val (.int p3), .val (.int p4), .val (.int va), .val (.int vb), .val (.int vc), .val (.ref aC), .val (.ref aW), .val (.ref b5), .val (.int (0 : Int32))] [(.int va)]))
        refine own_iload X71 hx hby at_181 rfl (pc' := 183) rfl ?_
        refine own_icmpN X71 hx hby at_183 (teq rfl).2 (pc' := 186) rfl ?_
        refine own_aload X71 hx hby at_186 rfl rfl (pc' := 188) rfl ?_
        refine own_aload X71 hx hby at_188 rfl rfl (pc' := 190) rfl ?_
        refine own_iconst X71 hx hby at_190 (v := (2 : Int32)) rfl (pc' := 191) rfl ?_
        refine own_callV X71 hx hby hZ (by exact hml) hown (own_w hw 176 rfl) (own_w hw 177 rfl) (own_w hw 179 rfl) (own_w hw 178 rfl) (own_w hw 9 rfl) (own_w hw 180 rfl) (by decide) e71 0 (by decide) (by decide) (by decide) (by decide) (argsL := [(.ref aC), (.int (2 : Int32))]) (rest := []) (lenOf pd__Lcom_example_collectary_collectary_broker_Grid_Axis_I_I rfl) rfl (Nat.le_of_eq rfl) E69_b5 (rmSt1_2_2 l Z a0 hw b5 aC cu cn6 cn5 va vb T63.heap E65_aC F67_ordinal H63_0 H63_2 H63_5) at_191 (pc' := 194) rfl ?_
        intro v72 T72 L72 X72 hQ72
        obtain ⟨rfl, rfl, e72⟩ := hQ72
        rw [List.append_nil] at X72
        replace e72 : T72.heap = T63.heap := e72
        show GoP p e below Φ (T72.setTop (mkF m 194 #[.val (.int p1), .val (.int p2), .val (.int p3), .val (.int p4), .val (.int va), .val (.int vb), .val (.int vc), .val (.ref aC), .val (.ref aW), .val (.ref b5), .val (.int (0 : Int32))] [(.int vb)]))
        refine own_iload X72 hx hby at_194 rfl (pc' := 196) rfl ?_
        refine own_icmpN X72 hx hby at_196 (teq rfl).2 (pc' := 199) rfl ?_
        refine own_aload X72 hx hby at_199 rfl rfl (pc' := 201) rfl ?_
        refine own_aload X72 hx hby at_201 rfl rfl (pc' := 203) rfl ?_
        refine own_iconst X72 hx hby at_203 (v := (0 : Int32)) rfl (pc' := 204) rfl ?_
        refine own_callV X72 hx hby hZ (by exact hml) hown (own_w hw 176 rfl) (own_w hw 177 rfl) (own_w hw 179 rfl) (own_w hw 178 rfl) (own_w hw 9 rfl) (own_w hw 180 rfl) (by decide) e72 0 (by decide) (by decide) (by decide) (by decide) (argsL := [(.ref aW), (.int (0 : Int32))]) (rest := []) (lenOf pd__Lcom_example_collectary_collectary_broker_Grid_Axis_I_I rfl) rfl (Nat.le_of_eq rfl) E69_b5 (rmSt0_1_0 l Z a0 hw b5 aW cu cn6 cn5 vc T63.heap E64_aW F66_ordinal H63_0 H63_2 H63_4) at_204 (pc' := 207) rfl ?_
        intro v73 T73 L73 X73 hQ73
        obtain ⟨rfl, rfl, e73⟩ := hQ73
        rw [List.append_nil] at X73
        replace e73 : T73.heap = T63.heap := e73
        show GoP p e below Φ (T73.setTop (mkF m 207 #[.val (.int p1), .val (.int p2), .val (.int p3), .val (.int p4), .val (.int va), .val (.int vb), .val (.int vc), .val (.ref aC), .val (.ref aW), .val (.ref b5), .val (.int (0 : Int32))] [(.int (0 : Int32))]))
        refine own_ifN X73 hx hby at_207 ((if0 _ _).trans (teq (by decide)).2) (pc' := 210) rfl ?_
        refine own_aload X73 hx hby at_210 rfl rfl (pc' := 212) rfl ?_
        refine own_aload X73 hx hby at_212 rfl rfl (pc' := 214) rfl ?_
        refine own_iconst X73 hx hby at_214 (v := (1 : Int32)) rfl (pc' := 215) rfl ?_
        refine own_callV X73 hx hby hZ (by exact hml) hown (own_w hw 176 rfl) (own_w hw 177 rfl) (own_w hw 179 rfl) (own_w hw 178 rfl) (own_w hw 9 rfl) (own_w hw 180 rfl) (by decide) e73 0 (by decide) (by decide) (by decide) (by decide) (argsL := [(.ref aW), (.int (1 : Int32))]) (rest := []) (lenOf pd__Lcom_example_collectary_collectary_broker_Grid_Axis_I_I rfl) rfl (Nat.le_of_eq rfl) E69_b5 (rmSt0_1_1 l Z a0 hw b5 aW cu cn6 cn5 vc T63.heap E64_aW F66_ordinal H63_0 H63_2 H63_4) at_215 (pc' := 218) rfl ?_
        intro v74 T74 L74 X74 hQ74
        obtain ⟨rfl, rfl, e74⟩ := hQ74
        rw [List.append_nil] at X74
        replace e74 : T74.heap = T63.heap := e74
        show GoP p e below Φ (T74.setTop (mkF m 218 #[.val (.int p1), .val (.int p2), .val (.int p3), .val (.int p4), .val (.int va), .val (.int vb), .val (.int vc), .val (.ref aC), .val (.ref aW), .val (.ref b5), .val (.int (0 : Int32))] [(.int vc)]))
        refine own_iload X74 hx hby at_218 rfl (pc' := 220) rfl ?_
        refine own_icmpN X74 hx hby at_220 (teq rfl).2 (pc' := 223) rfl ?_
        refine own_iconst X74 hx hby at_223 (v := (1 : Int32)) rfl (pc' := 224) rfl ?_
        refine own_goto X74 hx hby at_224 (by decide) (pc' := 228) (by decide) ?_
        exact own_retN X74 hx hby fin hret (by simp) rfl at_228 (by decide) (by decide) ⟨rfl, N63⟩
    · refine own_ifN X14 hx hby at_79 ((if0 _ _).trans (feq hc79_21).1) (pc' := 82) rfl ?_
      refine own_iconst X14 hx hby at_82 (v := (1 : Int32)) rfl (pc' := 83) rfl ?_
      refine own_goto X14 hx hby at_83 (by decide) (pc' := 87) (by decide) ?_
      refine own_istore X14 hx hby at_87  (Ls' := #[.val (.int p1), .val (.int p2), .val (.int p3), .val (.int p4), .val (.int va), .val (.int vb), .val (.int vc), .val (.ref aC), .val (.ref aW), .val (.ref b5), .val (.int (1 : Int32))]) rfl (pc' := 89) rfl ?_
      refine own_iload X14 hx hby at_89 rfl (pc' := 91) rfl ?_
      refine own_ifN X14 hx hby at_91 ((if0 _ _).trans (feq (by decide)).1) (pc' := 94) rfl ?_
      refine own_aload X14 hx hby at_94 rfl rfl (pc' := 96) rfl ?_
      refine own_aload X14 hx hby at_96 rfl rfl (pc' := 98) rfl ?_
      refine own_iload X14 hx hby at_98 rfl (pc' := 100) rfl ?_
      refine own_callV X14 hx hby hZ (by exact hml) hown (own_w hw 97 rfl) (own_w hw 98 rfl) (own_w hw 100 rfl) (own_w hw 99 rfl) (own_w hw 9 rfl) (own_w hw 101 rfl) (by decide) rfl 0 (by decide) (by decide) (by decide) (by decide) (argsL := [(.ref aW), (.int vc)]) (rest := []) (lenOf pd__Lcom_example_collectary_collectary_broker_Grid_Axis_I_V rfl) rfl (Nat.le_of_eq rfl) Eg14 (rmCut_0_0_0_0_0 l Z a0 hw b5 aW aC cu c0 c1 rl es r0 vc (1 : Int32) n0 T14.heap n0_cu n0_rl n0_es Z14 oW   Eg14 E15_aW F17_ordinal S19_WORD H14_0 H14_1 H14_2 H14_3 H14_4 H14_5 H14_6 H14_7 H14_8 H14_9 H14_10 H14_11 H14_12 H14_13) at_100 (pc' := 103) rfl ?_
      intro v75 T75 L75 X75 hQ75
      obtain ⟨rfl, Nq75, K75, cn7, rn7, H75_0, H75_1, H75_2, H75_3, H75_4, H75_5, H75_6, H75_7, H75_8, H75_9, H75_10, H75_11, H75_12, H75_13, H75_14, H75_15⟩ := hQ75
      have E76_aW := E15_aW.keep K75
      have E77_aC := E16_aC.keep K75
      have F78_ordinal := F17_ordinal.keep K75 (ninS ne_aW_cu (ninS ne_aW_rl (ninS ne_aW_es nin0)))
      have F79_ordinal := F18_ordinal.keep K75 (ninS ne_aC_cu (ninS ne_aC_rl (ninS ne_aC_es nin0)))
      have S80_WORD := own_stakeep S19_WORD K75 (allS H14_2.plain (allS (own_plainE H14_6) (allS H14_10.plain all0)))
      have E81_b5 := Eg14.keep K75
      have N75 := Fr.app N14 Nq75
      have Z75 : n0 ≤ T75.heap.size := Nat.le_trans Z14 K75.1
      show GoP p e below Φ (T75.setTop (mkF m 103 #[.val (.int p1), .val (.int p2), .val (.int p3), .val (.int p4), .val (.int va), .val (.int vb), .val (.int vc), .val (.ref aC), .val (.ref aW), .val (.ref b5), .val (.int (1 : Int32))] []))
      refine own_iloadN X75 hx hby at_103 rfl (pc' := 104) rfl ?_
      refine own_iconst X75 hx hby at_104 (v := (2 : Int32)) rfl (pc' := 105) rfl ?_
      refine own_iand X75 hx hby at_105 (pc' := 106) rfl ?_
      by_cases hc106_82 : (p4 &&& (2 : Int32)) = (0 : Int32)
      · refine own_ifY X75 hx hby at_106 ((if0 _ _).trans (teq hc106_82).1) (by decide) (pc' := 130) (by decide) ?_
        refine own_aload X75 hx hby at_130 rfl rfl (pc' := 132) rfl ?_
        refine own_aload X75 hx hby at_132 rfl rfl (pc' := 134) rfl ?_
        refine own_iload X75 hx hby at_134 rfl (pc' := 136) rfl ?_
        refine own_callV X75 hx hby hZ (by exact hml) hown (own_w hw 97 rfl) (own_w hw 98 rfl) (own_w hw 100 rfl) (own_w hw 99 rfl) (own_w hw 9 rfl) (own_w hw 101 rfl) (by decide) rfl 0 (by decide) (by decide) (by decide) (by decide) (argsL := [(.ref aC), (.int vb)]) (rest := []) (lenOf pd__Lcom_example_collectary_collectary_broker_Grid_Axis_I_V rfl) rfl (Nat.le_of_eq rfl) E81_b5 (rmCut_1_0_0_1_0 l Z a0 hw b5 aW aC cu cn7 c1 rl es r0 rn7 vb vc ((1 : Int32) + (1 : Int32)) n0 T75.heap n0_cu n0_rl n0_es Z75 oC  ne_aC_aW E81_b5 E77_aC F79_ordinal S80_WORD H75_0 H75_1 H75_2 H75_3 H75_4 H75_5 H75_6 H75_7 H75_8 H75_9 H75_10 H75_11 H75_12 H75_13 H75_14 H75_15) at_136 (pc' := 139) rfl ?_
        intro v83 T83 L83 X83 hQ83
        obtain ⟨rfl, Nq83, K83, cn8, t8_0, t8_1, H83_0, H83_1, H83_2, H83_3, H83_4, H83_5, H83_6, H83_7, H83_8, H83_9, H83_10, H83_11, H83_12, H83_13, H83_14, H83_15⟩ := hQ83
        have E84_aW := E76_aW.keep K83
        have E85_aC := E77_aC.keep K83
        have F86_ordinal := F78_ordinal.keep K83 (ninS ne_aW_cu (ninS ne_aW_rl (ninS ne_aW_es nin0)))
        have F87_ordinal := F79_ordinal.keep K83 (ninS ne_aC_cu (ninS ne_aC_rl (ninS ne_aC_es nin0)))
        have S88_WORD := own_stakeep S80_WORD K83 (allS H75_2.plain (allS (own_plainE H75_6) (allS H75_10.plain all0)))
        have E89_b5 := E81_b5.keep K83
        have N83 := Fr.app N75 Nq83
        have Z83 : n0 ≤ T83.heap.size := Nat.le_trans Z75 K83.1
        show GoP p e below Φ (T83.setTop (mkF m 139 #[.val (.int p1), .val (.int p2), .val (.int p3), .val (.int p4), .val (.int va), .val (.int vb), .val (.int vc), .val (.ref aC), .val (.ref aW), .val (.ref b5), .val (.int (1 : Int32))] []))
        refine own_aload X83 hx hby at_139 rfl rfl (pc' := 141) rfl ?_
        refine own_aload X83 hx hby at_141 rfl rfl (pc' := 143) rfl ?_
        refine own_iload X83 hx hby at_143 rfl (pc' := 145) rfl ?_
        refine own_callV X83 hx hby hZ (by exact hml) hown (own_w hw 97 rfl) (own_w hw 98 rfl) (own_w hw 100 rfl) (own_w hw 99 rfl) (own_w hw 9 rfl) (own_w hw 101 rfl) (by decide) rfl 0 (by decide) (by decide) (by decide) (by decide) (argsL := [(.ref aC), (.int va)]) (rest := []) (lenOf pd__Lcom_example_collectary_collectary_broker_Grid_Axis_I_V rfl) rfl (Nat.le_of_eq rfl) E89_b5 (rmCut_1_1_0_1_1 l Z a0 hw b5 aW aC cu cn7 cn8 rl es t8_0 t8_1 va vb vc ((1 : Int32) + (1 : Int32)) n0 T83.heap n0_cu n0_rl n0_es Z83 oC hl0 ne_aC_aW E89_b5 E85_aC F87_ordinal S88_WORD H83_0 H83_1 H83_2 H83_3 H83_4 H83_5 H83_6 H83_7 H83_8 H83_9 H83_10 H83_11 H83_12 H83_13 H83_14 H83_15) at_145 (pc' := 148) rfl ?_
        intro v90 T90 L90 X90 hQ90
        obtain ⟨rfl, Nq90, K90, cn9, t9_0, t9_1, H90_0, H90_1, H90_2, H90_3, H90_4, H90_5, H90_6, H90_7, H90_8, H90_9, H90_10, H90_11, H90_12, H90_13, H90_14, H90_15⟩ := hQ90
        have E91_aW := E84_aW.keep K90
        have E92_aC := E85_aC.keep K90
        have F93_ordinal := F86_ordinal.keep K90 (ninS ne_aW_cu (ninS ne_aW_rl (ninS ne_aW_es nin0)))
        have F94_ordinal := F87_ordinal.keep K90 (ninS ne_aC_cu (ninS ne_aC_rl (ninS ne_aC_es nin0)))
        have S95_WORD := own_stakeep S88_WORD K90 (allS H83_2.plain (allS (own_plainE H83_6) (allS H83_10.plain all0)))
        have E96_b5 := E89_b5.keep K90
        have N90 := Fr.app N83 Nq90
        have Z90 : n0 ≤ T90.heap.size := Nat.le_trans Z83 K90.1
        show GoP p e below Φ (T90.setTop (mkF m 148 #[.val (.int p1), .val (.int p2), .val (.int p3), .val (.int p4), .val (.int va), .val (.int vb), .val (.int vc), .val (.ref aC), .val (.ref aW), .val (.ref b5), .val (.int (1 : Int32))] []))
        refine own_iload X90 hx hby at_148 rfl (pc' := 150) rfl ?_
        refine own_ifY X90 hx hby at_150 ((if0 _ _).trans (feq (by decide)).2) (by decide) (pc' := 162) (by decide) ?_
        refine own_aload X90 hx hby at_162 rfl rfl (pc' := 164) rfl ?_
        refine own_aload X90 hx hby at_164 rfl rfl (pc' := 166) rfl ?_
        refine own_iconst X90 hx hby at_166 (v := (0 : Int32)) rfl (pc' := 167) rfl ?_
        refine own_callV X90 hx hby hZ (by exact hml) hown (own_w hw 176 rfl) (own_w hw 177 rfl) (own_w hw 179 rfl) (own_w hw 178 rfl) (own_w hw 9 rfl) (own_w hw 180 rfl) (by decide) rfl 0 (by decide) (by decide) (by decide) (by decide) (argsL := [(.ref aC), (.int (0 : Int32))]) (rest := []) (lenOf pd__Lcom_example_collectary_collectary_broker_Grid_Axis_I_I rfl) rfl (Nat.le_of_eq rfl) E96_b5 (rmSt1_2_0 l Z a0 hw b5 aC cu cn7 cn9 va vb T90.heap E92_aC F94_ordinal H90_0 H90_2 H90_5) at_167 (pc' := 170) rfl ?_
        intro v97 T97 L97 X97 hQ97
        obtain ⟨rfl, rfl, e97⟩ := hQ97
        rw [List.append_nil] at X97
        replace e97 : T97.heap = T90.heap := e97
        show GoP p e below Φ (T97.setTop (mkF m 170 #[.val (.int p1), .val (.int p2), .val (.int p3), .val (.int p4), .val (.int va), .val (.int vb), .val (.int vc), .val (.ref aC), .val (.ref aW), .val (.ref b5), .val (.int (1 : Int32))] [(.int (0 : Int32))]))
        refine own_ifN X97 hx hby at_170 ((if0 _ _).trans (teq (by decide)).2) (pc' := 173) rfl ?_
        refine own_aload X97 hx hby at_173 rfl rfl (pc' := 175) rfl ?_
        refine own_aload X97 hx hby at_175 rfl rfl (pc' := 177) rfl ?_
        refine own_iconst X97 hx hby at_177 (v := (1 : Int32)) rfl (pc' := 178) rfl ?_
        refine own_callV X97 hx hby hZ (by exact hml) hown (own_w hw 176 rfl) (own_w hw 177 rfl) (own_w hw 179 rfl) (own_w hw 178 rfl) (own_w hw 9 rfl) (own_w hw 180 rfl) (by decide) e97 0 (by decide) (by decide) (by decide) (by decide) (argsL := [(.ref aC), (.int (1 : Int32))]) (rest := []) (lenOf pd__Lcom_example_collectary_collectary_broker_Grid_Axis_I_I rfl) rfl (Nat.le_of_eq rfl) E96_b5 (rmSt1_2_1 l Z a0 hw b5 aC cu cn7 cn9 va vb T90.heap E92_aC F94_ordinal H90_0 H90_2 H90_5) at_178 (pc' := 181) rfl ?_
        intro v98 T98 L98 X98 hQ98
        obtain ⟨rfl, rfl, e98⟩ := hQ98
        rw [List.append_nil] at X98
        replace e98 : T98.heap = T90.heap := e98
        show GoP p e below Φ (T98.setTop (mkF m 181 #[.val (.int p1), .val (.int p2), .val (.int p3), .val (.int p4), .val (.int va), .val (.int vb), .val (.int vc), .val (.ref aC), .val (.ref aW), .val (.ref b5), .val (.int (1 : Int32))] [(.int va)]))
        refine own_iload X98 hx hby at_181 rfl (pc' := 183) rfl ?_
        refine own_icmpN X98 hx hby at_183 (teq rfl).2 (pc' := 186) rfl ?_
        refine own_aload X98 hx hby at_186 rfl rfl (pc' := 188) rfl ?_
        refine own_aload X98 hx hby at_188 rfl rfl (pc' := 190) rfl ?_
        refine own_iconst X98 hx hby at_190 (v := (2 : Int32)) rfl (pc' := 191) rfl ?_
        refine own_callV X98 hx hby hZ (by exact hml) hown (own_w hw 176 rfl) (own_w hw 177 rfl) (own_w hw 179 rfl) (own_w hw 178 rfl) (own_w hw 9 rfl) (own_w hw 180 rfl) (by decide) e98 0 (by decide) (by decide) (by decide) (by decide) (argsL := [(.ref aC), (.int (2 : Int32))]) (rest := []) (lenOf pd__Lcom_example_collectary_collectary_broker_Grid_Axis_I_I rfl) rfl (Nat.le_of_eq rfl) E96_b5 (rmSt1_2_2 l Z a0 hw b5 aC cu cn7 cn9 va vb T90.heap E92_aC F94_ordinal H90_0 H90_2 H90_5) at_191 (pc' := 194) rfl ?_
        intro v99 T99 L99 X99 hQ99
        obtain ⟨rfl, rfl, e99⟩ := hQ99
        rw [List.append_nil] at X99
        replace e99 : T99.heap = T90.heap := e99
        show GoP p e below Φ (T99.setTop (mkF m 194 #[.val (.int p1), .val (.int p2), .val (.int p3), .val (.int p4), .val (.int va), .val (.int vb), .val (.int vc), .val (.ref aC), .val (.ref aW), .val (.ref b5), .val (.int (1 : Int32))] [(.int vb)]))
        refine own_iload X99 hx hby at_194 rfl (pc' := 196) rfl ?_
        refine own_icmpN X99 hx hby at_196 (teq rfl).2 (pc' := 199) rfl ?_
        refine own_aload X99 hx hby at_199 rfl rfl (pc' := 201) rfl ?_
        refine own_aload X99 hx hby at_201 rfl rfl (pc' := 203) rfl ?_
        refine own_iconst X99 hx hby at_203 (v := (0 : Int32)) rfl (pc' := 204) rfl ?_
        refine own_callV X99 hx hby hZ (by exact hml) hown (own_w hw 176 rfl) (own_w hw 177 rfl) (own_w hw 179 rfl) (own_w hw 178 rfl) (own_w hw 9 rfl) (own_w hw 180 rfl) (by decide) e99 0 (by decide) (by decide) (by decide) (by decide) (argsL := [(.ref aW), (.int (0 : Int32))]) (rest := []) (lenOf pd__Lcom_example_collectary_collectary_broker_Grid_Axis_I_I rfl) rfl (Nat.le_of_eq rfl) E96_b5 (rmSt0_1_0 l Z a0 hw b5 aW cu cn7 cn9 vc T90.heap E91_aW F93_ordinal H90_0 H90_2 H90_4) at_204 (pc' := 207) rfl ?_
        intro v100 T100 L100 X100 hQ100
        obtain ⟨rfl, rfl, e100⟩ := hQ100
        rw [List.append_nil] at X100
        replace e100 : T100.heap = T90.heap := e100
        show GoP p e below Φ (T100.setTop (mkF m 207 #[.val (.int p1), .val (.int p2), .val (.int p3), .val (.int p4), .val (.int va), .val (.int vb), .val (.int vc), .val (.ref aC), .val (.ref aW), .val (.ref b5), .val (.int (1 : Int32))] [(.int (0 : Int32))]))
        refine own_ifN X100 hx hby at_207 ((if0 _ _).trans (teq (by decide)).2) (pc' := 210) rfl ?_
        refine own_aload X100 hx hby at_210 rfl rfl (pc' := 212) rfl ?_
        refine own_aload X100 hx hby at_212 rfl rfl (pc' := 214) rfl ?_
        refine own_iconst X100 hx hby at_214 (v := (1 : Int32)) rfl (pc' := 215) rfl ?_
        refine own_callV X100 hx hby hZ (by exact hml) hown (own_w hw 176 rfl) (own_w hw 177 rfl) (own_w hw 179 rfl) (own_w hw 178 rfl) (own_w hw 9 rfl) (own_w hw 180 rfl) (by decide) e100 0 (by decide) (by decide) (by decide) (by decide) (argsL := [(.ref aW), (.int (1 : Int32))]) (rest := []) (lenOf pd__Lcom_example_collectary_collectary_broker_Grid_Axis_I_I rfl) rfl (Nat.le_of_eq rfl) E96_b5 (rmSt0_1_1 l Z a0 hw b5 aW cu cn7 cn9 vc T90.heap E91_aW F93_ordinal H90_0 H90_2 H90_4) at_215 (pc' := 218) rfl ?_
        intro v101 T101 L101 X101 hQ101
        obtain ⟨rfl, rfl, e101⟩ := hQ101
        rw [List.append_nil] at X101
        replace e101 : T101.heap = T90.heap := e101
        show GoP p e below Φ (T101.setTop (mkF m 218 #[.val (.int p1), .val (.int p2), .val (.int p3), .val (.int p4), .val (.int va), .val (.int vb), .val (.int vc), .val (.ref aC), .val (.ref aW), .val (.ref b5), .val (.int (1 : Int32))] [(.int vc)]))
        refine own_iload X101 hx hby at_218 rfl (pc' := 220) rfl ?_
        refine own_icmpN X101 hx hby at_220 (teq rfl).2 (pc' := 223) rfl ?_
        refine own_iconst X101 hx hby at_223 (v := (1 : Int32)) rfl (pc' := 224) rfl ?_
        refine own_goto X101 hx hby at_224 (by decide) (pc' := 228) (by decide) ?_
        exact own_retN X101 hx hby fin hret (by simp) rfl at_228 (by decide) (by decide) ⟨rfl, N90⟩
      · refine own_ifN X75 hx hby at_106 ((if0 _ _).trans (feq hc106_82).1) (pc' := 109) rfl ?_
        refine own_aload X75 hx hby at_109 rfl rfl (pc' := 111) rfl ?_
        refine own_aload X75 hx hby at_111 rfl rfl (pc' := 113) rfl ?_
        refine own_iload X75 hx hby at_113 rfl (pc' := 115) rfl ?_
        refine own_callV X75 hx hby hZ (by exact hml) hown (own_w hw 97 rfl) (own_w hw 98 rfl) (own_w hw 100 rfl) (own_w hw 99 rfl) (own_w hw 9 rfl) (own_w hw 101 rfl) (by decide) rfl 0 (by decide) (by decide) (by decide) (by decide) (argsL := [(.ref aC), (.int va)]) (rest := []) (lenOf pd__Lcom_example_collectary_collectary_broker_Grid_Axis_I_V rfl) rfl (Nat.le_of_eq rfl) E81_b5 (rmCut_1_0_0_1_0 l Z a0 hw b5 aW aC cu cn7 c1 rl es r0 rn7 va vc ((1 : Int32) + (1 : Int32)) n0 T75.heap n0_cu n0_rl n0_es Z75 oC  ne_aC_aW E81_b5 E77_aC F79_ordinal S80_WORD H75_0 H75_1 H75_2 H75_3 H75_4 H75_5 H75_6 H75_7 H75_8 H75_9 H75_10 H75_11 H75_12 H75_13 H75_14 H75_15) at_115 (pc' := 118) rfl ?_
        intro v102 T102 L102 X102 hQ102
        obtain ⟨rfl, Nq102, K102, cn10, t10_0, t10_1, H102_0, H102_1, H102_2, H102_3, H102_4, H102_5, H102_6, H102_7, H102_8, H102_9, H102_10, H102_11, H102_12, H102_13, H102_14, H102_15⟩ := hQ102
        have E103_aW := E76_aW.keep K102
        have E104_aC := E77_aC.keep K102
        have F105_ordinal := F78_ordinal.keep K102 (ninS ne_aW_cu (ninS ne_aW_rl (ninS ne_aW_es nin0)))
        have F106_ordinal := F79_ordinal.keep K102 (ninS ne_aC_cu (ninS ne_aC_rl (ninS ne_aC_es nin0)))
        have S107_WORD := own_stakeep S80_WORD K102 (allS H75_2.plain (allS (own_plainE H75_6) (allS H75_10.plain all0)))
        have E108_b5 := E81_b5.keep K102
        have N102 := Fr.app N75 Nq102
        have Z102 : n0 ≤ T102.heap.size := Nat.le_trans Z75 K102.1
        show GoP p e below Φ (T102.setTop (mkF m 118 #[.val (.int p1), .val (.int p2), .val (.int p3), .val (.int p4), .val (.int va), .val (.int vb), .val (.int vc), .val (.ref aC), .val (.ref aW), .val (.ref b5), .val (.int (1 : Int32))] []))
        refine own_aload X102 hx hby at_118 rfl rfl (pc' := 120) rfl ?_
        refine own_aload X102 hx hby at_120 rfl rfl (pc' := 122) rfl ?_
        refine own_iload X102 hx hby at_122 rfl (pc' := 124) rfl ?_
        refine own_callV X102 hx hby hZ (by exact hml) hown (own_w hw 97 rfl) (own_w hw 98 rfl) (own_w hw 100 rfl) (own_w hw 99 rfl) (own_w hw 9 rfl) (own_w hw 101 rfl) (by decide) rfl 0 (by decide) (by decide) (by decide) (by decide) (argsL := [(.ref aC), (.int vb)]) (rest := []) (lenOf pd__Lcom_example_collectary_collectary_broker_Grid_Axis_I_V rfl) rfl (Nat.le_of_eq rfl) E108_b5 (rmCut_1_1_1_1_1 l Z a0 hw b5 aW aC cu cn7 cn10 rl es t10_0 t10_1 vb va vc ((1 : Int32) + (1 : Int32)) n0 T102.heap n0_cu n0_rl n0_es Z102 oC hl1 ne_aC_aW E108_b5 E104_aC F106_ordinal S107_WORD H102_0 H102_1 H102_2 H102_3 H102_4 H102_5 H102_6 H102_7 H102_8 H102_9 H102_10 H102_11 H102_12 H102_13 H102_14 H102_15) at_124 (pc' := 127) rfl ?_
        intro v109 T109 L109 X109 hQ109
        obtain ⟨rfl, Nq109, K109, cn11, t11_0, t11_1, H109_0, H109_1, H109_2, H109_3, H109_4, H109_5, H109_6, H109_7, H109_8, H109_9, H109_10, H109_11, H109_12, H109_13, H109_14, H109_15⟩ := hQ109
        have E110_aW := E103_aW.keep K109
        have E111_aC := E104_aC.keep K109
        have F112_ordinal := F105_ordinal.keep K109 (ninS ne_aW_cu (ninS ne_aW_rl (ninS ne_aW_es nin0)))
        have F113_ordinal := F106_ordinal.keep K109 (ninS ne_aC_cu (ninS ne_aC_rl (ninS ne_aC_es nin0)))
        have S114_WORD := own_stakeep S107_WORD K109 (allS H102_2.plain (allS (own_plainE H102_6) (allS H102_10.plain all0)))
        have E115_b5 := E108_b5.keep K109
        have N109 := Fr.app N102 Nq109
        have Z109 : n0 ≤ T109.heap.size := Nat.le_trans Z102 K109.1
        show GoP p e below Φ (T109.setTop (mkF m 127 #[.val (.int p1), .val (.int p2), .val (.int p3), .val (.int p4), .val (.int va), .val (.int vb), .val (.int vc), .val (.ref aC), .val (.ref aW), .val (.ref b5), .val (.int (1 : Int32))] []))
        refine own_goto X109 hx hby at_127 (by decide) (pc' := 148) (by decide) ?_
        refine own_iload X109 hx hby at_148 rfl (pc' := 150) rfl ?_
        refine own_ifY X109 hx hby at_150 ((if0 _ _).trans (feq (by decide)).2) (by decide) (pc' := 162) (by decide) ?_
        refine own_aload X109 hx hby at_162 rfl rfl (pc' := 164) rfl ?_
        refine own_aload X109 hx hby at_164 rfl rfl (pc' := 166) rfl ?_
        refine own_iconst X109 hx hby at_166 (v := (0 : Int32)) rfl (pc' := 167) rfl ?_
        refine own_callV X109 hx hby hZ (by exact hml) hown (own_w hw 176 rfl) (own_w hw 177 rfl) (own_w hw 179 rfl) (own_w hw 178 rfl) (own_w hw 9 rfl) (own_w hw 180 rfl) (by decide) rfl 0 (by decide) (by decide) (by decide) (by decide) (argsL := [(.ref aC), (.int (0 : Int32))]) (rest := []) (lenOf pd__Lcom_example_collectary_collectary_broker_Grid_Axis_I_I rfl) rfl (Nat.le_of_eq rfl) E115_b5 (rmSt1_2_0 l Z a0 hw b5 aC cu cn7 cn11 va vb T109.heap E111_aC F113_ordinal H109_0 H109_2 H109_5) at_167 (pc' := 170) rfl ?_
        intro v116 T116 L116 X116 hQ116
        obtain ⟨rfl, rfl, e116⟩ := hQ116
        rw [List.append_nil] at X116
        replace e116 : T116.heap = T109.heap := e116
        show GoP p e below Φ (T116.setTop (mkF m 170 #[.val (.int p1), .val (.int p2), .val (.int p3), .val (.int p4), .val (.int va), .val (.int vb), .val (.int vc), .val (.ref aC), .val (.ref aW), .val (.ref b5), .val (.int (1 : Int32))] [(.int (0 : Int32))]))
        refine own_ifN X116 hx hby at_170 ((if0 _ _).trans (teq (by decide)).2) (pc' := 173) rfl ?_
        refine own_aload X116 hx hby at_173 rfl rfl (pc' := 175) rfl ?_
        refine own_aload X116 hx hby at_175 rfl rfl (pc' := 177) rfl ?_
        refine own_iconst X116 hx hby at_177 (v := (1 : Int32)) rfl (pc' := 178) rfl ?_
        refine own_callV X116 hx hby hZ (by exact hml) hown (own_w hw 176 rfl) (own_w hw 177 rfl) (own_w hw 179 rfl) (own_w hw 178 rfl) (own_w hw 9 rfl) (own_w hw 180 rfl) (by decide) e116 0 (by decide) (by decide) (by decide) (by decide) (argsL := [(.ref aC), (.int (1 : Int32))]) (rest := []) (lenOf pd__Lcom_example_collectary_collectary_broker_Grid_Axis_I_I rfl) rfl (Nat.le_of_eq rfl) E115_b5 (rmSt1_2_1 l Z a0 hw b5 aC cu cn7 cn11 va vb T109.heap E111_aC F113_ordinal H109_0 H109_2 H109_5) at_178 (pc' := 181) rfl ?_
        intro v117 T117 L117 X117 hQ117
        obtain ⟨rfl, rfl, e117⟩ := hQ117
        rw [List.append_nil] at X117
        replace e117 : T117.heap = T109.heap := e117
        show GoP p e below Φ (T117.setTop (mkF m 181 #[.val (.int p1), .val (.int p2), .val (.int p3), .val (.int p4), .val (.int va), .val (.int vb), .val (.int vc), .val (.ref aC), .val (.ref aW), .val (.ref b5), .val (.int (1 : Int32))] [(.int va)]))
        refine own_iload X117 hx hby at_181 rfl (pc' := 183) rfl ?_
        refine own_icmpN X117 hx hby at_183 (teq rfl).2 (pc' := 186) rfl ?_
        refine own_aload X117 hx hby at_186 rfl rfl (pc' := 188) rfl ?_
        refine own_aload X117 hx hby at_188 rfl rfl (pc' := 190) rfl ?_
        refine own_iconst X117 hx hby at_190 (v := (2 : Int32)) rfl (pc' := 191) rfl ?_
        refine own_callV X117 hx hby hZ (by exact hml) hown (own_w hw 176 rfl) (own_w hw 177 rfl) (own_w hw 179 rfl) (own_w hw 178 rfl) (own_w hw 9 rfl) (own_w hw 180 rfl) (by decide) e117 0 (by decide) (by decide) (by decide) (by decide) (argsL := [(.ref aC), (.int (2 : Int32))]) (rest := []) (lenOf pd__Lcom_example_collectary_collectary_broker_Grid_Axis_I_I rfl) rfl (Nat.le_of_eq rfl) E115_b5 (rmSt1_2_2 l Z a0 hw b5 aC cu cn7 cn11 va vb T109.heap E111_aC F113_ordinal H109_0 H109_2 H109_5) at_191 (pc' := 194) rfl ?_
        intro v118 T118 L118 X118 hQ118
        obtain ⟨rfl, rfl, e118⟩ := hQ118
        rw [List.append_nil] at X118
        replace e118 : T118.heap = T109.heap := e118
        show GoP p e below Φ (T118.setTop (mkF m 194 #[.val (.int p1), .val (.int p2), .val (.int p3), .val (.int p4), .val (.int va), .val (.int vb), .val (.int vc), .val (.ref aC), .val (.ref aW), .val (.ref b5), .val (.int (1 : Int32))] [(.int vb)]))
        refine own_iload X118 hx hby at_194 rfl (pc' := 196) rfl ?_
        refine own_icmpN X118 hx hby at_196 (teq rfl).2 (pc' := 199) rfl ?_
        refine own_aload X118 hx hby at_199 rfl rfl (pc' := 201) rfl ?_
        refine own_aload X118 hx hby at_201 rfl rfl (pc' := 203) rfl ?_
        refine own_iconst X118 hx hby at_203 (v := (0 : Int32)) rfl (pc' := 204) rfl ?_
        refine own_callV X118 hx hby hZ (by exact hml) hown (own_w hw 176 rfl) (own_w hw 177 rfl) (own_w hw 179 rfl) (own_w hw 178 rfl) (own_w hw 9 rfl) (own_w hw 180 rfl) (by decide) e118 0 (by decide) (by decide) (by decide) (by decide) (argsL := [(.ref aW), (.int (0 : Int32))]) (rest := []) (lenOf pd__Lcom_example_collectary_collectary_broker_Grid_Axis_I_I rfl) rfl (Nat.le_of_eq rfl) E115_b5 (rmSt0_1_0 l Z a0 hw b5 aW cu cn7 cn11 vc T109.heap E110_aW F112_ordinal H109_0 H109_2 H109_4) at_204 (pc' := 207) rfl ?_
        intro v119 T119 L119 X119 hQ119
        obtain ⟨rfl, rfl, e119⟩ := hQ119
        rw [List.append_nil] at X119
        replace e119 : T119.heap = T109.heap := e119
        show GoP p e below Φ (T119.setTop (mkF m 207 #[.val (.int p1), .val (.int p2), .val (.int p3), .val (.int p4), .val (.int va), .val (.int vb), .val (.int vc), .val (.ref aC), .val (.ref aW), .val (.ref b5), .val (.int (1 : Int32))] [(.int (0 : Int32))]))
        refine own_ifN X119 hx hby at_207 ((if0 _ _).trans (teq (by decide)).2) (pc' := 210) rfl ?_
        refine own_aload X119 hx hby at_210 rfl rfl (pc' := 212) rfl ?_
        refine own_aload X119 hx hby at_212 rfl rfl (pc' := 214) rfl ?_
        refine own_iconst X119 hx hby at_214 (v := (1 : Int32)) rfl (pc' := 215) rfl ?_
        refine own_callV X119 hx hby hZ (by exact hml) hown (own_w hw 176 rfl) (own_w hw 177 rfl) (own_w hw 179 rfl) (own_w hw 178 rfl) (own_w hw 9 rfl) (own_w hw 180 rfl) (by decide) e119 0 (by decide) (by decide) (by decide) (by decide) (argsL := [(.ref aW), (.int (1 : Int32))]) (rest := []) (lenOf pd__Lcom_example_collectary_collectary_broker_Grid_Axis_I_I rfl) rfl (Nat.le_of_eq rfl) E115_b5 (rmSt0_1_1 l Z a0 hw b5 aW cu cn7 cn11 vc T109.heap E110_aW F112_ordinal H109_0 H109_2 H109_4) at_215 (pc' := 218) rfl ?_
        intro v120 T120 L120 X120 hQ120
        obtain ⟨rfl, rfl, e120⟩ := hQ120
        rw [List.append_nil] at X120
        replace e120 : T120.heap = T109.heap := e120
        show GoP p e below Φ (T120.setTop (mkF m 218 #[.val (.int p1), .val (.int p2), .val (.int p3), .val (.int p4), .val (.int va), .val (.int vb), .val (.int vc), .val (.ref aC), .val (.ref aW), .val (.ref b5), .val (.int (1 : Int32))] [(.int vc)]))
        refine own_iload X120 hx hby at_218 rfl (pc' := 220) rfl ?_
        refine own_icmpN X120 hx hby at_220 (teq rfl).2 (pc' := 223) rfl ?_
        refine own_iconst X120 hx hby at_223 (v := (1 : Int32)) rfl (pc' := 224) rfl ?_
        refine own_goto X120 hx hby at_224 (by decide) (pc' := 228) (by decide) ?_
        exact own_retN X120 hx hby fin hret (by simp) rfl at_228 (by decide) (by decide) ⟨rfl, N109⟩
  · refine own_ifN X hx hby at_30 ((if0 _ _).trans (feq hc30_1).1) (pc' := 33) rfl ?_
    refine own_getS X hx hby hZ hown (host := "") (Or.inl (own_w hw 2 rfl)) Via.refl eT SW at_33 (pc' := 36) rfl ?_
    intro T121 X121 e121
    refine own_goto X121 hx hby at_36 (by decide) (pc' := 42) (by decide) ?_
    refine own_astore X121 hx hby at_42 rfl (Ls' := #[.val (.int p1), .val (.int p2), .val (.int p3), .val (.int p4), .val (.int va), .val (.int vb), .val (.int vc), .val (.ref aW), .unset, .unset, .unset]) rfl (pc' := 44) rfl ?_
    refine own_aload X121 hx hby at_44 rfl rfl (pc' := 46) rfl ?_
    refine own_getS X121 hx hby hZ hown (host := "") (Or.inl (own_w hw 2 rfl)) Via.refl e121 SW at_46 (pc' := 49) rfl ?_
    intro T122 X122 e122
    refine own_acmp X122 hx hby at_49 rfl rfl (same := true) (decide_eq_true (congrArg Value.ref rfl)) (by decide) (pc' := 52) (by decide) ?_
    refine own_getS X122 hx hby hZ hown (host := "") (Or.inl (own_w hw 5 rfl)) Via.refl e122 SC at_52 (pc' := 55) rfl ?_
    intro T123 X123 e123
    refine own_goto X123 hx hby at_55 (by decide) (pc' := 61) (by decide) ?_
    refine own_astore X123 hx hby at_61 rfl (Ls' := #[.val (.int p1), .val (.int p2), .val (.int p3), .val (.int p4), .val (.int va), .val (.int vb), .val (.int vc), .val (.ref aW), .val (.ref aC), .unset, .unset]) rfl (pc' := 63) rfl ?_
    obtain ⟨T124, h124, X124, e124, E124, A124, D124, -, st124⟩ := newO X123 hx hZ hown (own_w hw 7 rfl) (own_w hw 8 rfl) (own_w hw 9 rfl) e123 (g := (mkF m 63 #[.val (.int p1), .val (.int p2), .val (.int p3), .val (.int p4), .val (.int va), .val (.int vb), .val (.int vc), .val (.ref aW), .val (.ref aC), .unset, .unset] [])) rfl (hb hby at_63) (by decide) (by decide)
    obtain ⟨b124, g124⟩ : ∃ z, z = h0.size := ⟨_, rfl⟩
    have ne_aW_b124 : aW ≠ b124 := Nat.ne_of_lt (g124 ▸ EW.lt)
    have ne_aC_b124 : aC ≠ b124 := Nat.ne_of_lt (g124 ▸ EC.lt)
    have ne_aD_b124 : aD ≠ b124 := Nat.ne_of_lt (g124 ▸ VD.lt)
    have E125_aW := EW.ext E124
    have E126_aC := EC.ext E124
    have F127_ordinal := OW.ext E124
    have F128_ordinal := OC.ext E124
    have S129_WORD := SW.ext E124
    have S130_COLLECTION := SC.ext E124
    have S131_DEFAULTCAPACITY_EMPTY_ELEMENTDATA := S.ext E124
    have V132_aD := VD.ext E124
    have Z124 : n0 ≤ h124.size := Nat.le_trans Z0 E124.1
    have n0_b124 : n0 ≤ b124 := g124 ▸ Z0
    rw [← g124] at A124 D124 st124
    refine own_step st124 ?_
    have F124_ids : Fld Z h124 b124 "com/example/collectary/collectary/broker/Grid" "ids" "[I" .null := D124 (Or.inr (own_w hw 19 rfl)) (ty := (.array .int)) (by decide)
    have F124_cuts : Fld Z h124 b124 "com/example/collectary/collectary/broker/Grid" "cuts" "[[I" .null := D124 (Or.inr (own_w hw 24 rfl)) (ty := (.array (.array .int))) (by decide)
    have F124_rows : Fld Z h124 b124 "com/example/collectary/collectary/broker/Grid" "rows" "Ljava/util/List;" .null := D124 (Or.inr (own_w hw 50 rfl)) (ty := (.object "java/util/List")) (by decide)
    show GoP p e below Φ (T124.setTop (mkF m 66 #[.val (.int p1), .val (.int p2), .val (.int p3), .val (.int p4), .val (.int va), .val (.int vb), .val (.int vc), .val (.ref aW), .val (.ref aC), .unset, .unset] [(.ref b124)]))
    refine own_dup X124 hx hby at_66 rfl (pc' := 67) rfl ?_
    refine own_ldcI X124 hx hby hZ hown (own_w hw 10 rfl) at_67 (pc' := 69) rfl ?_
    refine own_ldcI X124 hx hby hZ hown (own_w hw 10 rfl) at_69 (pc' := 71) rfl ?_
    refine own_callI X124 hx hby hZ (by exact hml) hown rfl (own_w hw 11 rfl) (own_w hw 12 rfl) (own_w hw 9 rfl) (own_w hw 13 rfl) (by decide) e124 1 (by decide) (by decide) (by decide) (by decide) (argsL := [(.int (2147483647 : Int32)), (.int (2147483647 : Int32))]) (rest := [(.ref b124)]) (lenOf pd__II_V rfl) rfl (Nat.le_of_eq rfl) (rmGI l Z a0 hw b124 aW aC aD (2147483647 : Int32) (2147483647 : Int32) n0 h124 n0_b124 Z124 oW oC oD A124 F124_ids F124_cuts F124_rows E125_aW E126_aC F127_ordinal F128_ordinal S129_WORD S130_COLLECTION S131_DEFAULTCAPACITY_EMPTY_ELEMENTDATA V132_aD) at_71 (pc' := 74) rfl ?_
    intro v133 T133 L133 X133 hQ133
    obtain ⟨rfl, Nq133, K133, Eg133, cu, c0, c1, rl, es, r0, n0_cu, n0_rl, n0_es, H133_0, H133_1, H133_2, H133_3, H133_4, H133_5, H133_6, H133_7, H133_8, H133_9, H133_10, H133_11, H133_12, H133_13⟩ := hQ133
    have gne_aW : aW ≠ b124 := Nat.ne_of_lt (Nat.lt_of_lt_of_le oW n0_b124)
    have gne_aC : aC ≠ b124 := Nat.ne_of_lt (Nat.lt_of_lt_of_le oC n0_b124)
    have E134_aW := E125_aW.keep K133
    have E135_aC := E126_aC.keep K133
    have F136_ordinal := F127_ordinal.keep K133 (ninS gne_aW nin0)
    have F137_ordinal := F128_ordinal.keep K133 (ninS gne_aC nin0)
    have S138_WORD := own_stakeep S129_WORD K133 (allS (own_plainE A124) all0)
    have N133 := Fr.app N0 Nq133
    have Z133 : n0 ≤ T133.heap.size := Nat.le_trans Z124 K133.1
    show GoP p e below Φ (T133.setTop (mkF m 74 #[.val (.int p1), .val (.int p2), .val (.int p3), .val (.int p4), .val (.int va), .val (.int vb), .val (.int vc), .val (.ref aW), .val (.ref aC), .unset, .unset] [(.ref b124)]))
    have ne_aW_cu : aW ≠ cu := Nat.ne_of_lt (Nat.lt_of_lt_of_le oW n0_cu)
    have ne_aW_rl : aW ≠ rl := Nat.ne_of_lt (Nat.lt_of_lt_of_le oW n0_rl)
    have ne_aW_es : aW ≠ es := Nat.ne_of_lt (Nat.lt_of_lt_of_le oW n0_es)
    have ne_aC_cu : aC ≠ cu := Nat.ne_of_lt (Nat.lt_of_lt_of_le oC n0_cu)
    have ne_aC_rl : aC ≠ rl := Nat.ne_of_lt (Nat.lt_of_lt_of_le oC n0_rl)
    have ne_aC_es : aC ≠ es := Nat.ne_of_lt (Nat.lt_of_lt_of_le oC n0_es)
    refine own_astore X133 hx hby at_74 rfl (Ls' := #[.val (.int p1), .val (.int p2), .val (.int p3), .val (.int p4), .val (.int va), .val (.int vb), .val (.int vc), .val (.ref aW), .val (.ref aC), .val (.ref b124), .unset]) rfl (pc' := 76) rfl ?_
    refine own_iloadN X133 hx hby at_76 rfl (pc' := 77) rfl ?_
    refine own_iconst X133 hx hby at_77 (v := (4 : Int32)) rfl (pc' := 78) rfl ?_
    refine own_iand X133 hx hby at_78 (pc' := 79) rfl ?_
    by_cases hc79_140 : (p4 &&& (4 : Int32)) = (0 : Int32)
    · refine own_ifY X133 hx hby at_79 ((if0 _ _).trans (teq hc79_140).1) (by decide) (pc' := 86) (by decide) ?_
      refine own_iconst X133 hx hby at_86 (v := (0 : Int32)) rfl (pc' := 87) rfl ?_
      refine own_istore X133 hx hby at_87  (Ls' := #[.val (.int p1), .val (.int p2), .val (.int p3), .val (.int p4), .val (.int va), .val (.int vb), .val (.int vc), .val (.ref aW), .val (.ref aC), .val (.ref b124), .val (.int (0 : Int32))]) rfl (pc' := 89) rfl ?_
      refine own_iload X133 hx hby at_89 rfl (pc' := 91) rfl ?_
      refine own_ifY X133 hx hby at_91 ((if0 _ _).trans (teq (by decide)).1) (by decide) (pc' := 103) (by decide) ?_
      refine own_iloadN X133 hx hby at_103 rfl (pc' := 104) rfl ?_
      refine own_iconst X133 hx hby at_104 (v := (2 : Int32)) rfl (pc' := 105) rfl ?_
      refine own_iand X133 hx hby at_105 (pc' := 106) rfl ?_
      by_cases hc106_141 : (p4 &&& (2 : Int32)) = (0 : Int32)
      · refine own_ifY X133 hx hby at_106 ((if0 _ _).trans (teq hc106_141).1) (by decide) (pc' := 130) (by decide) ?_
        refine own_aload X133 hx hby at_130 rfl rfl (pc' := 132) rfl ?_
        refine own_aload X133 hx hby at_132 rfl rfl (pc' := 134) rfl ?_
        refine own_iload X133 hx hby at_134 rfl (pc' := 136) rfl ?_
        refine own_callV X133 hx hby hZ (by exact hml) hown (own_w hw 97 rfl) (own_w hw 98 rfl) (own_w hw 100 rfl) (own_w hw 99 rfl) (own_w hw 9 rfl) (own_w hw 101 rfl) (by decide) rfl 0 (by decide) (by decide) (by decide) (by decide) (argsL := [(.ref aW), (.int vb)]) (rest := []) (lenOf pd__Lcom_example_collectary_collectary_broker_Grid_Axis_I_V rfl) rfl (Nat.le_of_eq rfl) Eg133 (rmCut_0_0_0_0_0 l Z a0 hw b124 aW aC cu c0 c1 rl es r0 vb (1 : Int32) n0 T133.heap n0_cu n0_rl n0_es Z133 oW   Eg133 E134_aW F136_ordinal S138_WORD H133_0 H133_1 H133_2 H133_3 H133_4 H133_5 H133_6 H133_7 H133_8 H133_9 H133_10 H133_11 H133_12 H133_13) at_136 (pc' := 139) rfl ?_
        intro v142 T142 L142 X142 hQ142
        obtain ⟨rfl, Nq142, K142, cn12, rn12, H142_0, H142_1, H142_2, H142_3, H142_4, H142_5, H142_6, H142_7, H142_8, H142_9, H142_10, H142_11, H142_12, H142_13, H142_14, H142_15⟩ := hQ142
        have E143_aW := E134_aW.keep K142
        have E144_aC := E135_aC.keep K142
        have F145_ordinal := F136_ordinal.keep K142 (ninS ne_aW_cu (ninS ne_aW_rl (ninS ne_aW_es nin0)))
        have F146_ordinal := F137_ordinal.keep K142 (ninS ne_aC_cu (ninS ne_aC_rl (ninS ne_aC_es nin0)))
        have S147_WORD := own_stakeep S138_WORD K142 (allS H133_2.plain (allS (own_plainE H133_6) (allS H133_10.plain all0)))
        have E148_b124 := Eg133.keep K142
        have N142 := Fr.app N133 Nq142
        have Z142 : n0 ≤ T142.heap.size := Nat.le_trans Z133 K142.1
        show GoP p e below Φ (T142.setTop (mkF m 139 #[.val (.int p1), .val (.int p2), .val (.int p3), .val (.int p4), .val (.int va), .val (.int vb), .val (.int vc), .val (.ref aW), .val (.ref aC), .val (.ref b124), .val (.int (0 : Int32))] []))
        refine own_aload X142 hx hby at_139 rfl rfl (pc' := 141) rfl ?_
        refine own_aload X142 hx hby at_141 rfl rfl (pc' := 143) rfl ?_
        refine own_iload X142 hx hby at_143 rfl (pc' := 145) rfl ?_
        refine own_callV X142 hx hby hZ (by exact hml) hown (own_w hw 97 rfl) (own_w hw 98 rfl) (own_w hw 100 rfl) (own_w hw 99 rfl) (own_w hw 9 rfl) (own_w hw 101 rfl) (by decide) rfl 0 (by decide) (by decide) (by decide) (by decide) (argsL := [(.ref aW), (.int va)]) (rest := []) (lenOf pd__Lcom_example_collectary_collectary_broker_Grid_Axis_I_V rfl) rfl (Nat.le_of_eq rfl) E148_b124 (rmCut_0_1_0_1_0 l Z a0 hw b124 aW aC cu cn12 c1 rl es r0 rn12 va vb ((1 : Int32) + (1 : Int32)) n0 T142.heap n0_cu n0_rl n0_es Z142 oW hl0  E148_b124 E143_aW F145_ordinal S147_WORD H142_0 H142_1 H142_2 H142_3 H142_4 H142_5 H142_6 H142_7 H142_8 H142_9 H142_10 H142_11 H142_12 H142_13 H142_14 H142_15) at_145 (pc' := 148) rfl ?_
        intro v149 T149 L149 X149 hQ149
        obtain ⟨rfl, Nq149, K149, cn13, rn13, H149_0, H149_1, H149_2, H149_3, H149_4, H149_5, H149_6, H149_7, H149_8, H149_9, H149_10, H149_11, H149_12, H149_13, H149_14, H149_15, H149_16, H149_17⟩ := hQ149
        have E150_aW := E143_aW.keep K149
        have E151_aC := E144_aC.keep K149
        have F152_ordinal := F145_ordinal.keep K149 (ninS ne_aW_cu (ninS ne_aW_rl (ninS ne_aW_es nin0)))
        have F153_ordinal := F146_ordinal.keep K149 (ninS ne_aC_cu (ninS ne_aC_rl (ninS ne_aC_es nin0)))
        have S154_WORD := own_stakeep S147_WORD K149 (allS H142_2.plain (allS (own_plainE H142_6) (allS H142_10.plain all0)))
        have E155_b124 := E148_b124.keep K149
        have N149 := Fr.app N142 Nq149
        have Z149 : n0 ≤ T149.heap.size := Nat.le_trans Z142 K149.1
        show GoP p e below Φ (T149.setTop (mkF m 148 #[.val (.int p1), .val (.int p2), .val (.int p3), .val (.int p4), .val (.int va), .val (.int vb), .val (.int vc), .val (.ref aW), .val (.ref aC), .val (.ref b124), .val (.int (0 : Int32))] []))
        refine own_iload X149 hx hby at_148 rfl (pc' := 150) rfl ?_
        refine own_ifN X149 hx hby at_150 ((if0 _ _).trans (teq (by decide)).2) (pc' := 153) rfl ?_
        refine own_aload X149 hx hby at_153 rfl rfl (pc' := 155) rfl ?_
        refine own_aload X149 hx hby at_155 rfl rfl (pc' := 157) rfl ?_
        refine own_iload X149 hx hby at_157 rfl (pc' := 159) rfl ?_
        refine own_callV X149 hx hby hZ (by exact hml) hown (own_w hw 97 rfl) (own_w hw 98 rfl) (own_w hw 100 rfl) (own_w hw 99 rfl) (own_w hw 9 rfl) (own_w hw 101 rfl) (by decide) rfl 0 (by decide) (by decide) (by decide) (by decide) (argsL := [(.ref aC), (.int vc)]) (rest := []) (lenOf pd__Lcom_example_collectary_collectary_broker_Grid_Axis_I_V rfl) rfl (Nat.le_of_eq rfl) E155_b124 (rmCut_1_0_0_2_0 l Z a0 hw b124 aW aC cu cn13 c1 rl es r0 rn13 rn12 vc va vb (((1 : Int32) + (1 : Int32)) + (1 : Int32)) n0 T149.heap n0_cu n0_rl n0_es Z149 oC  ne_aC_aW E155_b124 E151_aC F153_ordinal S154_WORD H149_0 H149_1 H149_2 H149_3 H149_4 H149_5 H149_6 H149_7 H149_8 H149_9 H149_10 H149_11 H149_12 H149_13 H149_14 H149_15 H149_16 H149_17) at_159 (pc' := 162) rfl ?_
        intro v156 T156 L156 X156 hQ156
        obtain ⟨rfl, Nq156, K156, cn14, t14_0, t14_1, t14_2, H156_0, H156_1, H156_2, H156_3, H156_4, H156_5, H156_6, H156_7, H156_8, H156_9, H156_10, H156_11, H156_12, H156_13, H156_14, H156_15, H156_16, H156_17⟩ := hQ156
        have E157_aW := E150_aW.keep K156
        have E158_aC := E151_aC.keep K156
        have F159_ordinal := F152_ordinal.keep K156 (ninS ne_aW_cu (ninS ne_aW_rl (ninS ne_aW_es nin0)))
        have F160_ordinal := F153_ordinal.keep K156 (ninS ne_aC_cu (ninS ne_aC_rl (ninS ne_aC_es nin0)))
        have S161_WORD := own_stakeep S154_WORD K156 (allS H149_2.plain (allS (own_plainE H149_6) (allS H149_10.plain all0)))
        have E162_b124 := E155_b124.keep K156
        have N156 := Fr.app N149 Nq156
        have Z156 : n0 ≤ T156.heap.size := Nat.le_trans Z149 K156.1
        show GoP p e below Φ (T156.setTop (mkF m 162 #[.val (.int p1), .val (.int p2), .val (.int p3), .val (.int p4), .val (.int va), .val (.int vb), .val (.int vc), .val (.ref aW), .val (.ref aC), .val (.ref b124), .val (.int (0 : Int32))] []))
        refine own_aload X156 hx hby at_162 rfl rfl (pc' := 164) rfl ?_
        refine own_aload X156 hx hby at_164 rfl rfl (pc' := 166) rfl ?_
        refine own_iconst X156 hx hby at_166 (v := (0 : Int32)) rfl (pc' := 167) rfl ?_
        refine own_callV X156 hx hby hZ (by exact hml) hown (own_w hw 176 rfl) (own_w hw 177 rfl) (own_w hw 179 rfl) (own_w hw 178 rfl) (own_w hw 9 rfl) (own_w hw 180 rfl) (by decide) rfl 0 (by decide) (by decide) (by decide) (by decide) (argsL := [(.ref aW), (.int (0 : Int32))]) (rest := []) (lenOf pd__Lcom_example_collectary_collectary_broker_Grid_Axis_I_I rfl) rfl (Nat.le_of_eq rfl) E162_b124 (rmSt0_2_0 l Z a0 hw b124 aW cu cn13 cn14 va vb T156.heap E157_aW F159_ordinal H156_0 H156_2 H156_4) at_167 (pc' := 170) rfl ?_
        intro v163 T163 L163 X163 hQ163
        obtain ⟨rfl, rfl, e163⟩ := hQ163
        rw [List.append_nil] at X163
        replace e163 : T163.heap = T156.heap := e163
        show GoP p e below Φ (T163.setTop (mkF m 170 #[.val (.int p1), .val (.int p2), .val (.int p3), .val (.int p4), .val (.int va), .val (.int vb), .val (.int vc), .val (.ref aW), .val (.ref aC), .val (.ref b124), .val (.int (0 : Int32))] [(.int (0 : Int32))]))
        refine own_ifN X163 hx hby at_170 ((if0 _ _).trans (teq (by decide)).2) (pc' := 173) rfl ?_
        refine own_aload X163 hx hby at_173 rfl rfl (pc' := 175) rfl ?_
        refine own_aload X163 hx hby at_175 rfl rfl (pc' := 177) rfl ?_
        refine own_iconst X163 hx hby at_177 (v := (1 : Int32)) rfl (pc' := 178) rfl ?_
        refine own_callV X163 hx hby hZ (by exact hml) hown (own_w hw 176 rfl) (own_w hw 177 rfl) (own_w hw 179 rfl) (own_w hw 178 rfl) (own_w hw 9 rfl) (own_w hw 180 rfl) (by decide) e163 0 (by decide) (by decide) (by decide) (by decide) (argsL := [(.ref aW), (.int (1 : Int32))]) (rest := []) (lenOf pd__Lcom_example_collectary_collectary_broker_Grid_Axis_I_I rfl) rfl (Nat.le_of_eq rfl) E162_b124 (rmSt0_2_1 l Z a0 hw b124 aW cu cn13 cn14 va vb T156.heap E157_aW F159_ordinal H156_0 H156_2 H156_4) at_178 (pc' := 181) rfl ?_
        intro v164 T164 L164 X164 hQ164
        obtain ⟨rfl, rfl, e164⟩ := hQ164
        rw [List.append_nil] at X164
        replace e164 : T164.heap = T156.heap := e164
        show GoP p e below Φ (T164.setTop (mkF m 181 #[.val (.int p1), .val (.int p2), .val (.int p3), .val (.int p4), .val (.int va), .val (.int vb), .val (.int vc), .val (.ref aW), .val (.ref aC), .val (.ref b124), .val (.int (0 : Int32))] [(.int va)]))
        refine own_iload X164 hx hby at_181 rfl (pc' := 183) rfl ?_
        refine own_icmpN X164 hx hby at_183 (teq rfl).2 (pc' := 186) rfl ?_
        refine own_aload X164 hx hby at_186 rfl rfl (pc' := 188) rfl ?_
        refine own_aload X164 hx hby at_188 rfl rfl (pc' := 190) rfl ?_
        refine own_iconst X164 hx hby at_190 (v := (2 : Int32)) rfl (pc' := 191) rfl ?_
        refine own_callV X164 hx hby hZ (by exact hml) hown (own_w hw 176 rfl) (own_w hw 177 rfl) (own_w hw 179 rfl) (own_w hw 178 rfl) (own_w hw 9 rfl) (own_w hw 180 rfl) (by decide) e164 0 (by decide) (by decide) (by decide) (by decide) (argsL := [(.ref aW), (.int (2 : Int32))]) (rest := []) (lenOf pd__Lcom_example_collectary_collectary_broker_Grid_Axis_I_I rfl) rfl (Nat.le_of_eq rfl) E162_b124 (rmSt0_2_2 l Z a0 hw b124 aW cu cn13 cn14 va vb T156.heap E157_aW F159_ordinal H156_0 H156_2 H156_4) at_191 (pc' := 194) rfl ?_
        intro v165 T165 L165 X165 hQ165
        obtain ⟨rfl, rfl, e165⟩ := hQ165
        rw [List.append_nil] at X165
        replace e165 : T165.heap = T156.heap := e165
        show GoP p e below Φ (T165.setTop (mkF m 194 #[.val (.int p1), .val (.int p2), .val (.int p3), .val (.int p4), .val (.int va), .val (.int vb), .val (.int vc), .val (.ref aW), .val (.ref aC), .val (.ref b124), .val (.int (0 : Int32))] [(.int vb)]))
        refine own_iload X165 hx hby at_194 rfl (pc' := 196) rfl ?_
        refine own_icmpN X165 hx hby at_196 (teq rfl).2 (pc' := 199) rfl ?_
        refine own_aload X165 hx hby at_199 rfl rfl (pc' := 201) rfl ?_
        refine own_aload X165 hx hby at_201 rfl rfl (pc' := 203) rfl ?_
        refine own_iconst X165 hx hby at_203 (v := (0 : Int32)) rfl (pc' := 204) rfl ?_
        refine own_callV X165 hx hby hZ (by exact hml) hown (own_w hw 176 rfl) (own_w hw 177 rfl) (own_w hw 179 rfl) (own_w hw 178 rfl) (own_w hw 9 rfl) (own_w hw 180 rfl) (by decide) e165 0 (by decide) (by decide) (by decide) (by decide) (argsL := [(.ref aC), (.int (0 : Int32))]) (rest := []) (lenOf pd__Lcom_example_collectary_collectary_broker_Grid_Axis_I_I rfl) rfl (Nat.le_of_eq rfl) E162_b124 (rmSt1_1_0 l Z a0 hw b124 aC cu cn13 cn14 vc T156.heap E158_aC F160_ordinal H156_0 H156_2 H156_5) at_204 (pc' := 207) rfl ?_
        intro v166 T166 L166 X166 hQ166
        obtain ⟨rfl, rfl, e166⟩ := hQ166
        rw [List.append_nil] at X166
        replace e166 : T166.heap = T156.heap := e166
        show GoP p e below Φ (T166.setTop (mkF m 207 #[.val (.int p1), .val (.int p2), .val (.int p3), .val (.int p4), .val (.int va), .val (.int vb), .val (.int vc), .val (.ref aW), .val (.ref aC), .val (.ref b124), .val (.int (0 : Int32))] [(.int (0 : Int32))]))
        refine own_ifN X166 hx hby at_207 ((if0 _ _).trans (teq (by decide)).2) (pc' := 210) rfl ?_
        refine own_aload X166 hx hby at_210 rfl rfl (pc' := 212) rfl ?_
        refine own_aload X166 hx hby at_212 rfl rfl (pc' := 214) rfl ?_
        refine own_iconst X166 hx hby at_214 (v := (1 : Int32)) rfl (pc' := 215) rfl ?_
        refine own_callV X166 hx hby hZ (by exact hml) hown (own_w hw 176 rfl) (own_w hw 177 rfl) (own_w hw 179 rfl) (own_w hw 178 rfl) (own_w hw 9 rfl) (own_w hw 180 rfl) (by decide) e166 0 (by decide) (by decide) (by decide) (by decide) (argsL := [(.ref aC), (.int (1 : Int32))]) (rest := []) (lenOf pd__Lcom_example_collectary_collectary_broker_Grid_Axis_I_I rfl) rfl (Nat.le_of_eq rfl) E162_b124 (rmSt1_1_1 l Z a0 hw b124 aC cu cn13 cn14 vc T156.heap E158_aC F160_ordinal H156_0 H156_2 H156_5) at_215 (pc' := 218) rfl ?_
        intro v167 T167 L167 X167 hQ167
        obtain ⟨rfl, rfl, e167⟩ := hQ167
        rw [List.append_nil] at X167
        replace e167 : T167.heap = T156.heap := e167
        show GoP p e below Φ (T167.setTop (mkF m 218 #[.val (.int p1), .val (.int p2), .val (.int p3), .val (.int p4), .val (.int va), .val (.int vb), .val (.int vc), .val (.ref aW), .val (.ref aC), .val (.ref b124), .val (.int (0 : Int32))] [(.int vc)]))
        refine own_iload X167 hx hby at_218 rfl (pc' := 220) rfl ?_
        refine own_icmpN X167 hx hby at_220 (teq rfl).2 (pc' := 223) rfl ?_
        refine own_iconst X167 hx hby at_223 (v := (1 : Int32)) rfl (pc' := 224) rfl ?_
        refine own_goto X167 hx hby at_224 (by decide) (pc' := 228) (by decide) ?_
        exact own_retN X167 hx hby fin hret (by simp) rfl at_228 (by decide) (by decide) ⟨rfl, N156⟩
      · refine own_ifN X133 hx hby at_106 ((if0 _ _).trans (feq hc106_141).1) (pc' := 109) rfl ?_
        refine own_aload X133 hx hby at_109 rfl rfl (pc' := 111) rfl ?_
        refine own_aload X133 hx hby at_111 rfl rfl (pc' := 113) rfl ?_
        refine own_iload X133 hx hby at_113 rfl (pc' := 115) rfl ?_
        refine own_callV X133 hx hby hZ (by exact hml) hown (own_w hw 97 rfl) (own_w hw 98 rfl) (own_w hw 100 rfl) (own_w hw 99 rfl) (own_w hw 9 rfl) (own_w hw 101 rfl) (by decide) rfl 0 (by decide) (by decide) (by decide) (by decide) (argsL := [(.ref aW), (.int va)]) (rest := []) (lenOf pd__Lcom_example_collectary_collectary_broker_Grid_Axis_I_V rfl) rfl (Nat.le_of_eq rfl) Eg133 (rmCut_0_0_0_0_0 l Z a0 hw b124 aW aC cu c0 c1 rl es r0 va (1 : Int32) n0 T133.heap n0_cu n0_rl n0_es Z133 oW   Eg133 E134_aW F136_ordinal S138_WORD H133_0 H133_1 H133_2 H133_3 H133_4 H133_5 H133_6 H133_7 H133_8 H133_9 H133_10 H133_11 H133_12 H133_13) at_115 (pc' := 118) rfl ?_
        intro v168 T168 L168 X168 hQ168
        obtain ⟨rfl, Nq168, K168, cn15, rn15, H168_0, H168_1, H168_2, H168_3, H168_4, H168_5, H168_6, H168_7, H168_8, H168_9, H168_10, H168_11, H168_12, H168_13, H168_14, H168_15⟩ := hQ168
        have E169_aW := E134_aW.keep K168
        have E170_aC := E135_aC.keep K168
        have F171_ordinal := F136_ordinal.keep K168 (ninS ne_aW_cu (ninS ne_aW_rl (ninS ne_aW_es nin0)))
        have F172_ordinal := F137_ordinal.keep K168 (ninS ne_aC_cu (ninS ne_aC_rl (ninS ne_aC_es nin0)))
        have S173_WORD := own_stakeep S138_WORD K168 (allS H133_2.plain (allS (own_plainE H133_6) (allS H133_10.plain all0)))
        have E174_b124 := Eg133.keep K168
        have N168 := Fr.app N133 Nq168
        have Z168 : n0 ≤ T168.heap.size := Nat.le_trans Z133 K168.1
        show GoP p e below Φ (T168.setTop (mkF m 118 #[.val (.int p1), .val (.int p2), .val (.int p3), .val (.int p4), .val (.int va), .val (.int vb), .val (.int vc), .val (.ref aW), .val (.ref aC), .val (.ref b124), .val (.int (0 : Int32))] []))
        refine own_aload X168 hx hby at_118 rfl rfl (pc' := 120) rfl ?_
        refine own_aload X168 hx hby at_120 rfl rfl (pc' := 122) rfl ?_
        refine own_iload X168 hx hby at_122 rfl (pc' := 124) rfl ?_
        refine own_callV X168 hx hby hZ (by exact hml) hown (own_w hw 97 rfl) (own_w hw 98 rfl) (own_w hw 100 rfl) (own_w hw 99 rfl) (own_w hw 9 rfl) (own_w hw 101 rfl) (by decide) rfl 0 (by decide) (by decide) (by decide) (by decide) (argsL := [(.ref aW), (.int vb)]) (rest := []) (lenOf pd__Lcom_example_collectary_collectary_broker_Grid_Axis_I_V rfl) rfl (Nat.le_of_eq rfl) E174_b124 (rmCut_0_1_1_1_0 l Z a0 hw b124 aW aC cu cn15 c1 rl es r0 rn15 vb va ((1 : Int32) + (1 : Int32)) n0 T168.heap n0_cu n0_rl n0_es Z168 oW hl1  E174_b124 E169_aW F171_ordinal S173_WORD H168_0 H168_1 H168_2 H168_3 H168_4 H168_5 H168_6 H168_7 H168_8 H168_9 H168_10 H168_11 H168_12 H168_13 H168_14 H168_15) at_124 (pc' := 127) rfl ?_
        intro v175 T175 L175 X175 hQ175
        obtain ⟨rfl, Nq175, K175, cn16, rn16, H175_0, H175_1, H175_2, H175_3, H175_4, H175_5, H175_6, H175_7, H175_8, H175_9, H175_10, H175_11, H175_12, H175_13, H175_14, H175_15, H175_16, H175_17⟩ := hQ175
        have E176_aW := E169_aW.keep K175
        have E177_aC := E170_aC.keep K175
        have F178_ordinal := F171_ordinal.keep K175 (ninS ne_aW_cu (ninS ne_aW_rl (ninS ne_aW_es nin0)))
        have F179_ordinal := F172_ordinal.keep K175 (ninS ne_aC_cu (ninS ne_aC_rl (ninS ne_aC_es nin0)))
        have S180_WORD := own_stakeep S173_WORD K175 (allS H168_2.plain (allS (own_plainE H168_6) (allS H168_10.plain all0)))
        have E181_b124 := E174_b124.keep K175
        have N175 := Fr.app N168 Nq175
        have Z175 : n0 ≤ T175.heap.size := Nat.le_trans Z168 K175.1
        show GoP p e below Φ (T175.setTop (mkF m 127 #[.val (.int p1), .val (.int p2), .val (.int p3), .val (.int p4), .val (.int va), .val (.int vb), .val (.int vc), .val (.ref aW), .val (.ref aC), .val (.ref b124), .val (.int (0 : Int32))] []))
        refine own_goto X175 hx hby at_127 (by decide) (pc' := 148) (by decide) ?_
        refine own_iload X175 hx hby at_148 rfl (pc' := 150) rfl ?_
        refine own_ifN X175 hx hby at_150 ((if0 _ _).trans (teq (by decide)).2) (pc' := 153) rfl ?_
        refine own_aload X175 hx hby at_153 rfl rfl (pc' := 155) rfl ?_
        refine own_aload X175 hx hby at_155 rfl rfl (pc' := 157) rfl ?_
        refine own_iload X175 hx hby at_157 rfl (pc' := 159) rfl ?_
        refine own_callV X175 hx hby hZ (by exact hml) hown (own_w hw 97 rfl) (own_w hw 98 rfl) (own_w hw 100 rfl) (own_w hw 99 rfl) (own_w hw 9 rfl) (own_w hw 101 rfl) (by decide) rfl 0 (by decide) (by decide) (by decide) (by decide) (argsL := [(.ref aC), (.int vc)]) (rest := []) (lenOf pd__Lcom_example_collectary_collectary_broker_Grid_Axis_I_V rfl) rfl (Nat.le_of_eq rfl) E181_b124 (rmCut_1_0_0_2_0 l Z a0 hw b124 aW aC cu cn16 c1 rl es r0 rn15 rn16 vc va vb (((1 : Int32) + (1 : Int32)) + (1 : Int32)) n0 T175.heap n0_cu n0_rl n0_es Z175 oC  ne_aC_aW E181_b124 E177_aC F179_ordinal S180_WORD H175_0 H175_1 H175_2 H175_3 H175_4 H175_5 H175_6 H175_7 H175_8 H175_9 H175_10 H175_11 H175_12 H175_13 H175_14 H175_15 H175_16 H175_17) at_159 (pc' := 162) rfl ?_
        intro v182 T182 L182 X182 hQ182
        obtain ⟨rfl, Nq182, K182, cn17, t17_0, t17_1, t17_2, H182_0, H182_1, H182_2, H182_3, H182_4, H182_5, H182_6, H182_7, H182_8, H182_9, H182_10, H182_11, H182_12, H182_13, H182_14, H182_15, H182_16, H182_17⟩ := hQ182
        have E183_aW := E176_aW.keep K182
        have E184_aC := E177_aC.keep K182
        have F185_ordinal := F178_ordinal.keep K182 (ninS ne_aW_cu (ninS ne_aW_rl (ninS ne_aW_es nin0)))
        have F186_ordinal := F179_ordinal.keep K182 (ninS ne_aC_cu (ninS ne_aC_rl (ninS ne_aC_es nin0)))
        have S187_WORD := own_stakeep S180_WORD K182 (allS H175_2.plain (allS (own_plainE H175_6) (allS H175_10.plain all0)))
        have E188_b124 := E181_b124.keep K182
        have N182 := Fr.app N175 Nq182
        have Z182 : n0 ≤ T182.heap.size := Nat.le_trans Z175 K182.1
        show GoP p e below Φ (T182.setTop (mkF m 162 #[.val (.int p1), .val (.int p2), .val (.int p3), .val (.int p4), .val (.int va), .val (.int vb), .val (.int vc), .val (.ref aW), .val (.ref aC), .val (.ref b124), .val (.int (0 : Int32))] []))
        refine own_aload X182 hx hby at_162 rfl rfl (pc' := 164) rfl ?_
        refine own_aload X182 hx hby at_164 rfl rfl (pc' := 166) rfl ?_
        refine own_iconst X182 hx hby at_166 (v := (0 : Int32)) rfl (pc' := 167) rfl ?_
        refine own_callV X182 hx hby hZ (by exact hml) hown (own_w hw 176 rfl) (own_w hw 177 rfl) (own_w hw 179 rfl) (own_w hw 178 rfl) (own_w hw 9 rfl) (own_w hw 180 rfl) (by decide) rfl 0 (by decide) (by decide) (by decide) (by decide) (argsL := [(.ref aW), (.int (0 : Int32))]) (rest := []) (lenOf pd__Lcom_example_collectary_collectary_broker_Grid_Axis_I_I rfl) rfl (Nat.le_of_eq rfl) E188_b124 (rmSt0_2_0 l Z a0 hw b124 aW cu cn16 cn17 va vb T182.heap E183_aW F185_ordinal H182_0 H182_2 H182_4) at_167 (pc' := 170) rfl ?_
        intro v189 T189 L189 X189 hQ189
        obtain ⟨rfl, rfl, e189⟩ := hQ189
        rw [List.append_nil] at X189
        replace e189 : T189.heap = T182.heap := e189
        show GoP p e below Φ (T189.setTop (mkF m 170 #[.val (.int p1), .val (.int p2), .val (.int p3), .val (.int p4), .val (.int va), .val (.int vb), .val (.int vc), .val (.ref aW), .val (.ref aC), .val (.ref b124), .val (.int (0 : Int32))] [(.int (0 : Int32))]))
        refine own_ifN X189 hx hby at_170 ((if0 _ _).trans (teq (by decide)).2) (pc' := 173) rfl ?_
        refine own_aload X189 hx hby at_173 rfl rfl (pc' := 175) rfl ?_
        refine own_aload X189 hx hby at_175 rfl rfl (pc' := 177) rfl ?_
        refine own_iconst X189 hx hby at_177 (v := (1 : Int32)) rfl (pc' := 178) rfl ?_
        refine own_callV X189 hx hby hZ (by exact hml) hown (own_w hw 176 rfl) (own_w hw 177 rfl) (own_w hw 179 rfl) (own_w hw 178 rfl) (own_w hw 9 rfl) (own_w hw 180 rfl) (by decide) e189 0 (by decide) (by decide) (by decide) (by decide) (argsL := [(.ref aW), (.int (1 : Int32))]) (rest := []) (lenOf pd__Lcom_example_collectary_collectary_broker_Grid_Axis_I_I rfl) rfl (Nat.le_of_eq rfl) E188_b124 (rmSt0_2_1 l Z a0 hw b124 aW cu cn16 cn17 va vb T182.heap E183_aW F185_ordinal H182_0 H182_2 H182_4) at_178 (pc' := 181) rfl ?_
        intro v190 T190 L190 X190 hQ190
        obtain ⟨rfl, rfl, e190⟩ := hQ190
        rw [List.append_nil] at X190
        replace e190 : T190.heap = T182.heap := e190
        show GoP p e below Φ (T190.setTop (mkF m 181 #[.val (.int p1), .val (.int p2), .val (.int p3), .val (.int p4), .val (.int va), .val (.int vb), .val (.int vc), .val (.ref aW), .val (.ref aC), .val (.ref b124), .val (.int (0 : Int32))] [(.int va)]))
        refine own_iload X190 hx hby at_181 rfl (pc' := 183) rfl ?_
        refine own_icmpN X190 hx hby at_183 (teq rfl).2 (pc' := 186) rfl ?_
        refine own_aload X190 hx hby at_186 rfl rfl (pc' := 188) rfl ?_
        refine own_aload X190 hx hby at_188 rfl rfl (pc' := 190) rfl ?_
        refine own_iconst X190 hx hby at_190 (v := (2 : Int32)) rfl (pc' := 191) rfl ?_
        refine own_callV X190 hx hby hZ (by exact hml) hown (own_w hw 176 rfl) (own_w hw 177 rfl) (own_w hw 179 rfl) (own_w hw 178 rfl) (own_w hw 9 rfl) (own_w hw 180 rfl) (by decide) e190 0 (by decide) (by decide) (by decide) (by decide) (argsL := [(.ref aW), (.int (2 : Int32))]) (rest := []) (lenOf pd__Lcom_example_collectary_collectary_broker_Grid_Axis_I_I rfl) rfl (Nat.le_of_eq rfl) E188_b124 (rmSt0_2_2 l Z a0 hw b124 aW cu cn16 cn17 va vb T182.heap E183_aW F185_ordinal H182_0 H182_2 H182_4) at_191 (pc' := 194) rfl ?_
        intro v191 T191 L191 X191 hQ191
        obtain ⟨rfl, rfl, e191⟩ := hQ191
        rw [List.append_nil] at X191
        replace e191 : T191.heap = T182.heap := e191
        show GoP p e below Φ (T191.setTop (mkF m 194 #[.val (.int p1), .val (.int p2), .val (.int p3), .val (.int p4), .val (.int va), .val (.int vb), .val (.int vc), .val (.ref aW), .val (.ref aC), .val (.ref b124), .val (.int (0 : Int32))] [(.int vb)]))
        refine own_iload X191 hx hby at_194 rfl (pc' := 196) rfl ?_
        refine own_icmpN X191 hx hby at_196 (teq rfl).2 (pc' := 199) rfl ?_
        refine own_aload X191 hx hby at_199 rfl rfl (pc' := 201) rfl ?_
        refine own_aload X191 hx hby at_201 rfl rfl (pc' := 203) rfl ?_
        refine own_iconst X191 hx hby at_203 (v := (0 : Int32)) rfl (pc' := 204) rfl ?_
        refine own_callV X191 hx hby hZ (by exact hml) hown (own_w hw 176 rfl) (own_w hw 177 rfl) (own_w hw 179 rfl) (own_w hw 178 rfl) (own_w hw 9 rfl) (own_w hw 180 rfl) (by decide) e191 0 (by decide) (by decide) (by decide) (by decide) (argsL := [(.ref aC), (.int (0 : Int32))]) (rest := []) (lenOf pd__Lcom_example_collectary_collectary_broker_Grid_Axis_I_I rfl) rfl (Nat.le_of_eq rfl) E188_b124 (rmSt1_1_0 l Z a0 hw b124 aC cu cn16 cn17 vc T182.heap E184_aC F186_ordinal H182_0 H182_2 H182_5) at_204 (pc' := 207) rfl ?_
        intro v192 T192 L192 X192 hQ192
        obtain ⟨rfl, rfl, e192⟩ := hQ192
        rw [List.append_nil] at X192
        replace e192 : T192.heap = T182.heap := e192
        show GoP p e below Φ (T192.setTop (mkF m 207 #[.val (.int p1), .val (.int p2), .val (.int p3), .val (.int p4), .val (.int va), .val (.int vb), .val (.int vc), .val (.ref aW), .val (.ref aC), .val (.ref b124), .val (.int (0 : Int32))] [(.int (0 : Int32))]))
        refine own_ifN X192 hx hby at_207 ((if0 _ _).trans (teq (by decide)).2) (pc' := 210) rfl ?_
        refine own_aload X192 hx hby at_210 rfl rfl (pc' := 212) rfl ?_
        refine own_aload X192 hx hby at_212 rfl rfl (pc' := 214) rfl ?_
        refine own_iconst X192 hx hby at_214 (v := (1 : Int32)) rfl (pc' := 215) rfl ?_
        refine own_callV X192 hx hby hZ (by exact hml) hown (own_w hw 176 rfl) (own_w hw 177 rfl) (own_w hw 179 rfl) (own_w hw 178 rfl) (own_w hw 9 rfl) (own_w hw 180 rfl) (by decide) e192 0 (by decide) (by decide) (by decide) (by decide) (argsL := [(.ref aC), (.int (1 : Int32))]) (rest := []) (lenOf pd__Lcom_example_collectary_collectary_broker_Grid_Axis_I_I rfl) rfl (Nat.le_of_eq rfl) E188_b124 (rmSt1_1_1 l Z a0 hw b124 aC cu cn16 cn17 vc T182.heap E184_aC F186_ordinal H182_0 H182_2 H182_5) at_215 (pc' := 218) rfl ?_
        intro v193 T193 L193 X193 hQ193
        obtain ⟨rfl, rfl, e193⟩ := hQ193
        rw [List.append_nil] at X193
        replace e193 : T193.heap = T182.heap := e193
        show GoP p e below Φ (T193.setTop (mkF m 218 #[.val (.int p1), .val (.int p2), .val (.int p3), .val (.int p4), .val (.int va), .val (.int vb), .val (.int vc), .val (.ref aW), .val (.ref aC), .val (.ref b124), .val (.int (0 : Int32))] [(.int vc)]))
        refine own_iload X193 hx hby at_218 rfl (pc' := 220) rfl ?_
        refine own_icmpN X193 hx hby at_220 (teq rfl).2 (pc' := 223) rfl ?_
        refine own_iconst X193 hx hby at_223 (v := (1 : Int32)) rfl (pc' := 224) rfl ?_
        refine own_goto X193 hx hby at_224 (by decide) (pc' := 228) (by decide) ?_
        exact own_retN X193 hx hby fin hret (by simp) rfl at_228 (by decide) (by decide) ⟨rfl, N182⟩
    · refine own_ifN X133 hx hby at_79 ((if0 _ _).trans (feq hc79_140).1) (pc' := 82) rfl ?_
      refine own_iconst X133 hx hby at_82 (v := (1 : Int32)) rfl (pc' := 83) rfl ?_
      refine own_goto X133 hx hby at_83 (by decide) (pc' := 87) (by decide) ?_
      refine own_istore X133 hx hby at_87  (Ls' := #[.val (.int p1), .val (.int p2), .val (.int p3), .val (.int p4), .val (.int va), .val (.int vb), .val (.int vc), .val (.ref aW), .val (.ref aC), .val (.ref b124), .val (.int (1 : Int32))]) rfl (pc' := 89) rfl ?_
      refine own_iload X133 hx hby at_89 rfl (pc' := 91) rfl ?_
      refine own_ifN X133 hx hby at_91 ((if0 _ _).trans (feq (by decide)).1) (pc' := 94) rfl ?_
      refine own_aload X133 hx hby at_94 rfl rfl (pc' := 96) rfl ?_
      refine own_aload X133 hx hby at_96 rfl rfl (pc' := 98) rfl ?_
      refine own_iload X133 hx hby at_98 rfl (pc' := 100) rfl ?_
      refine own_callV X133 hx hby hZ (by exact hml) hown (own_w hw 97 rfl) (own_w hw 98 rfl) (own_w hw 100 rfl) (own_w hw 99 rfl) (own_w hw 9 rfl) (own_w hw 101 rfl) (by decide) rfl 0 (by decide) (by decide) (by decide) (by decide) (argsL := [(.ref aC), (.int vc)]) (rest := []) (lenOf pd__Lcom_example_collectary_collectary_broker_Grid_Axis_I_V rfl) rfl (Nat.le_of_eq rfl) Eg133 (rmCut_1_0_0_0_0 l Z a0 hw b124 aW aC cu c0 c1 rl es r0 vc (1 : Int32) n0 T133.heap n0_cu n0_rl n0_es Z133 oC  ne_aC_aW Eg133 E135_aC F137_ordinal S138_WORD H133_0 H133_1 H133_2 H133_3 H133_4 H133_5 H133_6 H133_7 H133_8 H133_9 H133_10 H133_11 H133_12 H133_13) at_100 (pc' := 103) rfl ?_
      intro v194 T194 L194 X194 hQ194
      obtain ⟨rfl, Nq194, K194, cn18, t18_0, H194_0, H194_1, H194_2, H194_3, H194_4, H194_5, H194_6, H194_7, H194_8, H194_9, H194_10, H194_11, H194_12, H194_13⟩ := hQ194
      have E195_aW := E134_aW.keep K194
      have E196_aC := E135_aC.keep K194
      have F197_ordinal := F136_ordinal.keep K194 (ninS ne_aW_cu (ninS ne_aW_rl (ninS ne_aW_es nin0)))
      have F198_ordinal := F137_ordinal.keep K194 (ninS ne_aC_cu (ninS ne_aC_rl (ninS ne_aC_es nin0)))
      have S199_WORD := own_stakeep S138_WORD K194 (allS H133_2.plain (allS (own_plainE H133_6) (allS H133_10.plain all0)))
      have E200_b124 := Eg133.keep K194
      have N194 := Fr.app N133 Nq194
      have Z194 : n0 ≤ T194.heap.size := Nat.le_trans Z133 K194.1
      show GoP p e below Φ (T194.setTop (mkF m 103 #[.val (.int p1), .val (.int p2), .val (.int p3), .val (.int p4), .val (.int va), .val (.int vb), .val (.int vc), .val (.ref aW), .val (.ref aC), .val (.ref b124), .val (.int (1 : Int32))] []))
      refine own_iloadN X194 hx hby at_103 rfl (pc' := 104) rfl ?_
      refine own_iconst X194 hx hby at_104 (v := (2 : Int32)) rfl (pc' := 105) rfl ?_
      refine own_iand X194 hx hby at_105 (pc' := 106) rfl ?_
      by_cases hc106_201 : (p4 &&& (2 : Int32)) = (0 : Int32)
      · refine own_ifY X194 hx hby at_106 ((if0 _ _).trans (teq hc106_201).1) (by decide) (pc' := 130) (by decide) ?_
        refine own_aload X194 hx hby at_130 rfl rfl (pc' := 132) rfl ?_
        refine own_aload X194 hx hby at_132 rfl rfl (pc' := 134) rfl ?_
        refine own_iload X194 hx hby at_134 rfl (pc' := 136) rfl ?_
        refine own_callV X194 hx hby hZ (by exact hml) hown (own_w hw 97 rfl) (own_w hw 98 rfl) (own_w hw 100 rfl) (own_w hw 99 rfl) (own_w hw 9 rfl) (own_w hw 101 rfl) (by decide) rfl 0 (by decide) (by decide) (by decide) (by decide) (argsL := [(.ref aW), (.int vb)]) (rest := []) (lenOf pd__Lcom_example_collectary_collectary_broker_Grid_Axis_I_V rfl) rfl (Nat.le_of_eq rfl) E200_b124 (rmCut_0_0_0_0_1 l Z a0 hw b124 aW aC cu c0 cn18 rl es t18_0 vb vc (1 : Int32) n0 T194.heap n0_cu n0_rl n0_es Z194 oW   E200_b124 E195_aW F197_ordinal S199_WORD H194_0 H194_1 H194_2 H194_3 H194_4 H194_5 H194_6 H194_7 H194_8 H194_9 H194_10 H194_11 H194_12 H194_13) at_136 (pc' := 139) rfl ?_
        intro v202 T202 L202 X202 hQ202
        obtain ⟨rfl, Nq202, K202, cn19, rn19, H202_0, H202_1, H202_2, H202_3, H202_4, H202_5, H202_6, H202_7, H202_8, H202_9, H202_10, H202_11, H202_12, H202_13, H202_14, H202_15⟩ := hQ202
        have E203_aW := E195_aW.keep K202
        have E204_aC := E196_aC.keep K202
        have F205_ordinal := F197_ordinal.keep K202 (ninS ne_aW_cu (ninS ne_aW_rl (ninS ne_aW_es nin0)))
        have F206_ordinal := F198_ordinal.keep K202 (ninS ne_aC_cu (ninS ne_aC_rl (ninS ne_aC_es nin0)))
        have S207_WORD := own_stakeep S199_WORD K202 (allS H194_2.plain (allS (own_plainE H194_6) (allS H194_10.plain all0)))
        have E208_b124 := E200_b124.keep K202
        have N202 := Fr.app N194 Nq202
        have Z202 : n0 ≤ T202.heap.size := Nat.le_trans Z194 K202.1
        show GoP p e below Φ (T202.setTop (mkF m 139 #[.val (.int p1), .val (.int p2), .val (.int p3), .val (.int p4), .val (.int va), .val (.int vb), .val (.int vc), .val (.ref aW), .val (.ref aC), .val (.ref b124), .val (.int (1 : Int32))] []))
        refine own_aload X202 hx hby at_139 rfl rfl (pc' := 141) rfl ?_
        refine own_aload X202 hx hby at_141 rfl rfl (pc' := 143) rfl ?_
        refine own_iload X202 hx hby at_143 rfl (pc' := 145) rfl ?_
        refine own_callV X202 hx hby hZ (by exact hml) hown (own_w hw 97 rfl) (own_w hw 98 rfl) (own_w hw 100 rfl) (own_w hw 99 rfl) (own_w hw 9 rfl) (own_w hw 101 rfl) (by decide) rfl 0 (by decide) (by decide) (by decide) (by decide) (argsL := [(.ref aW), (.int va)]) (rest := []) (lenOf pd__Lcom_example_collectary_collectary_broker_Grid_Axis_I_V rfl) rfl (Nat.le_of_eq rfl) E208_b124 (rmCut_0_1_0_1_1 l Z a0 hw b124 aW aC cu cn19 cn18 rl es t18_0 rn19 va vb vc ((1 : Int32) + (1 : Int32)) n0 T202.heap n0_cu n0_rl n0_es Z202 oW hl0  E208_b124 E203_aW F205_ordinal S207_WORD H202_0 H202_1 H202_2 H202_3 H202_4 H202_5 H202_6 H202_7 H202_8 H202_9 H202_10 H202_11 H202_12 H202_13 H202_14 H202_15) at_145 (pc' := 148) rfl ?_
        intro v209 T209 L209 X209 hQ209
        obtain ⟨rfl, Nq209, K209, cn20, rn20, H209_0, H209_1, H209_2, H209_3, H209_4, H209_5, H209_6, H209_7, H209_8, H209_9, H209_10, H209_11, H209_12, H209_13, H209_14, H209_15, H209_16, H209_17⟩ := hQ209
        have E210_aW := E203_aW.keep K209
        have E211_aC := E204_aC.keep K209
        have F212_ordinal := F205_ordinal.keep K209 (ninS ne_aW_cu (ninS ne_aW_rl (ninS ne_aW_es nin0)))
        have F213_ordinal := F206_ordinal.keep K209 (ninS ne_aC_cu (ninS ne_aC_rl (ninS ne_aC_es nin0)))
        have S214_WORD := own_stakeep S207_WORD K209 (allS H202_2.plain (allS (own_plainE H202_6) (allS H202_10.plain all0)))
        have E215_b124 := E208_b124.keep K209
        have N209 := Fr.app N202 Nq209
        have Z209 : n0 ≤ T209.heap.size := Nat.le_trans Z202 K209.1
        show GoP p e below Φ (T209.setTop (mkF m 148 #[.val (.int p1), .val (.int p2), .val (.int p3), .val (.int p4), .val (.int va), .val (.int vb), .val (.int vc), .val (.ref aW), .val (.ref aC), .val (.ref b124), .val (.int (1 : Int32))] []))
        refine own_iload X209 hx hby at_148 rfl (pc' := 150) rfl ?_
        refine own_ifY X209 hx hby at_150 ((if0 _ _).trans (feq (by decide)).2) (by decide) (pc' := 162) (by decide) ?_
        refine own_aload X209 hx hby at_162 rfl rfl (pc' := 164) rfl ?_
        refine own_aload X209 hx hby at_164 rfl rfl (pc' := 166) rfl ?_
        refine own_iconst X209 hx hby at_166 (v := (0 : Int32)) rfl (pc' := 167) rfl ?_
        refine own_callV X209 hx hby hZ (by exact hml) hown (own_w hw 176 rfl) (own_w hw 177 rfl) (own_w hw 179 rfl) (own_w hw 178 rfl) (own_w hw 9 rfl) (own_w hw 180 rfl) (by decide) rfl 0 (by decide) (by decide) (by decide) (by decide) (argsL := [(.ref aW), (.int (0 : Int32))]) (rest := []) (lenOf pd__Lcom_example_collectary_collectary_broker_Grid_Axis_I_I rfl) rfl (Nat.le_of_eq rfl) E215_b124 (rmSt0_2_0 l Z a0 hw b124 aW cu cn20 cn18 va vb T209.heap E210_aW F212_ordinal H209_0 H209_2 H209_4) at_167 (pc' := 170) rfl ?_
        intro v216 T216 L216 X216 hQ216
        obtain ⟨rfl, rfl, e216⟩ := hQ216
        rw [List.append_nil] at X216
        replace e216 : T216.heap = T209.heap := e216
        show GoP p e below Φ (T216.setTop (mkF m 170 #[.val (.int p1), .val (.int p2), .val (.int p3), .val (.int p4), .val (.int va), .val (.int vb), .val (.int vc), .val (.ref aW), .val (.ref aC), .val (.ref b124), .val (.int (1 : Int32))] [(.int (0 : Int32))]))
        refine own_ifN X216 hx hby at_170 ((if0 _ _).trans (teq (by decide)).2) (pc' := 173) rfl ?_
        refine own_aload X216 hx hby at_173 rfl rfl (pc' := 175) rfl ?_
        refine own_aload X216 hx hby at_175 rfl rfl (pc' := 177) rfl ?_
        refine own_iconst X216 hx hby at_177 (v := (1 : Int32)) rfl (pc' := 178) rfl ?_
        refine own_callV X216 hx hby hZ (by exact hml) hown (own_w hw 176 rfl) (own_w hw 177 rfl) (own_w hw 179 rfl) (own_w hw 178 rfl) (own_w hw 9 rfl) (own_w hw 180 rfl) (by decide) e216 0 (by decide) (by decide) (by decide) (by decide) (argsL := [(.ref aW), (.int (1 : Int32))]) (rest := []) (lenOf pd__Lcom_example_collectary_collectary_broker_Grid_Axis_I_I rfl) rfl (Nat.le_of_eq rfl) E215_b124 (rmSt0_2_1 l Z a0 hw b124 aW cu cn20 cn18 va vb T209.heap E210_aW F212_ordinal H209_0 H209_2 H209_4) at_178 (pc' := 181) rfl ?_
        intro v217 T217 L217 X217 hQ217
        obtain ⟨rfl, rfl, e217⟩ := hQ217
        rw [List.append_nil] at X217
        replace e217 : T217.heap = T209.heap := e217
        show GoP p e below Φ (T217.setTop (mkF m 181 #[.val (.int p1), .val (.int p2), .val (.int p3), .val (.int p4), .val (.int va), .val (.int vb), .val (.int vc), .val (.ref aW), .val (.ref aC), .val (.ref b124), .val (.int (1 : Int32))] [(.int va)]))
        refine own_iload X217 hx hby at_181 rfl (pc' := 183) rfl ?_
        refine own_icmpN X217 hx hby at_183 (teq rfl).2 (pc' := 186) rfl ?_
        refine own_aload X217 hx hby at_186 rfl rfl (pc' := 188) rfl ?_
        refine own_aload X217 hx hby at_188 rfl rfl (pc' := 190) rfl ?_
        refine own_iconst X217 hx hby at_190 (v := (2 : Int32)) rfl (pc' := 191) rfl ?_
        refine own_callV X217 hx hby hZ (by exact hml) hown (own_w hw 176 rfl) (own_w hw 177 rfl) (own_w hw 179 rfl) (own_w hw 178 rfl) (own_w hw 9 rfl) (own_w hw 180 rfl) (by decide) e217 0 (by decide) (by decide) (by decide) (by decide) (argsL := [(.ref aW), (.int (2 : Int32))]) (rest := []) (lenOf pd__Lcom_example_collectary_collectary_broker_Grid_Axis_I_I rfl) rfl (Nat.le_of_eq rfl) E215_b124 (rmSt0_2_2 l Z a0 hw b124 aW cu cn20 cn18 va vb T209.heap E210_aW F212_ordinal H209_0 H209_2 H209_4) at_191 (pc' := 194) rfl ?_
        intro v218 T218 L218 X218 hQ218
        obtain ⟨rfl, rfl, e218⟩ := hQ218
        rw [List.append_nil] at X218
        replace e218 : T218.heap = T209.heap := e218
        show GoP p e below Φ (T218.setTop (mkF m 194 #[.val (.int p1), .val (.int p2), .val (.int p3), .val (.int p4), .val (.int va), .val (.int vb), .val (.int vc), .val (.ref aW), .val (.ref aC), .val (.ref b124), .val (.int (1 : Int32))] [(.int vb)]))
        refine own_iload X218 hx hby at_194 rfl (pc' := 196) rfl ?_
        refine own_icmpN X218 hx hby at_196 (teq rfl).2 (pc' := 199) rfl ?_
        refine own_aload X218 hx hby at_199 rfl rfl (pc' := 201) rfl ?_
        refine own_aload X218 hx hby at_201 rfl rfl (pc' := 203) rfl ?_
        refine own_iconst X218 hx hby at_203 (v := (0 : Int32)) rfl (pc' := 204) rfl ?_
        refine own_callV X218 hx hby hZ (by exact hml) hown (own_w hw 176 rfl) (own_w hw 177 rfl) (own_w hw 179 rfl) (own_w hw 178 rfl) (own_w hw 9 rfl) (own_w hw 180 rfl) (by decide) e218 0 (by decide) (by decide) (by decide) (by decide) (argsL := [(.ref aC), (.int (0 : Int32))]) (rest := []) (lenOf pd__Lcom_example_collectary_collectary_broker_Grid_Axis_I_I rfl) rfl (Nat.le_of_eq rfl) E215_b124 (rmSt1_1_0 l Z a0 hw b124 aC cu cn20 cn18 vc T209.heap E211_aC F213_ordinal H209_0 H209_2 H209_5) at_204 (pc' := 207) rfl ?_
        intro v219 T219 L219 X219 hQ219
        obtain ⟨rfl, rfl, e219⟩ := hQ219
        rw [List.append_nil] at X219
        replace e219 : T219.heap = T209.heap := e219
        show GoP p e below Φ (T219.setTop (mkF m 207 #[.val (.int p1), .val (.int p2), .val (.int p3), .val (.int p4), .val (.int va), .val (.int vb), .val (.int vc), .val (.ref aW), .val (.ref aC), .val (.ref b124), .val (.int (1 : Int32))] [(.int (0 : Int32))]))
        refine own_ifN X219 hx hby at_207 ((if0 _ _).trans (teq (by decide)).2) (pc' := 210) rfl ?_
        refine own_aload X219 hx hby at_210 rfl rfl (pc' := 212) rfl ?_
        refine own_aload X219 hx hby at_212 rfl rfl (pc' := 214) rfl ?_
        refine own_iconst X219 hx hby at_214 (v := (1 : Int32)) rfl (pc' := 215) rfl ?_
        refine own_callV X219 hx hby hZ (by exact hml) hown (own_w hw 176 rfl) (own_w hw 177 rfl) (own_w hw 179 rfl) (own_w hw 178 rfl) (own_w hw 9 rfl) (own_w hw 180 rfl) (by decide) e219 0 (by decide) (by decide) (by decide) (by decide) (argsL := [(.ref aC), (.int (1 : Int32))]) (rest := []) (lenOf pd__Lcom_example_collectary_collectary_broker_Grid_Axis_I_I rfl) rfl (Nat.le_of_eq rfl) E215_b124 (rmSt1_1_1 l Z a0 hw b124 aC cu cn20 cn18 vc T209.heap E211_aC F213_ordinal H209_0 H209_2 H209_5) at_215 (pc' := 218) rfl ?_
        intro v220 T220 L220 X220 hQ220
        obtain ⟨rfl, rfl, e220⟩ := hQ220
        rw [List.append_nil] at X220
        replace e220 : T220.heap = T209.heap := e220
        show GoP p e below Φ (T220.setTop (mkF m 218 #[.val (.int p1), .val (.int p2), .val (.int p3), .val (.int p4), .val (.int va), .val (.int vb), .val (.int vc), .val (.ref aW), .val (.ref aC), .val (.ref b124), .val (.int (1 : Int32))] [(.int vc)]))
        refine own_iload X220 hx hby at_218 rfl (pc' := 220) rfl ?_
        refine own_icmpN X220 hx hby at_220 (teq rfl).2 (pc' := 223) rfl ?_
        refine own_iconst X220 hx hby at_223 (v := (1 : Int32)) rfl (pc' := 224) rfl ?_
        refine own_goto X220 hx hby at_224 (by decide) (pc' := 228) (by decide) ?_
        exact own_retN X220 hx hby fin hret (by simp) rfl at_228 (by decide) (by decide) ⟨rfl, N209⟩
      · refine own_ifN X194 hx hby at_106 ((if0 _ _).trans (feq hc106_201).1) (pc' := 109) rfl ?_
        refine own_aload X194 hx hby at_109 rfl rfl (pc' := 111) rfl ?_
        refine own_aload X194 hx hby at_111 rfl rfl (pc' := 113) rfl ?_
        refine own_iload X194 hx hby at_113 rfl (pc' := 115) rfl ?_
        refine own_callV X194 hx hby hZ (by exact hml) hown (own_w hw 97 rfl) (own_w hw 98 rfl) (own_w hw 100 rfl) (own_w hw 99 rfl) (own_w hw 9 rfl) (own_w hw 101 rfl) (by decide) rfl 0 (by decide) (by decide) (by decide) (by decide) (argsL := [(.ref aW), (.int va)]) (rest := []) (lenOf pd__Lcom_example_collectary_collectary_broker_Grid_Axis_I_V rfl) rfl (Nat.le_of_eq rfl) E200_b124 (rmCut_0_0_0_0_1 l Z a0 hw b124 aW aC cu c0 cn18 rl es t18_0 va vc (1 : Int32) n0 T194.heap n0_cu n0_rl n0_es Z194 oW   E200_b124 E195_aW F197_ordinal S199_WORD H194_0 H194_1 H194_2 H194_3 H194_4 H194_5 H194_6 H194_7 H194_8 H194_9 H194_10 H194_11 H194_12 H194_13) at_115 (pc' := 118) rfl ?_
        intro v221 T221 L221 X221 hQ221
        obtain ⟨rfl, Nq221, K221, cn21, rn21, H221_0, H221_1, H221_2, H221_3, H221_4, H221_5, H221_6, H221_7, H221_8, H221_9, H221_10, H221_11, H221_12, H221_13, H221_14, H221_15⟩ := hQ221
        have E222_aW := E195_aW.keep K221
        have E223_aC := E196_aC.keep K221
        have F224_ordinal := F197_ordinal.keep K221 (ninS ne_aW_cu (ninS ne_aW_rl (ninS ne_aW_es nin0)))
        have F225_ordinal := F198_ordinal.keep K221 (ninS ne_aC_cu (ninS ne_aC_rl (ninS ne_aC_es nin0)))
        have S226_WORD := own_stakeep S199_WORD K221 (allS H194_2.plain (allS (own_plainE H194_6) (allS H194_10.plain all0)))
        have E227_b124 := E200_b124.keep K221
        have N221 := Fr.app N194 Nq221
        have Z221 : n0 ≤ T221.heap.size := Nat.le_trans Z194 K221.1
        show GoP p e below Φ (T221.setTop (mkF m 118 #[.val (.int p1), .val (.int p2), .val (.int p3), .val (.int p4), .val (.int va), .val (.int vb), .val (.int vc), .val (.ref aW), .val (.ref aC), .val (.ref b124), .val (.int (1 : Int32))] []))
        refine own_aload X221 hx hby at_118 rfl rfl (pc' := 120) rfl ?_
        refine own_aload X221 hx hby at_120 rfl rfl (pc' := 122) rfl ?_
        refine own_iload X221 hx hby at_122 rfl (pc' := 124) rfl ?_
        refine own_callV X221 hx hby hZ (by exact hml) hown (own_w hw 97 rfl) (own_w hw 98 rfl) (own_w hw 100 rfl) (own_w hw 99 rfl) (own_w hw 9 rfl) (own_w hw 101 rfl) (by decide) rfl 0 (by decide) (by decide) (by decide) (by decide) (argsL := [(.ref aW), (.int vb)]) (rest := []) (lenOf pd__Lcom_example_collectary_collectary_broker_Grid_Axis_I_V rfl) rfl (Nat.le_of_eq rfl) E227_b124 (rmCut_0_1_1_1_1 l Z a0 hw b124 aW aC cu cn21 cn18 rl es t18_0 rn21 vb va vc ((1 : Int32) + (1 : Int32)) n0 T221.heap n0_cu n0_rl n0_es Z221 oW hl1  E227_b124 E222_aW F224_ordinal S226_WORD H221_0 H221_1 H221_2 H221_3 H221_4 H221_5 H221_6 H221_7 H221_8 H221_9 H221_10 H221_11 H221_12 H221_13 H221_14 H221_15) at_124 (pc' := 127) rfl ?_
        intro v228 T228 L228 X228 hQ228
        obtain ⟨rfl, Nq228, K228, cn22, rn22, H228_0, H228_1, H228_2, H228_3, H228_4, H228_5, H228_6, H228_7, H228_8, H228_9, H228_10, H228_11, H228_12, H228_13, H228_14, H228_15, H228_16, H228_17⟩ := hQ228
        have E229_aW := E222_aW.keep K228
        have E230_aC := E223_aC.keep K228
        have F231_ordinal := F224_ordinal.keep K228 (ninS ne_aW_cu (ninS ne_aW_rl (ninS ne_aW_es nin0)))
        have F232_ordinal := F225_ordinal.keep K228 (ninS ne_aC_cu (ninS ne_aC_rl (ninS ne_aC_es nin0)))
        have S233_WORD := own_stakeep S226_WORD K228 (allS H221_2.plain (allS (own_plainE H221_6) (allS H221_10.plain all0)))
        have E234_b124 := E227_b124.keep K228
        have N228 := Fr.app N221 Nq228
        have Z228 : n0 ≤ T228.heap.size := Nat.le_trans Z221 K228.1
        show GoP p e below Φ (T228.setTop (mkF m 127 #[.val (.int p1), .val (.int p2), .val (.int p3), .val (.int p4), .val (.int va), .val (.int vb), .val (.int vc), .val (.ref aW), .val (.ref aC), .val (.ref b124), .val (.int (1 : Int32))] []))
        refine own_goto X228 hx hby at_127 (by decide) (pc' := 148) (by decide) ?_
        refine own_iload X228 hx hby at_148 rfl (pc' := 150) rfl ?_
        refine own_ifY X228 hx hby at_150 ((if0 _ _).trans (feq (by decide)).2) (by decide) (pc' := 162) (by decide) ?_
        refine own_aload X228 hx hby at_162 rfl rfl (pc' := 164) rfl ?_
        refine own_aload X228 hx hby at_164 rfl rfl (pc' := 166) rfl ?_
        refine own_iconst X228 hx hby at_166 (v := (0 : Int32)) rfl (pc' := 167) rfl ?_
        refine own_callV X228 hx hby hZ (by exact hml) hown (own_w hw 176 rfl) (own_w hw 177 rfl) (own_w hw 179 rfl) (own_w hw 178 rfl) (own_w hw 9 rfl) (own_w hw 180 rfl) (by decide) rfl 0 (by decide) (by decide) (by decide) (by decide) (argsL := [(.ref aW), (.int (0 : Int32))]) (rest := []) (lenOf pd__Lcom_example_collectary_collectary_broker_Grid_Axis_I_I rfl) rfl (Nat.le_of_eq rfl) E234_b124 (rmSt0_2_0 l Z a0 hw b124 aW cu cn22 cn18 va vb T228.heap E229_aW F231_ordinal H228_0 H228_2 H228_4) at_167 (pc' := 170) rfl ?_
        intro v235 T235 L235 X235 hQ235
        obtain ⟨rfl, rfl, e235⟩ := hQ235
        rw [List.append_nil] at X235
        replace e235 : T235.heap = T228.heap := e235
        show GoP p e below Φ (T235.setTop (mkF m 170 #[.val (.int p1), .val (.int p2), .val (.int p3), .val (.int p4), .val (.int va), .val (.int vb), .val (.int vc), .val (.ref aW), .val (.ref aC), .val (.ref b124), .val (.int (1 : Int32))] [(.int (0 : Int32))]))
        refine own_ifN X235 hx hby at_170 ((if0 _ _).trans (teq (by decide)).2) (pc' := 173) rfl ?_
        refine own_aload X235 hx hby at_173 rfl rfl (pc' := 175) rfl ?_
        refine own_aload X235 hx hby at_175 rfl rfl (pc' := 177) rfl ?_
        refine own_iconst X235 hx hby at_177 (v := (1 : Int32)) rfl (pc' := 178) rfl ?_
        refine own_callV X235 hx hby hZ (by exact hml) hown (own_w hw 176 rfl) (own_w hw 177 rfl) (own_w hw 179 rfl) (own_w hw 178 rfl) (own_w hw 9 rfl) (own_w hw 180 rfl) (by decide) e235 0 (by decide) (by decide) (by decide) (by decide) (argsL := [(.ref aW), (.int (1 : Int32))]) (rest := []) (lenOf pd__Lcom_example_collectary_collectary_broker_Grid_Axis_I_I rfl) rfl (Nat.le_of_eq rfl) E234_b124 (rmSt0_2_1 l Z a0 hw b124 aW cu cn22 cn18 va vb T228.heap E229_aW F231_ordinal H228_0 H228_2 H228_4) at_178 (pc' := 181) rfl ?_
        intro v236 T236 L236 X236 hQ236
        obtain ⟨rfl, rfl, e236⟩ := hQ236
        rw [List.append_nil] at X236
        replace e236 : T236.heap = T228.heap := e236
        show GoP p e below Φ (T236.setTop (mkF m 181 #[.val (.int p1), .val (.int p2), .val (.int p3), .val (.int p4), .val (.int va), .val (.int vb), .val (.int vc), .val (.ref aW), .val (.ref aC), .val (.ref b124), .val (.int (1 : Int32))] [(.int va)]))
        refine own_iload X236 hx hby at_181 rfl (pc' := 183) rfl ?_
        refine own_icmpN X236 hx hby at_183 (teq rfl).2 (pc' := 186) rfl ?_
        refine own_aload X236 hx hby at_186 rfl rfl (pc' := 188) rfl ?_
        refine own_aload X236 hx hby at_188 rfl rfl (pc' := 190) rfl ?_
        refine own_iconst X236 hx hby at_190 (v := (2 : Int32)) rfl (pc' := 191) rfl ?_
        refine own_callV X236 hx hby hZ (by exact hml) hown (own_w hw 176 rfl) (own_w hw 177 rfl) (own_w hw 179 rfl) (own_w hw 178 rfl) (own_w hw 9 rfl) (own_w hw 180 rfl) (by decide) e236 0 (by decide) (by decide) (by decide) (by decide) (argsL := [(.ref aW), (.int (2 : Int32))]) (rest := []) (lenOf pd__Lcom_example_collectary_collectary_broker_Grid_Axis_I_I rfl) rfl (Nat.le_of_eq rfl) E234_b124 (rmSt0_2_2 l Z a0 hw b124 aW cu cn22 cn18 va vb T228.heap E229_aW F231_ordinal H228_0 H228_2 H228_4) at_191 (pc' := 194) rfl ?_
        intro v237 T237 L237 X237 hQ237
        obtain ⟨rfl, rfl, e237⟩ := hQ237
        rw [List.append_nil] at X237
        replace e237 : T237.heap = T228.heap := e237
        show GoP p e below Φ (T237.setTop (mkF m 194 #[.val (.int p1), .val (.int p2), .val (.int p3), .val (.int p4), .val (.int va), .val (.int vb), .val (.int vc), .val (.ref aW), .val (.ref aC), .val (.ref b124), .val (.int (1 : Int32))] [(.int vb)]))
        refine own_iload X237 hx hby at_194 rfl (pc' := 196) rfl ?_
        refine own_icmpN X237 hx hby at_196 (teq rfl).2 (pc' := 199) rfl ?_
        refine own_aload X237 hx hby at_199 rfl rfl (pc' := 201) rfl ?_
        refine own_aload X237 hx hby at_201 rfl rfl (pc' := 203) rfl ?_
        refine own_iconst X237 hx hby at_203 (v := (0 : Int32)) rfl (pc' := 204) rfl ?_
        refine own_callV X237 hx hby hZ (by exact hml) hown (own_w hw 176 rfl) (own_w hw 177 rfl) (own_w hw 179 rfl) (own_w hw 178 rfl) (own_w hw 9 rfl) (own_w hw 180 rfl) (by decide) e237 0 (by decide) (by decide) (by decide) (by decide) (argsL := [(.ref aC), (.int (0 : Int32))]) (rest := []) (lenOf pd__Lcom_example_collectary_collectary_broker_Grid_Axis_I_I rfl) rfl (Nat.le_of_eq rfl) E234_b124 (rmSt1_1_0 l Z a0 hw b124 aC cu cn22 cn18 vc T228.heap E230_aC F232_ordinal H228_0 H228_2 H228_5) at_204 (pc' := 207) rfl ?_
        intro v238 T238 L238 X238 hQ238
        obtain ⟨rfl, rfl, e238⟩ := hQ238
        rw [List.append_nil] at X238
        replace e238 : T238.heap = T228.heap := e238
        show GoP p e below Φ (T238.setTop (mkF m 207 #[.val (.int p1), .val (.int p2), .val (.int p3), .val (.int p4), .val (.int va), .val (.int vb), .val (.int vc), .val (.ref aW), .val (.ref aC), .val (.ref b124), .val (.int (1 : Int32))] [(.int (0 : Int32))]))
        refine own_ifN X238 hx hby at_207 ((if0 _ _).trans (teq (by decide)).2) (pc' := 210) rfl ?_
        refine own_aload X238 hx hby at_210 rfl rfl (pc' := 212) rfl ?_
        refine own_aload X238 hx hby at_212 rfl rfl (pc' := 214) rfl ?_
        refine own_iconst X238 hx hby at_214 (v := (1 : Int32)) rfl (pc' := 215) rfl ?_
        refine own_callV X238 hx hby hZ (by exact hml) hown (own_w hw 176 rfl) (own_w hw 177 rfl) (own_w hw 179 rfl) (own_w hw 178 rfl) (own_w hw 9 rfl) (own_w hw 180 rfl) (by decide) e238 0 (by decide) (by decide) (by decide) (by decide) (argsL := [(.ref aC), (.int (1 : Int32))]) (rest := []) (lenOf pd__Lcom_example_collectary_collectary_broker_Grid_Axis_I_I rfl) rfl (Nat.le_of_eq rfl) E234_b124 (rmSt1_1_1 l Z a0 hw b124 aC cu cn22 cn18 vc T228.heap E230_aC F232_ordinal H228_0 H228_2 H228_5) at_215 (pc' := 218) rfl ?_
        intro v239 T239 L239 X239 hQ239
        obtain ⟨rfl, rfl, e239⟩ := hQ239
        rw [List.append_nil] at X239
        replace e239 : T239.heap = T228.heap := e239
        show GoP p e below Φ (T239.setTop (mkF m 218 #[.val (.int p1), .val (.int p2), .val (.int p3), .val (.int p4), .val (.int va), .val (.int vb), .val (.int vc), .val (.ref aW), .val (.ref aC), .val (.ref b124), .val (.int (1 : Int32))] [(.int vc)]))
        refine own_iload X239 hx hby at_218 rfl (pc' := 220) rfl ?_
        refine own_icmpN X239 hx hby at_220 (teq rfl).2 (pc' := 223) rfl ?_
        refine own_iconst X239 hx hby at_223 (v := (1 : Int32)) rfl (pc' := 224) rfl ?_
        refine own_goto X239 hx hby at_224 (by decide) (pc' := 228) (by decide) ?_
        exact own_retN X239 hx hby fin hret (by simp) rfl at_228 (by decide) (by decide) ⟨rfl, N228⟩
set_option maxRecDepth 65536 in
set_option maxHeartbeats 40000000 in
theorem comes_1 {Post : Tables → Env → Array Value → State → Outcome → State → Prop} (hpost : ∀ tb e args s v u, (limb_1_1.after args s (.returned v) u = true ∧ limb_1_2.after args s (.returned v) u = true ∧ True) → FrameEnd s (.returned v) u (Jvm.fieldLocs frame_1_writes args s ++ Jvm.arrayLocs frame_1_arrays args s ++ Jvm.staticLocs frame_1_statics s) 40 192 → Post tb e args s (.returned v) u) :
    ArmFor flags0 classFile x code maxLocals ret World_1 tables_1 room_1 Calls_1 rest_1 Pre_1 Post := by
  intro l hfl _ _ p e ha hc hk s m args below hf hA hF happ hP
  obtain ⟨hcalls, hrest, hpre⟩ := hP
  obtain ⟨-, -, -, hnamed, -, -, -, hat⟩ := (Spec.applies_iff hf).mp happ
  obtain ⟨hg, hn⟩ := and_e (Cond.before_iff.mp (show (Jvm.Cond.and given_1 narrow_1).before args s = true from hpre))
  obtain ⟨g0, hg⟩ := and_e hg
  obtain ⟨w0, w1, w2, w3, rfl⟩ : ∃ w0 w1 w2 w3 : Value, args = #[w0, w1, w2, w3] := by
    have hs : args.size = 4 := by simpa [Cond.value, given_1] using g0
    obtain ⟨L⟩ := args
    match L, hs with
    | [w0, w1, w2, w3], _ => exact ⟨w0, w1, w2, w3, rfl⟩
  obtain ⟨q0, hg⟩ := and_e hg
  obtain ⟨q1, hg⟩ := and_e hg
  obtain ⟨q2, hg⟩ := and_e hg
  have q3 := hg
  have hw := fun d (hd : d ∈ tables_1) => atoms_spec (ws := Jvm.Cond.code x code maxLocals ret :: tables_1) hat d (List.mem_cons_of_mem _ hd)
  have hfit : Fit s := fun {y c} hc i hi => by
    obtain ⟨ha, rfl⟩ := Array.getElem?_eq_some_iff.mp hc
    have q := List.all_eq_true.mp ((Array.all_eq_true_iff_forall_mem.mp hF) _ (Array.getElem_mem ha)) i (List.mem_range.mpr hi)
    simpa [Array.getElem?_eq_getElem hi] using q
  have hsets := (atoms_of jdkStatics_1 (own := restOwn_1) (by rw [← rest_1_c_eq]; exact hrest)).1
  obtain ⟨i0, f0⟩ := is_v q0
  obtain rfl : w0 = (.int i0) := Option.some.inj f0
  obtain ⟨i1, f1⟩ := is_v q1
  obtain rfl : w1 = (.int i1) := Option.some.inj f1
  obtain ⟨i2, f2⟩ := is_v q2
  obtain rfl : w2 = (.int i2) := Option.some.inj f2
  obtain ⟨i3, f3⟩ := is_v q3
  obtain rfl : w3 = (.int i3) := Option.some.inj f3
  obtain ⟨nn0, hn⟩ := and_e hn
  obtain ⟨nn1, hn⟩ := and_e hn
  obtain ⟨nn2, hn⟩ := and_e hn
  have nn3 := hn
  obtain ⟨a_WORD, ev_WORD⟩ := exa_v nn0
  have E_WORD := Exa.start ev_WORD nn0
  have S_WORD := Sta.start ev_WORD (Or.inr ⟨(own_w hw 3 rfl), (own_w hw 4 rfl)⟩)
  obtain ⟨a_COLLECTION, ev_COLLECTION⟩ := exa_v nn1
  have E_COLLECTION := Exa.start ev_COLLECTION nn1
  have S_COLLECTION := Sta.start ev_COLLECTION (Or.inr ⟨(own_w hw 3 rfl), (own_w hw 6 rfl)⟩)
  have O_WORD_ordinal : Fld s s.heap a_WORD "java/lang/Enum" "ordinal" "I" (.int (0 : Int32)) := own_fldI ev_WORD nn2
  have O_COLLECTION_ordinal : Fld s s.heap a_COLLECTION "java/lang/Enum" "ordinal" "I" (.int (1 : Int32)) := own_fldI ev_COLLECTION nn3
  obtain ⟨aD, evD⟩ := exa_v (Cond.before_iff.mp (own_w hsets 7 rfl))
  have SD := Sta.start evD (Or.inr ⟨(own_w hw 27 rfl), own_w hsets 2 rfl⟩)
  have ED := Exa.start evD (Cond.before_iff.mp (own_w hsets 7 rfl))
  obtain ⟨cD, AD⟩ := Arr.start evD (Cond.before_iff.mp (own_w hsets 6 rfl))
  have VD := own_empty evD AD (Cond.before_iff.mp (own_w hsets 8 rfl))
  obtain ⟨n, o, h1, h2, h3, _, L, rfl, ⟨rfl, N⟩, hq⟩ := rm0 l s _ hw i0 i1 i2 i3 a_WORD a_COLLECTION aD s.heap.size s.heap (Nat.le_refl _) E_WORD.lt E_COLLECTION.lt ED.lt (Fld.ne O_COLLECTION_ordinal O_WORD_ordinal (by decide)) E_WORD E_COLLECTION O_WORD_ordinal O_COLLECTION_ordinal S_WORD S_COLLECTION SD VD p e ha hc hk s m _ below hf ((Spec.applies_iff_loose hf).mp happ).1 ⟨rfl, State.Warmed39.refl s, rfl⟩ trivial
  refine ⟨n, _, h1, h2, h3, hpost _ _ _ _ _ _ ⟨Cond.after_iff.mpr rfl, Cond.after_iff.mpr (eq_i res_at (Term.int_eval (1)) rfl), trivial⟩ ⟨hq.1, hq.2.1, (hq.2.2.sift fun y hy => Or.inr (N y hy)).mono (by decide) (by decide)⟩⟩
theorem main_1_1 : Claimed_1_1 := comes_1 fun _ _ _ _ _ _ h hF => ⟨h.1, hF⟩
theorem main_1_2 : Claimed_1_2 := comes_1 fun _ _ _ _ _ _ h hF => ⟨h.2.1, hF⟩
end Jvm.Pilot.@@N@@
namespace Jvm.Pilot.@@N@@
open Jvm Jvm.ClassFile Sem Op Lib Jvm.Free Jvm.Stand Jvm.Pilot.@@N@@.Jvm.D
/-! MADE BY PROGRAM (witnessworld.py) out of the Statement's table words and the real class files: 27 classes; the members and pool entries that the words name. The judged class is class 1, her method 1. -/
namespace start1
open Jvm.ClassFile
def u (s : String) : CpInfo := .utf8 (stringToUtf16 s)
/-- a pool by its gaps: so many unusable entries, then the entry; so many at the end -/
def gap : Nat → List CpInfo → List CpInfo
  | 0, r => r
  | n + 1, r => .unusable :: gap n r
def poolList (es : List (Nat × CpInfo)) (last : Nat) : List CpInfo := es.foldr (fun e r => gap e.1 (e.2 :: r)) (gap last [])
def pool (es : List (Nat × CpInfo)) (last : Nat) : Array CpInfo := ⟨poolList es last⟩
def fileOf (pool : Array CpInfo) (this : Nat) (attrs : Array Attribute := #[]) (ms : Array MethodInfo := #[]) (fl : Nat := 33) (sup : Nat := 0) (ifs : Array Nat := #[]) (fds : Array FieldInfo := #[]) : ClassFile where
  minorVersion := 0
  majorVersion := 65
  constantPool := pool
  accessFlags := fl
  thisClass := this
  superClass := sup
  interfaces := ifs
  fields := fds
  methods := ms
  attributes := attrs
def plain (name : String) (sup : Option ClassId) : Class where
  name := name
  kind := .ordinary
  loader := none
  accessFlags := 33
  super := sup
  interfaces := #[]
  cf := none
  fields := #[]
  methods := #[]
  instanceTypes := #[]
  staticTypes := #[]
  resolved := #[]
  callSites := []
  init := .initialized
  statics := none
  mirror := none

def pool0 : Array CpInfo := pool [(5, u "<init>"), (0, u "()V"), (1, .class_ 10), (1, u "java/lang/Object"), (85, u "clone"), (0, u "()Ljava/lang/Object;")] 26

def k0c0 : Code := { maxStack := 0, maxLocals := 1, code := object_method_1_code, exceptionTable := #[], attributes := #[] }
def k0m0 : Method := { name := "<init>", desc := "()V", sig := { parameters := [], returnType := none }, accessFlags := 1, code := some k0c0 }
def k0m1 : Method := { name := "clone", desc := "()Ljava/lang/Object;", sig := { parameters := [], returnType := some (.object "java/lang/Object") }, accessFlags := 260, code := none }
/-- java/lang/Object -/
def k0 : Class := { plain "java/lang/Object" none with
  accessFlags := 33
  interfaces := #[]
  cf := some (fileOf pool0 8 #[] #[{ accessFlags := 1, nameIndex := 5, descriptorIndex := 6, attributes := #[] }, { accessFlags := 260, nameIndex := 96, descriptorIndex := 97, attributes := #[] }] 33 0 #[] #[])
  fields := #[]
  methods := #[k0m0, k0m1]
  instanceTypes := #[]
  staticTypes := #[]
  resolved := Array.replicate 124 none
  statics := none }

def pool1 : Array CpInfo := pool [(2, .class_ 4), (1, u "java/lang/Object"), (0, u "<init>"), (0, u "()V"), (0, .integer 1073741823), (0, .integer 536870911), (0, .fieldref 10 11), (0, .class_ 12), (0, .nameAndType 13 14), (0, u "com/example/collectary/collectary/broker/Grid$Axis"), (0, u "WORD"), (0, u "Lcom/example/collectary/collectary/broker/Grid$Axis;"), (0, .fieldref 10 16), (0, .nameAndType 17 14), (0, u "COLLECTION"), (0, .class_ 19), (0, u "com/example/collectary/collectary/broker/Grid"), (2, .integer 2147483647), (0, .methodref 18 24), (0, .nameAndType 5 25), (0, u "(II)V"), (0, .methodref 18 27), (0, .nameAndType 28 29), (0, u "addCut"), (0, u "(Lcom/example/collectary/collectary/broker/Grid$Axis;I)V"), (0, .methodref 18 31), (0, .nameAndType 32 33), (0, u "start"), (0, u "(Lcom/example/collectary/collectary/broker/Grid$Axis;I)I"), (0, .class_ 35), (0, u "com/example/collectary/collectary/broker/GridStartPinLaw"), (2, u "law"), (0, u "(IIII)Z")] 5

def k1m0 : Method := { name := "<init>", desc := "()V", sig := { parameters := [], returnType := none }, accessFlags := 1, code := none }
def k1c1 : Code := { maxStack := 4, maxLocals := 11, code := code, exceptionTable := #[], attributes := #[] }
def k1m1 : Method := { name := "law", desc := "(IIII)Z", sig := { parameters := [.int, .int, .int, .int], returnType := some .boolean }, accessFlags := 9, code := some k1c1 }
/-- com/example/collectary/collectary/broker/GridStartPinLaw -/
def k1 : Class := { plain "com/example/collectary/collectary/broker/GridStartPinLaw" (some 0) with
  accessFlags := 49
  interfaces := #[]
  cf := some (fileOf pool1 34 #[] #[{ accessFlags := 1, nameIndex := 5, descriptorIndex := 6, attributes := #[] }, { accessFlags := 9, nameIndex := 38, descriptorIndex := 39, attributes := #[] }] 49 2 #[] #[])
  fields := #[]
  methods := #[k1m0, k1m1]
  instanceTypes := #[]
  staticTypes := #[]
  resolved := Array.replicate 45 none
  statics := none }

def pool2 : Array CpInfo := pool [(1, .class_ 2), (0, u "java/lang/constant/Constable"), (0, .class_ 4), (0, u "java/lang/Object")] 6

/-- java/lang/constant/Constable -/
def k2 : Class := { plain "java/lang/constant/Constable" (some 0) with
  accessFlags := 1537
  interfaces := #[]
  cf := some (fileOf pool2 1 #[] #[] 1537 3 #[] #[])
  fields := #[]
  methods := #[]
  instanceTypes := #[]
  staticTypes := #[]
  resolved := Array.replicate 11 none
  statics := none }

def pool3 : Array CpInfo := pool [(1, .class_ 2), (0, u "java/lang/Comparable"), (0, .class_ 4), (0, u "java/lang/Object")] 7

/-- java/lang/Comparable -/
def k3 : Class := { plain "java/lang/Comparable" (some 0) with
  accessFlags := 1537
  interfaces := #[]
  cf := some (fileOf pool3 1 #[] #[] 1537 3 #[] #[])
  fields := #[]
  methods := #[]
  instanceTypes := #[]
  staticTypes := #[]
  resolved := Array.replicate 12 none
  statics := none }

def pool4 : Array CpInfo := pool [(1, .class_ 2), (0, u "java/io/Serializable"), (0, .class_ 4), (0, u "java/lang/Object")] 2

/-- java/io/Serializable -/
def k4 : Class := { plain "java/io/Serializable" (some 0) with
  accessFlags := 1537
  interfaces := #[]
  cf := some (fileOf pool4 1 #[] #[] 1537 3 #[] #[])
  fields := #[]
  methods := #[]
  instanceTypes := #[]
  staticTypes := #[]
  resolved := Array.replicate 7 none
  statics := none }

def pool5 : Array CpInfo := pool [(2, .class_ 4), (1, u "java/lang/Enum"), (0, u "name"), (0, u "Ljava/lang/String;"), (0, .fieldref 2 8), (0, .nameAndType 9 10), (0, u "ordinal"), (0, u "I"), (1, .class_ 14), (1, u "java/lang/Object"), (4, u "hash"), (86, .class_ 108), (1, u "java/lang/Enum$EnumDesc"), (2, .class_ 112), (0, u "java/lang/constant/Constable"), (0, .class_ 114), (0, u "java/lang/Comparable"), (0, .class_ 116), (0, u "java/io/Serializable"), (9, u "()I")] 77

def k5c0 : Code := { maxStack := 1, maxLocals := 1, code := jdk_37_method_2_code, exceptionTable := #[], attributes := #[] }
def k5m0 : Method := { name := "ordinal", desc := "()I", sig := { parameters := [], returnType := some .int }, accessFlags := 17, code := some k5c0 }
/-- java/lang/Enum -/
def k5 : Class := { plain "java/lang/Enum" (some 0) with
  accessFlags := 1057
  interfaces := #[2, 3, 4]
  cf := some (fileOf pool5 2 #[.nestMembers #[106]] #[{ accessFlags := 17, nameIndex := 9, descriptorIndex := 126, attributes := #[] }] 1057 12 #[111, 113, 115] #[{ accessFlags := 18, nameIndex := 5, descriptorIndex := 6, attributes := #[] }, { accessFlags := 18, nameIndex := 9, descriptorIndex := 10, attributes := #[] }, { accessFlags := 2, nameIndex := 19, descriptorIndex := 10, attributes := #[] }])
  fields := #[{ name := "name", type := (.object "java/lang/String"), accessFlags := 18, slot := 0, constantValue := 0 }, { name := "ordinal", type := .int, accessFlags := 18, slot := 1, constantValue := 0 }, { name := "hash", type := .int, accessFlags := 2, slot := 2, constantValue := 0 }]
  methods := #[k5m0]
  instanceTypes := #[(.object "java/lang/String"), .int, .int]
  staticTypes := #[]
  resolved := Array.replicate 204 none
  statics := none }

def pool6 : Array CpInfo := pool [(1, .class_ 2), (0, u "com/example/collectary/collectary/broker/Grid$Axis"), (2, u "WORD"), (0, u "Lcom/example/collectary/collectary/broker/Grid$Axis;"), (2, u "COLLECTION"), (2, u "$VALUES"), (0, u "[Lcom/example/collectary/collectary/broker/Grid$Axis;"), (6, .class_ 22), (1, u "java/lang/Enum"), (28, .class_ 52), (0, u "com/example/collectary/collectary/broker/Grid")] 2

/-- com/example/collectary/collectary/broker/Grid$Axis -/
def k6 : Class := { plain "com/example/collectary/collectary/broker/Grid$Axis" (some 5) with
  accessFlags := 16432
  interfaces := #[]
  cf := some (fileOf pool6 1 #[.nestHost 51] #[] 16432 20 #[] #[{ accessFlags := 16409, nameIndex := 5, descriptorIndex := 6, attributes := #[] }, { accessFlags := 16409, nameIndex := 9, descriptorIndex := 6, attributes := #[] }, { accessFlags := 4122, nameIndex := 12, descriptorIndex := 13, attributes := #[] }])
  fields := #[{ name := "WORD", type := (.object "com/example/collectary/collectary/broker/Grid$Axis"), accessFlags := 16409, slot := 0, constantValue := 0 }, { name := "COLLECTION", type := (.object "com/example/collectary/collectary/broker/Grid$Axis"), accessFlags := 16409, slot := 1, constantValue := 0 }, { name := "$VALUES", type := (.array (.object "com/example/collectary/collectary/broker/Grid$Axis")), accessFlags := 4122, slot := 2, constantValue := 0 }]
  methods := #[]
  instanceTypes := #[(.object "java/lang/String"), .int, .int]
  staticTypes := #[(.object "com/example/collectary/collectary/broker/Grid$Axis"), (.object "com/example/collectary/collectary/broker/Grid$Axis"), (.array (.object "com/example/collectary/collectary/broker/Grid$Axis"))]
  resolved := Array.replicate 55 none
  statics := some 0 }

def pool7 : Array CpInfo := pool [(1, .methodref 2 3), (0, .class_ 4), (0, .nameAndType 5 6), (0, u "java/lang/Object"), (0, u "<init>"), (0, u "()V"), (0, .fieldref 8 9), (0, .class_ 10), (0, .nameAndType 11 12), (0, u "com/example/collectary/collectary/broker/Grid"), (0, u "ids"), (0, u "[I"), (0, .class_ 12), (0, .fieldref 8 15), (0, .nameAndType 16 17), (0, u "cuts"), (0, u "[[I"), (0, .class_ 19), (0, u "java/util/ArrayList"), (0, .methodref 18 3), (0, .fieldref 8 22), (0, .nameAndType 23 24), (0, u "rows"), (0, u "Ljava/util/List;"), (0, .fieldref 26 27), (0, .class_ 28), (0, .nameAndType 29 30), (0, u "com/example/collectary/collectary/broker/Grid$Axis"), (0, u "WORD"), (0, u "Lcom/example/collectary/collectary/broker/Grid$Axis;"), (0, .methodref 26 32), (0, .nameAndType 33 34), (0, u "ordinal"), (0, u "()I"), (0, .fieldref 26 36), (0, .nameAndType 37 30), (0, u "COLLECTION"), (0, .interfaceMethodref 39 40), (0, .class_ 41), (0, .nameAndType 42 43), (0, u "java/util/List"), (0, u "add"), (0, u "(Ljava/lang/Object;)Z"), (2, u "(II)V"), (4, .interfaceMethodref 39 52), (0, .nameAndType 53 34), (0, u "size"), (25, u "()Ljava/lang/Object;"), (2, .methodref 13 83), (0, .nameAndType 84 79), (0, u "clone"), (11, .methodref 97 98), (0, .class_ 99), (0, .nameAndType 100 101), (0, u "java/util/Arrays"), (0, u "binarySearch"), (0, u "([II)I"), (0, .interfaceMethodref 39 103), (0, .nameAndType 104 105), (0, u "get"), (0, u "(I)Ljava/lang/Object;"), (0, .methodref 8 107), (0, .nameAndType 108 109), (0, u "interval"), (0, u "(Lcom/example/collectary/collectary/broker/Grid$Axis;I)I"), (0, .methodref 111 112), (0, .class_ 113), (0, .nameAndType 114 115), (0, u "java/lang/System"), (0, u "arraycopy"), (0, u "(Ljava/lang/Object;ILjava/lang/Object;II)V"), (0, .interfaceMethodref 39 117), (0, .nameAndType 42 118), (0, u "(ILjava/lang/Object;)V"), (0, .interfaceMethodref 39 120), (0, .nameAndType 121 122), (0, u "set"), (0, u "(ILjava/lang/Object;)Ljava/lang/Object;"), (30, u "start"), (20, u "addCut"), (0, u "(Lcom/example/collectary/collectary/broker/Grid$Axis;I)V")] 35

def k7c0 : Code := { maxStack := 5, maxLocals := 3, code := prog_14_method_1_code, exceptionTable := #[], attributes := #[] }
def k7m0 : Method := { name := "<init>", desc := "(II)V", sig := { parameters := [.int, .int], returnType := none }, accessFlags := 0, code := some k7c0 }
def k7c1 : Code := { maxStack := 2, maxLocals := 4, code := prog_14_method_7_code, exceptionTable := #[], attributes := #[] }
def k7m1 : Method := { name := "interval", desc := "(Lcom/example/collectary/collectary/broker/Grid$Axis;I)I", sig := { parameters := [(.object "com/example/collectary/collectary/broker/Grid$Axis"), .int], returnType := some .int }, accessFlags := 0, code := some k7c1 }
def k7c2 : Code := { maxStack := 3, maxLocals := 3, code := prog_14_method_8_code, exceptionTable := #[], attributes := #[] }
def k7m2 : Method := { name := "start", desc := "(Lcom/example/collectary/collectary/broker/Grid$Axis;I)I", sig := { parameters := [(.object "com/example/collectary/collectary/broker/Grid$Axis"), .int], returnType := some .int }, accessFlags := 0, code := some k7c2 }
def k7c3 : Code := { maxStack := 6, maxLocals := 9, code := prog_14_method_11_code, exceptionTable := #[], attributes := #[] }
def k7m3 : Method := { name := "addCut", desc := "(Lcom/example/collectary/collectary/broker/Grid$Axis;I)V", sig := { parameters := [(.object "com/example/collectary/collectary/broker/Grid$Axis"), .int], returnType := none }, accessFlags := 0, code := some k7c3 }
/-- com/example/collectary/collectary/broker/Grid -/
def k7 : Class := { plain "com/example/collectary/collectary/broker/Grid" (some 0) with
  accessFlags := 32
  interfaces := #[]
  cf := some (fileOf pool7 8 #[.nestMembers #[26]] #[{ accessFlags := 0, nameIndex := 5, descriptorIndex := 46, attributes := #[] }, { accessFlags := 0, nameIndex := 108, descriptorIndex := 109, attributes := #[] }, { accessFlags := 0, nameIndex := 153, descriptorIndex := 109, attributes := #[] }, { accessFlags := 0, nameIndex := 174, descriptorIndex := 175, attributes := #[] }] 32 2 #[] #[{ accessFlags := 18, nameIndex := 11, descriptorIndex := 12, attributes := #[] }, { accessFlags := 18, nameIndex := 16, descriptorIndex := 17, attributes := #[] }, { accessFlags := 18, nameIndex := 23, descriptorIndex := 24, attributes := #[] }])
  fields := #[{ name := "ids", type := (.array .int), accessFlags := 18, slot := 0, constantValue := 0 }, { name := "cuts", type := (.array (.array .int)), accessFlags := 18, slot := 1, constantValue := 0 }, { name := "rows", type := (.object "java/util/List"), accessFlags := 18, slot := 2, constantValue := 0 }]
  methods := #[k7m0, k7m1, k7m2, k7m3]
  instanceTypes := #[(.array .int), (.array (.array .int)), (.object "java/util/List")]
  staticTypes := #[]
  resolved := Array.replicate 211 none
  statics := none }

def pool8 : Array CpInfo := pool [(8, .class_ 10), (1, u "java/lang/Iterable"), (24, .class_ 36), (0, u "java/lang/Object")] 25

/-- java/lang/Iterable -/
def k8 : Class := { plain "java/lang/Iterable" (some 0) with
  accessFlags := 1537
  interfaces := #[]
  cf := some (fileOf pool8 8 #[] #[] 1537 35 #[] #[])
  fields := #[]
  methods := #[]
  instanceTypes := #[]
  staticTypes := #[]
  resolved := Array.replicate 62 none
  statics := none }

def pool9 : Array CpInfo := pool [(10, .class_ 12), (1, u "java/util/Collection"), (47, .class_ 61), (0, u "java/lang/Object"), (0, .class_ 63), (0, u "java/lang/Iterable")] 51

/-- java/util/Collection -/
def k9 : Class := { plain "java/util/Collection" (some 0) with
  accessFlags := 1537
  interfaces := #[8]
  cf := some (fileOf pool9 10 #[] #[] 1537 60 #[62] #[])
  fields := #[]
  methods := #[]
  instanceTypes := #[]
  staticTypes := #[]
  resolved := Array.replicate 115 none
  statics := none }

def pool10 : Array CpInfo := pool [(1, .methodref 2 3), (0, .class_ 4), (0, .nameAndType 5 6), (0, u "java/lang/Object"), (0, u "<init>"), (0, u "()V"), (1, .class_ 10), (1, u "java/util/AbstractCollection"), (66, .class_ 78), (0, u "java/util/Collection")] 81

def k10c0 : Code := { maxStack := 1, maxLocals := 1, code := jdk_22_method_1_code, exceptionTable := #[], attributes := #[] }
def k10m0 : Method := { name := "<init>", desc := "()V", sig := { parameters := [], returnType := none }, accessFlags := 4, code := some k10c0 }
/-- java/util/AbstractCollection -/
def k10 : Class := { plain "java/util/AbstractCollection" (some 0) with
  accessFlags := 1057
  interfaces := #[9]
  cf := some (fileOf pool10 8 #[] #[{ accessFlags := 4, nameIndex := 5, descriptorIndex := 6, attributes := #[] }] 1057 2 #[77] #[])
  fields := #[]
  methods := #[k10m0]
  instanceTypes := #[]
  staticTypes := #[]
  resolved := Array.replicate 160 none
  statics := none }

def pool11 : Array CpInfo := pool [(8, .class_ 10), (1, u "java/util/SequencedCollection"), (15, .class_ 27), (0, u "java/lang/Object"), (0, .class_ 29), (0, u "java/util/Collection")] 27

/-- java/util/SequencedCollection -/
def k11 : Class := { plain "java/util/SequencedCollection" (some 0) with
  accessFlags := 1537
  interfaces := #[9]
  cf := some (fileOf pool11 8 #[] #[] 1537 26 #[28] #[])
  fields := #[]
  methods := #[]
  instanceTypes := #[]
  staticTypes := #[]
  resolved := Array.replicate 57 none
  statics := none }

def pool12 : Array CpInfo := pool [(8, .class_ 10), (1, u "java/util/List"), (19, u "set"), (29, u "add"), (0, u "(ILjava/lang/Object;)V"), (2, u "(Ljava/lang/Object;)Z"), (10, u "get"), (0, u "(I)Ljava/lang/Object;"), (2, u "size"), (0, u "()I"), (22, .class_ 104), (0, u "java/lang/Object"), (15, .class_ 121), (0, u "java/util/SequencedCollection"), (51, u "(ILjava/lang/Object;)Ljava/lang/Object;")] 77

def k12m0 : Method := { name := "size", desc := "()I", sig := { parameters := [], returnType := some .int }, accessFlags := 1025, code := none }
def k12m1 : Method := { name := "add", desc := "(Ljava/lang/Object;)Z", sig := { parameters := [(.object "java/lang/Object")], returnType := some .boolean }, accessFlags := 1025, code := none }
def k12m2 : Method := { name := "get", desc := "(I)Ljava/lang/Object;", sig := { parameters := [.int], returnType := some (.object "java/lang/Object") }, accessFlags := 1025, code := none }
def k12m3 : Method := { name := "set", desc := "(ILjava/lang/Object;)Ljava/lang/Object;", sig := { parameters := [.int, (.object "java/lang/Object")], returnType := some (.object "java/lang/Object") }, accessFlags := 1025, code := none }
def k12m4 : Method := { name := "add", desc := "(ILjava/lang/Object;)V", sig := { parameters := [.int, (.object "java/lang/Object")], returnType := none }, accessFlags := 1025, code := none }
/-- java/util/List -/
def k12 : Class := { plain "java/util/List" (some 0) with
  accessFlags := 1537
  interfaces := #[11]
  cf := some (fileOf pool12 8 #[] #[{ accessFlags := 1025, nameIndex := 79, descriptorIndex := 80, attributes := #[] }, { accessFlags := 1025, nameIndex := 60, descriptorIndex := 64, attributes := #[] }, { accessFlags := 1025, nameIndex := 75, descriptorIndex := 76, attributes := #[] }, { accessFlags := 1025, nameIndex := 30, descriptorIndex := 173, attributes := #[] }, { accessFlags := 1025, nameIndex := 60, descriptorIndex := 61, attributes := #[] }] 1537 103 #[120] #[])
  fields := #[]
  methods := #[k12m0, k12m1, k12m2, k12m3, k12m4]
  instanceTypes := #[]
  staticTypes := #[]
  resolved := Array.replicate 251 none
  statics := none }

def pool13 : Array CpInfo := pool [(1, .methodref 2 3), (0, .class_ 4), (0, .nameAndType 5 6), (0, u "java/util/AbstractCollection"), (0, u "<init>"), (0, u "()V"), (0, .fieldref 8 9), (0, .class_ 10), (0, .nameAndType 11 12), (0, u "java/util/AbstractList"), (0, u "modCount"), (0, u "I"), (64, .class_ 78), (0, u "java/util/AbstractList$Itr"), (3, .class_ 83), (0, u "java/util/AbstractList$ListItr"), (9, .class_ 94), (0, u "java/util/AbstractList$RandomAccessSubList"), (3, .class_ 99), (0, u "java/util/AbstractList$SubList"), (33, .class_ 134), (0, u "java/util/List"), (73, .class_ 209), (0, u "java/util/AbstractList$SubList$1"), (0, .class_ 211), (0, u "java/util/AbstractList$RandomAccessSpliterator")] 6

def k13c0 : Code := { maxStack := 2, maxLocals := 1, code := jdk_39_method_1_code, exceptionTable := #[], attributes := #[] }
def k13m0 : Method := { name := "<init>", desc := "()V", sig := { parameters := [], returnType := none }, accessFlags := 4, code := some k13c0 }
/-- java/util/AbstractList -/
def k13 : Class := { plain "java/util/AbstractList" (some 10) with
  accessFlags := 1057
  interfaces := #[12]
  cf := some (fileOf pool13 8 #[.nestMembers #[93, 98, 208, 210, 82, 77]] #[{ accessFlags := 4, nameIndex := 5, descriptorIndex := 6, attributes := #[] }] 1057 2 #[133] #[{ accessFlags := 132, nameIndex := 11, descriptorIndex := 12, attributes := #[] }])
  fields := #[{ name := "modCount", type := .int, accessFlags := 132, slot := 0, constantValue := 0 }]
  methods := #[k13m0]
  instanceTypes := #[.int]
  staticTypes := #[]
  resolved := Array.replicate 218 none
  statics := none }

def pool14 : Array CpInfo := pool [(1, .class_ 2), (0, u "java/util/RandomAccess"), (0, .class_ 4), (0, u "java/lang/Object")] 2

/-- java/util/RandomAccess -/
def k14 : Class := { plain "java/util/RandomAccess" (some 0) with
  accessFlags := 1537
  interfaces := #[]
  cf := some (fileOf pool14 1 #[] #[] 1537 3 #[] #[])
  fields := #[]
  methods := #[]
  instanceTypes := #[]
  staticTypes := #[]
  resolved := Array.replicate 7 none
  statics := none }

def pool15 : Array CpInfo := pool [(1, .class_ 2), (0, u "java/lang/Cloneable"), (0, .class_ 4), (0, u "java/lang/Object")] 2

/-- java/lang/Cloneable -/
def k15 : Class := { plain "java/lang/Cloneable" (some 0) with
  accessFlags := 1537
  interfaces := #[]
  cf := some (fileOf pool15 1 #[] #[] 1537 3 #[] #[])
  fields := #[]
  methods := #[]
  instanceTypes := #[]
  staticTypes := #[]
  resolved := Array.replicate 7 none
  statics := none }

def pool16 : Array CpInfo := pool [(1, .methodref 2 3), (0, .class_ 4), (0, .nameAndType 5 6), (0, u "java/util/AbstractList"), (0, u "<init>"), (0, u "()V"), (0, .class_ 8), (0, u "java/lang/Object"), (0, .fieldref 10 11), (0, .class_ 12), (0, .nameAndType 13 14), (0, u "java/util/ArrayList"), (0, u "elementData"), (0, u "[Ljava/lang/Object;"), (2, u "EMPTY_ELEMENTDATA"), (21, .fieldref 10 40), (0, .nameAndType 41 14), (0, u "DEFAULTCAPACITY_EMPTY_ELEMENTDATA"), (5, u "()[Ljava/lang/Object;"), (0, .fieldref 10 49), (0, .nameAndType 50 51), (0, u "size"), (0, u "I"), (11, .fieldref 10 64), (0, .nameAndType 65 51), (0, u "modCount"), (3, .methodref 10 70), (0, .nameAndType 71 72), (0, u "grow"), (0, u "(I)[Ljava/lang/Object;"), (6, .methodref 80 81), (0, .class_ 82), (0, .nameAndType 83 84), (0, u "java/lang/Math"), (0, u "max"), (0, u "(II)I"), (11, u "(Ljava/lang/Object;)Z"), (15, .methodref 113 114), (0, .class_ 115), (0, .nameAndType 116 117), (0, u "java/lang/System"), (0, u "arraycopy"), (0, u "(Ljava/lang/Object;ILjava/lang/Object;II)V"), (0, .methodref 119 120), (0, .class_ 121), (0, .nameAndType 122 84), (0, u "java/util/Objects"), (0, u "checkIndex"), (0, .methodref 10 124), (0, .nameAndType 13 125), (0, u "(I)Ljava/lang/Object;"), (3, .methodref 10 130), (0, .nameAndType 71 47), (0, .methodref 10 132), (0, .nameAndType 133 134), (0, u "add"), (0, u "(Ljava/lang/Object;[Ljava/lang/Object;I)V"), (0, .methodref 10 136), (0, .nameAndType 137 138), (0, u "rangeCheckForAdd"), (0, u "(I)V"), (2, u "(ILjava/lang/Object;)V"), (6, .class_ 149), (0, u "java/util/List"), (36, u "()I"), (75, .class_ 263), (0, u "java/util/ArrayList$ListItr"), (3, .class_ 268), (0, u "java/util/ArrayList$Itr"), (7, .class_ 277), (0, u "java/util/ArrayList$SubList"), (12, .class_ 291), (0, u "java/util/ArrayList$ArrayListSpliterator"), (37, .class_ 330), (0, u "java/util/RandomAccess"), (0, .class_ 332), (0, u "java/lang/Cloneable"), (0, .class_ 334), (0, u "java/io/Serializable"), (0, u "serialVersionUID"), (0, u "J"), (3, u "DEFAULT_CAPACITY"), (40, u "get"), (4, u "set"), (0, u "(ILjava/lang/Object;)Ljava/lang/Object;"), (112, .class_ 501), (0, u "java/util/ArrayList$SubList$2"), (0, .class_ 503), (0, u "java/util/ArrayList$SubList$1")] 5

def k16c0 : Code := { maxStack := 2, maxLocals := 1, code := jdk_38_method_2_code, exceptionTable := #[], attributes := #[] }
def k16m0 : Method := { name := "<init>", desc := "()V", sig := { parameters := [], returnType := none }, accessFlags := 1, code := some k16c0 }
def k16c1 : Code := { maxStack := 4, maxLocals := 4, code := jdk_38_method_6_code, exceptionTable := #[], attributes := #[] }
def k16m1 : Method := { name := "grow", desc := "(I)[Ljava/lang/Object;", sig := { parameters := [.int], returnType := some (.array (.object "java/lang/Object")) }, accessFlags := 2, code := some k16c1 }
def k16c2 : Code := { maxStack := 3, maxLocals := 1, code := jdk_38_method_7_code, exceptionTable := #[], attributes := #[] }
def k16m2 : Method := { name := "grow", desc := "()[Ljava/lang/Object;", sig := { parameters := [], returnType := some (.array (.object "java/lang/Object")) }, accessFlags := 2, code := some k16c2 }
def k16c3 : Code := { maxStack := 1, maxLocals := 1, code := jdk_38_method_8_code, exceptionTable := #[], attributes := #[] }
def k16m3 : Method := { name := "size", desc := "()I", sig := { parameters := [], returnType := some .int }, accessFlags := 1, code := some k16c3 }
def k16c4 : Code := { maxStack := 2, maxLocals := 2, code := jdk_38_method_18_code, exceptionTable := #[], attributes := #[] }
def k16m4 : Method := { name := "elementData", desc := "(I)Ljava/lang/Object;", sig := { parameters := [.int], returnType := some (.object "java/lang/Object") }, accessFlags := 0, code := some k16c4 }
def k16c5 : Code := { maxStack := 2, maxLocals := 2, code := jdk_38_method_20_code, exceptionTable := #[], attributes := #[] }
def k16m5 : Method := { name := "get", desc := "(I)Ljava/lang/Object;", sig := { parameters := [.int], returnType := some (.object "java/lang/Object") }, accessFlags := 1, code := some k16c5 }
def k16c6 : Code := { maxStack := 3, maxLocals := 4, code := jdk_38_method_23_code, exceptionTable := #[], attributes := #[] }
def k16m6 : Method := { name := "set", desc := "(ILjava/lang/Object;)Ljava/lang/Object;", sig := { parameters := [.int, (.object "java/lang/Object")], returnType := some (.object "java/lang/Object") }, accessFlags := 1, code := some k16c6 }
def k16c7 : Code := { maxStack := 3, maxLocals := 4, code := jdk_38_method_24_code, exceptionTable := #[], attributes := #[] }
def k16m7 : Method := { name := "add", desc := "(Ljava/lang/Object;[Ljava/lang/Object;I)V", sig := { parameters := [(.object "java/lang/Object"), (.array (.object "java/lang/Object")), .int], returnType := none }, accessFlags := 2, code := some k16c7 }
def k16c8 : Code := { maxStack := 4, maxLocals := 2, code := jdk_38_method_25_code, exceptionTable := #[], attributes := #[] }
def k16m8 : Method := { name := "add", desc := "(Ljava/lang/Object;)Z", sig := { parameters := [(.object "java/lang/Object")], returnType := some .boolean }, accessFlags := 1, code := some k16c8 }
def k16c9 : Code := { maxStack := 6, maxLocals := 5, code := jdk_38_method_26_code, exceptionTable := #[], attributes := #[] }
def k16m9 : Method := { name := "add", desc := "(ILjava/lang/Object;)V", sig := { parameters := [.int, (.object "java/lang/Object")], returnType := none }, accessFlags := 1, code := some k16c9 }
def k16c10 : Code := { maxStack := 4, maxLocals := 2, code := jdk_38_method_45_code, exceptionTable := #[], attributes := #[] }
def k16m10 : Method := { name := "rangeCheckForAdd", desc := "(I)V", sig := { parameters := [.int], returnType := none }, accessFlags := 2, code := some k16c10 }
/-- java/util/ArrayList -/
def k16 : Class := { plain "java/util/ArrayList" (some 13) with
  accessFlags := 33
  interfaces := #[12, 14, 15, 4]
  cf := some (fileOf pool16 10 #[.nestMembers #[290, 276, 500, 502, 262, 267]] #[{ accessFlags := 1, nameIndex := 5, descriptorIndex := 6, attributes := #[] }, { accessFlags := 2, nameIndex := 71, descriptorIndex := 72, attributes := #[] }, { accessFlags := 2, nameIndex := 71, descriptorIndex := 47, attributes := #[] }, { accessFlags := 1, nameIndex := 50, descriptorIndex := 186, attributes := #[] }, { accessFlags := 0, nameIndex := 13, descriptorIndex := 125, attributes := #[] }, { accessFlags := 1, nameIndex := 381, descriptorIndex := 125, attributes := #[] }, { accessFlags := 1, nameIndex := 386, descriptorIndex := 387, attributes := #[] }, { accessFlags := 2, nameIndex := 133, descriptorIndex := 134, attributes := #[] }, { accessFlags := 1, nameIndex := 133, descriptorIndex := 96, attributes := #[] }, { accessFlags := 1, nameIndex := 133, descriptorIndex := 141, attributes := #[] }, { accessFlags := 2, nameIndex := 137, descriptorIndex := 138, attributes := #[] }] 33 2 #[148, 329, 331, 333] #[{ accessFlags := 26, nameIndex := 335, descriptorIndex := 336, attributes := #[] }, { accessFlags := 26, nameIndex := 340, descriptorIndex := 51, attributes := #[] }, { accessFlags := 26, nameIndex := 17, descriptorIndex := 14, attributes := #[] }, { accessFlags := 26, nameIndex := 41, descriptorIndex := 14, attributes := #[] }, { accessFlags := 128, nameIndex := 13, descriptorIndex := 14, attributes := #[] }, { accessFlags := 2, nameIndex := 50, descriptorIndex := 51, attributes := #[] }])
  fields := #[{ name := "serialVersionUID", type := .long, accessFlags := 26, slot := 0, constantValue := 0 }, { name := "DEFAULT_CAPACITY", type := .int, accessFlags := 26, slot := 1, constantValue := 0 }, { name := "EMPTY_ELEMENTDATA", type := (.array (.object "java/lang/Object")), accessFlags := 26, slot := 2, constantValue := 0 }, { name := "DEFAULTCAPACITY_EMPTY_ELEMENTDATA", type := (.array (.object "java/lang/Object")), accessFlags := 26, slot := 3, constantValue := 0 }, { name := "elementData", type := (.array (.object "java/lang/Object")), accessFlags := 128, slot := 1, constantValue := 0 }, { name := "size", type := .int, accessFlags := 2, slot := 2, constantValue := 0 }]
  methods := #[k16m0, k16m1, k16m2, k16m3, k16m4, k16m5, k16m6, k16m7, k16m8, k16m9, k16m10]
  instanceTypes := #[.int, (.array (.object "java/lang/Object")), .int]
  staticTypes := #[.long, .int, (.array (.object "java/lang/Object")), (.array (.object "java/lang/Object"))]
  resolved := Array.replicate 509 none
  statics := some 1 }

def pool17 : Array CpInfo := pool [(1, .class_ 2), (0, u "java/lang/Math"), (1, .class_ 6), (1, u "java/lang/Object"), (0, u "<init>"), (0, u "()V"), (89, .class_ 100), (1, u "java/lang/Math$RandomNumberGeneratorHolder"), (71, u "negativeZeroFloatBits"), (0, u "J"), (2, u "negativeZeroDoubleBits"), (21, u "max"), (46, u "$assertionsDisabled"), (0, u "Z"), (88, u "(II)I"), (2, u "twoToTheDoubleScaleDown"), (0, u "D"), (4, u "twoToTheDoubleScaleUp"), (9, u "E"), (3, u "PI"), (2, u "TAU"), (2, u "DEGREES_TO_RADIANS"), (0, u "RADIANS_TO_DEGREES")] 94

def k17m0 : Method := { name := "<init>", desc := "()V", sig := { parameters := [], returnType := none }, accessFlags := 2, code := none }
def k17c1 : Code := { maxStack := 2, maxLocals := 2, code := jdk_29_method_65_code, exceptionTable := #[], attributes := #[] }
def k17m1 : Method := { name := "max", desc := "(II)I", sig := { parameters := [.int, .int], returnType := some .int }, accessFlags := 9, code := some k17c1 }
/-- java/lang/Math -/
def k17 : Class := { plain "java/lang/Math" (some 0) with
  accessFlags := 49
  interfaces := #[]
  cf := some (fileOf pool17 1 #[.nestMembers #[98]] #[{ accessFlags := 2, nameIndex := 7, descriptorIndex := 8, attributes := #[] }, { accessFlags := 9, nameIndex := 198, descriptorIndex := 335, attributes := #[] }] 49 4 #[] #[{ accessFlags := 25, nameIndex := 354, descriptorIndex := 339, attributes := #[] }, { accessFlags := 25, nameIndex := 358, descriptorIndex := 339, attributes := #[] }, { accessFlags := 25, nameIndex := 361, descriptorIndex := 339, attributes := #[] }, { accessFlags := 26, nameIndex := 364, descriptorIndex := 339, attributes := #[] }, { accessFlags := 26, nameIndex := 365, descriptorIndex := 339, attributes := #[] }, { accessFlags := 26, nameIndex := 172, descriptorIndex := 173, attributes := #[] }, { accessFlags := 26, nameIndex := 176, descriptorIndex := 173, attributes := #[] }, { accessFlags := 8, nameIndex := 344, descriptorIndex := 339, attributes := #[] }, { accessFlags := 8, nameIndex := 338, descriptorIndex := 339, attributes := #[] }, { accessFlags := 4120, nameIndex := 245, descriptorIndex := 246, attributes := #[] }])
  fields := #[{ name := "E", type := .double, accessFlags := 25, slot := 0, constantValue := 0 }, { name := "PI", type := .double, accessFlags := 25, slot := 1, constantValue := 0 }, { name := "TAU", type := .double, accessFlags := 25, slot := 2, constantValue := 0 }, { name := "DEGREES_TO_RADIANS", type := .double, accessFlags := 26, slot := 3, constantValue := 0 }, { name := "RADIANS_TO_DEGREES", type := .double, accessFlags := 26, slot := 4, constantValue := 0 }, { name := "negativeZeroFloatBits", type := .long, accessFlags := 26, slot := 5, constantValue := 0 }, { name := "negativeZeroDoubleBits", type := .long, accessFlags := 26, slot := 6, constantValue := 0 }, { name := "twoToTheDoubleScaleUp", type := .double, accessFlags := 8, slot := 7, constantValue := 0 }, { name := "twoToTheDoubleScaleDown", type := .double, accessFlags := 8, slot := 8, constantValue := 0 }, { name := "$assertionsDisabled", type := .boolean, accessFlags := 4120, slot := 9, constantValue := 0 }]
  methods := #[k17m0, k17m1]
  instanceTypes := #[]
  staticTypes := #[.double, .double, .double, .double, .double, .long, .long, .double, .double, .boolean]
  resolved := Array.replicate 460 none
  statics := none }

def pool18 : Array CpInfo := pool [(2, .class_ 4), (1, u "java/lang/Object"), (0, u "<init>"), (0, u "()V"), (7, .class_ 16), (1, u "java/util/Arrays"), (57, .class_ 76), (1, u "java/util/Arrays$NaturalOrder"), (36, .class_ 115), (1, u "java/util/Arrays$LegacyMergeSort"), (1, u "Z"), (89, u "binarySearch0"), (1, .methodref 14 210), (0, .nameAndType 207 211), (0, u "([IIII)I"), (163, .class_ 376), (0, u "java/util/Arrays$ArrayList"), (68, u "$assertionsDisabled"), (269, u "MIN_ARRAY_SORT_GRAN"), (0, u "I"), (2, u "INSERTIONSORT_THRESHOLD"), (74, u "binarySearch"), (4, u "([II)I"), (175, .class_ 976), (0, u "java/util/Arrays$ArrayItr")] 52

def k18m0 : Method := { name := "<init>", desc := "()V", sig := { parameters := [], returnType := none }, accessFlags := 2, code := none }
def k18c1 : Code := { maxStack := 4, maxLocals := 2, code := jdk_65_method_57_code, exceptionTable := #[], attributes := #[] }
def k18m1 : Method := { name := "binarySearch", desc := "([II)I", sig := { parameters := [(.array .int), .int], returnType := some .int }, accessFlags := 9, code := some k18c1 }
def k18c2 : Code := { maxStack := 2, maxLocals := 8, code := jdk_65_method_59_code, exceptionTable := #[], attributes := #[] }
def k18m2 : Method := { name := "binarySearch0", desc := "([IIII)I", sig := { parameters := [(.array .int), .int, .int, .int], returnType := some .int }, accessFlags := 10, code := some k18c2 }
/-- java/util/Arrays -/
def k18 : Class := { plain "java/util/Arrays" (some 0) with
  accessFlags := 49
  interfaces := #[]
  cf := some (fileOf pool18 14 #[.nestMembers #[975, 375, 113, 74]] #[{ accessFlags := 2, nameIndex := 5, descriptorIndex := 6, attributes := #[] }, { accessFlags := 9, nameIndex := 794, descriptorIndex := 799, attributes := #[] }, { accessFlags := 10, nameIndex := 207, descriptorIndex := 211, attributes := #[] }] 49 2 #[] #[{ accessFlags := 26, nameIndex := 715, descriptorIndex := 716, attributes := #[] }, { accessFlags := 26, nameIndex := 719, descriptorIndex := 716, attributes := #[] }, { accessFlags := 4120, nameIndex := 445, descriptorIndex := 117, attributes := #[] }])
  fields := #[{ name := "MIN_ARRAY_SORT_GRAN", type := .int, accessFlags := 26, slot := 0, constantValue := 0 }, { name := "INSERTIONSORT_THRESHOLD", type := .int, accessFlags := 26, slot := 1, constantValue := 0 }, { name := "$assertionsDisabled", type := .boolean, accessFlags := 4120, slot := 2, constantValue := 0 }]
  methods := #[k18m0, k18m1, k18m2]
  instanceTypes := #[]
  staticTypes := #[.int, .int, .boolean]
  resolved := Array.replicate 1029 none
  statics := none }

def pool19 : Array CpInfo := pool [(2, .class_ 4), (1, u "java/lang/Object"), (0, u "<init>"), (0, u "()V"), (1, .class_ 10), (1, u "java/lang/System"), (0, u "allowSecurityManager"), (0, u "I"), (16, u "cons"), (0, u "Ljava/io/Console;"), (77, .class_ 110), (1, u "java/lang/System$CallersHolder"), (43, u "initialErrStream"), (0, u "Ljava/io/PrintStream;"), (19, u "security"), (0, u "Ljava/lang/SecurityManager;"), (31, .class_ 209), (0, u "java/lang/System$1"), (7, u "props"), (0, u "Ljava/util/Properties;"), (2, u "lineSeparator"), (0, u "Ljava/lang/String;"), (96, .class_ 321), (1, u "java/lang/System$LoggerFinder"), (5, .class_ 328), (0, u "java/lang/System$Logger"), (67, u "err"), (2, u "out"), (91, u "notSupportedJnuEncoding"), (15, u "in"), (17, u "initialIn"), (0, u "Ljava/io/InputStream;"), (35, u "bootLayer"), (0, u "Ljava/lang/ModuleLayer;"), (99, .class_ 664), (0, u "java/lang/System$2"), (9, u "NEVER"), (2, u "MAYBE"), (49, u "arraycopy"), (0, u "(Ljava/lang/Object;ILjava/lang/Object;II)V"), (72, .class_ 802), (0, u "java/lang/System$Logger$Level")] 31

def k19m0 : Method := { name := "<init>", desc := "()V", sig := { parameters := [], returnType := none }, accessFlags := 2, code := none }
def k19m1 : Method := { name := "arraycopy", desc := "(Ljava/lang/Object;ILjava/lang/Object;II)V", sig := { parameters := [(.object "java/lang/Object"), .int, (.object "java/lang/Object"), .int, .int], returnType := none }, accessFlags := 265, code := none }
/-- java/lang/System -/
def k19 : Class := { plain "java/lang/System" (some 0) with
  accessFlags := 49
  interfaces := #[]
  cf := some (fileOf pool19 8 #[.nestMembers #[319, 327, 801, 108, 663, 208]] #[{ accessFlags := 2, nameIndex := 5, descriptorIndex := 6, attributes := #[] }, { accessFlags := 265, nameIndex := 727, descriptorIndex := 728, attributes := #[] }] 49 2 #[] #[{ accessFlags := 25, nameIndex := 507, descriptorIndex := 526, attributes := #[] }, { accessFlags := 25, nameIndex := 399, descriptorIndex := 155, attributes := #[] }, { accessFlags := 25, nameIndex := 396, descriptorIndex := 155, attributes := #[] }, { accessFlags := 10, nameIndex := 525, descriptorIndex := 526, attributes := #[] }, { accessFlags := 26, nameIndex := 674, descriptorIndex := 12, attributes := #[] }, { accessFlags := 26, nameIndex := 677, descriptorIndex := 12, attributes := #[] }, { accessFlags := 10, nameIndex := 11, descriptorIndex := 12, attributes := #[] }, { accessFlags := 74, nameIndex := 175, descriptorIndex := 176, attributes := #[] }, { accessFlags := 10, nameIndex := 491, descriptorIndex := 222, attributes := #[] }, { accessFlags := 74, nameIndex := 29, descriptorIndex := 30, attributes := #[] }, { accessFlags := 74, nameIndex := 154, descriptorIndex := 155, attributes := #[] }, { accessFlags := 10, nameIndex := 217, descriptorIndex := 218, attributes := #[] }, { accessFlags := 10, nameIndex := 221, descriptorIndex := 222, attributes := #[] }, { accessFlags := 8, nameIndex := 562, descriptorIndex := 563, attributes := #[] }])
  fields := #[{ name := "in", type := (.object "java/io/InputStream"), accessFlags := 25, slot := 0, constantValue := 0 }, { name := "out", type := (.object "java/io/PrintStream"), accessFlags := 25, slot := 1, constantValue := 0 }, { name := "err", type := (.object "java/io/PrintStream"), accessFlags := 25, slot := 2, constantValue := 0 }, { name := "initialIn", type := (.object "java/io/InputStream"), accessFlags := 10, slot := 3, constantValue := 0 }, { name := "NEVER", type := .int, accessFlags := 26, slot := 4, constantValue := 0 }, { name := "MAYBE", type := .int, accessFlags := 26, slot := 5, constantValue := 0 }, { name := "allowSecurityManager", type := .int, accessFlags := 10, slot := 6, constantValue := 0 }, { name := "security", type := (.object "java/lang/SecurityManager"), accessFlags := 74, slot := 7, constantValue := 0 }, { name := "notSupportedJnuEncoding", type := (.object "java/lang/String"), accessFlags := 10, slot := 8, constantValue := 0 }, { name := "cons", type := (.object "java/io/Console"), accessFlags := 74, slot := 9, constantValue := 0 }, { name := "initialErrStream", type := (.object "java/io/PrintStream"), accessFlags := 74, slot := 10, constantValue := 0 }, { name := "props", type := (.object "java/util/Properties"), accessFlags := 10, slot := 11, constantValue := 0 }, { name := "lineSeparator", type := (.object "java/lang/String"), accessFlags := 10, slot := 12, constantValue := 0 }, { name := "bootLayer", type := (.object "java/lang/ModuleLayer"), accessFlags := 8, slot := 13, constantValue := 0 }]
  methods := #[k19m0, k19m1]
  instanceTypes := #[]
  staticTypes := #[(.object "java/io/InputStream"), (.object "java/io/PrintStream"), (.object "java/io/PrintStream"), (.object "java/io/InputStream"), .int, .int, .int, (.object "java/lang/SecurityManager"), (.object "java/lang/String"), (.object "java/io/Console"), (.object "java/io/PrintStream"), (.object "java/util/Properties"), (.object "java/lang/String"), (.object "java/lang/ModuleLayer")]
  resolved := Array.replicate 834 none
  statics := none }

def pool20 : Array CpInfo := pool [(2, .class_ 4), (1, u "java/lang/Object"), (0, u "<init>"), (0, u "()V"), (35, .class_ 44), (1, u "java/util/Objects"), (60, .methodref 106 107), (0, .class_ 108), (0, .nameAndType 109 110), (0, u "jdk/internal/util/Preconditions"), (0, u "checkIndex"), (0, u "(IILjava/util/function/BiFunction;)I"), (60, u "(II)I")] 12

def k20m0 : Method := { name := "<init>", desc := "()V", sig := { parameters := [], returnType := none }, accessFlags := 2, code := none }
def k20c1 : Code := { maxStack := 3, maxLocals := 2, code := jdk_31_method_17_code, exceptionTable := #[], attributes := #[] }
def k20m1 : Method := { name := "checkIndex", desc := "(II)I", sig := { parameters := [.int, .int], returnType := some .int }, accessFlags := 9, code := some k20c1 }
/-- java/util/Objects -/
def k20 : Class := { plain "java/util/Objects" (some 0) with
  accessFlags := 49
  interfaces := #[]
  cf := some (fileOf pool20 42 #[] #[{ accessFlags := 2, nameIndex := 5, descriptorIndex := 6, attributes := #[] }, { accessFlags := 9, nameIndex := 109, descriptorIndex := 171, attributes := #[] }] 49 2 #[] #[])
  fields := #[]
  methods := #[k20m0, k20m1]
  instanceTypes := #[]
  staticTypes := #[]
  resolved := Array.replicate 184 none
  statics := none }

def pool21 : Array CpInfo := pool [(2, .class_ 4), (1, u "java/lang/Object"), (0, u "<init>"), (0, u "()V"), (17, .class_ 26), (1, u "jdk/internal/util/Preconditions"), (6, u "checkIndex"), (21, .class_ 56), (0, u "jdk/internal/util/Preconditions$4"), (57, .class_ 115), (0, u "jdk/internal/util/Preconditions$1"), (7, u "SIOOBE_FORMATTER"), (0, u "Ljava/util/function/BiFunction;"), (0, .class_ 126), (0, u "jdk/internal/util/Preconditions$2"), (3, u "AIOOBE_FORMATTER"), (0, .class_ 132), (0, u "jdk/internal/util/Preconditions$3"), (3, u "IOOBE_FORMATTER"), (41, u "(IILjava/util/function/BiFunction;)I")] 15

def k21m0 : Method := { name := "<init>", desc := "()V", sig := { parameters := [], returnType := none }, accessFlags := 1, code := none }
def k21c1 : Code := { maxStack := 3, maxLocals := 3, code := jdk_41_method_11_code, exceptionTable := #[], attributes := #[] }
def k21m1 : Method := { name := "checkIndex", desc := "(IILjava/util/function/BiFunction;)I", sig := { parameters := [.int, .int, (.object "java/util/function/BiFunction")], returnType := some .int }, accessFlags := 9, code := some k21c1 }
/-- jdk/internal/util/Preconditions -/
def k21 : Class := { plain "jdk/internal/util/Preconditions" (some 0) with
  accessFlags := 33
  interfaces := #[]
  cf := some (fileOf pool21 24 #[.nestMembers #[55, 131, 125, 114]] #[{ accessFlags := 1, nameIndex := 5, descriptorIndex := 6, attributes := #[] }, { accessFlags := 9, nameIndex := 33, descriptorIndex := 178, attributes := #[] }] 33 2 #[] #[{ accessFlags := 25, nameIndex := 123, descriptorIndex := 124, attributes := #[] }, { accessFlags := 25, nameIndex := 130, descriptorIndex := 124, attributes := #[] }, { accessFlags := 25, nameIndex := 136, descriptorIndex := 124, attributes := #[] }])
  fields := #[{ name := "SIOOBE_FORMATTER", type := (.object "java/util/function/BiFunction"), accessFlags := 25, slot := 0, constantValue := 0 }, { name := "AIOOBE_FORMATTER", type := (.object "java/util/function/BiFunction"), accessFlags := 25, slot := 1, constantValue := 0 }, { name := "IOOBE_FORMATTER", type := (.object "java/util/function/BiFunction"), accessFlags := 25, slot := 2, constantValue := 0 }]
  methods := #[k21m0, k21m1]
  instanceTypes := #[]
  staticTypes := #[(.object "java/util/function/BiFunction"), (.object "java/util/function/BiFunction"), (.object "java/util/function/BiFunction")]
  resolved := Array.replicate 194 none
  statics := none }

/-- the primitive byte -/
def k22 : Class := { plain "byte" none with kind := .primitive 'B', accessFlags := 0x411 }
/-- [B -/
def k23 : Class := { plain "[B" (some 0) with kind := .array 22 .byte, interfaces := #[15, 4], accessFlags := 1041 }

/-- the primitive int -/
def k24 : Class := { plain "int" none with kind := .primitive 'I', accessFlags := 0x411 }
/-- [I -/
def k25 : Class := { plain "[I" (some 0) with kind := .array 24 .int, interfaces := #[15, 4], accessFlags := 1041 }

/-- [Ljava/lang/Object; -/
def k26 : Class := { plain "[Ljava/lang/Object;" (some 0) with kind := .array 0 (.object "java/lang/Object"), interfaces := #[15, 4], accessFlags := 1041 }

/-- [[I -/
def k27 : Class := { plain "[[I" (some 0) with kind := .array 25 (.array .int), interfaces := #[15, 4], accessFlags := 1041 }

def heap : Heap := #[{ cls := 6, slots := #[.ref 2, .ref 3, .null], vm := .statics 6 },
  { cls := 16, slots := #[.long 0, .int 0, .ref 4, .ref 5], vm := .statics 16 },
  { cls := 6, slots := #[.null, .int 0, .int 0], vm := .none },
  { cls := 6, slots := #[.null, .int 1, .int 0], vm := .none },
  { cls := 26, slots := #[], vm := .none },
  { cls := 26, slots := #[], vm := .none }]
def classes : Array Class := #[k0, k1, k2, k3, k4, k5, k6, k7, k8, k9, k10, k11, k12, k13, k14, k15, k16, k17, k18, k19, k20, k21, k22, k23, k24, k25, k26, k27]
def interned : List (Array UInt16 × Addr) := []
def slotsUsed : Nat := 13
def theMethod : MethodId := ⟨1, 1⟩
def args0 : Array Value := #[.int 3, .int 1, .int 3, .int 7]
def aboutOver (below : List Frame) : State where
  vm := { classes := classes, interned := interned.toArray }
  heap := heap
  slotsUsed := slotsUsed
  threads := #[{ frames := .invoking theMethod args0 :: below }]
def below0 : List Frame := [.native { method := ⟨0, 0⟩, args := #[] }]
def about1 : State := aboutOver below0
def p0 : Program := .bare "" "" ""
def e0 : Env := launch0.env 0 0 0
theorem w_frames : about1.frames = Frame.invoking theMethod args0 :: below0 := rfl
set_option maxRecDepth 65536 in
theorem w_args : argsFit about1.vm theMethod args0 = true := by decide +kernel
set_option maxRecDepth 65536 in
theorem w_heap : heapFits about1 = true := by decide +kernel
set_option maxRecDepth 65536 in
theorem w_runnable : about1.curStatus? = some .runnable := by decide +kernel
set_option maxRecDepth 65536 in
theorem w_alone : about1.alone = true := by decide +kernel
set_option maxRecDepth 65536 in
theorem w_named : about1.methodNamed? x = some theMethod := by decide +kernel
set_option maxRecDepth 65536 in
theorem w_hears : about1.hears theMethod below0 = true := by decide +kernel
set_option maxRecDepth 65536 in
theorem w_ripe : about1.ripe theMethod args0 below0 = true := by decide +kernel
theorem w_running : about1.status = .running := rfl
set_option maxRecDepth 65536 in
theorem w_room : about1.hasRoom e0.platform room_1 = true :=
  launch0.hasRoom_least _ room_1 (by decide +kernel) (by decide +kernel) (by decide +kernel) (by decide +kernel) (by decide +kernel) (by decide +kernel)
theorem allAtoms_all (ts : List Jvm.Cond) (a : Array Jvm.Value) (st : Jvm.State) : (allAtoms ts).before a st = ts.all (fun c => c.before a st) := by
  induction ts with
  | nil => rfl
  | cons c t ih =>
    show (Jvm.Cond.and c (allAtoms t)).before a st = _
    rw [Jvm.Cond.before_and, ih, List.all_cons]
def words1 : List Jvm.Cond := Jvm.Cond.code x code maxLocals ret :: tables_1
/-- a 'code' word, met by the world's own term for the bytes: nothing is compared byte by byte -/
theorem code_word {y : MethodName} {bytes : ByteArray} {mx : Nat} {rt : Option FieldType} {a : Array Value} {s : State} {m : MethodId} {meth : Method} {c : Code} (h1 : s.methodNamed? y = some m) (h2 : s.vm.method? m = some meth) (h3 : meth.code = some c) (h4 : c.code = bytes)
    (h5 : (c.maxLocals == mx && c.exceptionTable.isEmpty && decide (c.maxStack ≤ mostOperands) && decide (meth.sig.returnType = rt) && !meth.locks && decide (parseMethodDescriptor y.desc = some meth.sig)) = true) : (Jvm.Cond.code y bytes mx rt).before a s = true := by
  simp only [Bool.and_eq_true, beq_iff_eq, Bool.not_eq_true', decide_eq_true_eq] at h5
  obtain ⟨⟨⟨⟨⟨g1, g2⟩, g3⟩, g4⟩, g5⟩, g6⟩ := h5
  simp [Cond.before, Cond.holds, Cond.value, h1, h2, h3, h4, g1, g2, g3, g4, g5, g6]
def isCode : Jvm.Cond → Bool
  | .code _ _ _ _ => true
  | _ => false
theorem all_split {L : List Jvm.Cond} {P : Jvm.Cond → Bool} (h1 : L.all (fun c => isCode c || P c) = true) (h2 : ∀ c ∈ L.filter isCode, P c = true) : L.all P = true := by
  refine List.all_eq_true.mpr fun c hc => ?_
  have h := List.all_eq_true.mp h1 c hc
  rcases Bool.eq_false_or_eq_true (isCode c) with hi | hi
  · exact h2 c (List.mem_filter.mpr ⟨hc, hi⟩)
  · simpa [hi] using h
set_option maxRecDepth 65536 in
theorem w_c0 : (Jvm.Cond.code x code maxLocals ret).before args0 about1 = true := code_word (m := ⟨1, 1⟩) (meth := k1m1) (c := k1c1) (by decide +kernel) rfl rfl rfl (by decide +kernel)
set_option maxRecDepth 65536 in
theorem w_c1 : (Jvm.Cond.code ({ cls := "com/example/collectary/collectary/broker/Grid", name := "<init>", desc := "(II)V" } : Jvm.MethodName) prog_14_method_1_code (3 : Nat) (Option.none : Option Jvm.ClassFile.FieldType)).before args0 about1 = true := code_word (m := ⟨7, 0⟩) (meth := k7m0) (c := k7c0) (by decide +kernel) rfl rfl rfl (by decide +kernel)
set_option maxRecDepth 65536 in
theorem w_c2 : (Jvm.Cond.code ({ cls := "java/lang/Object", name := "<init>", desc := "()V" } : Jvm.MethodName) object_method_1_code (1 : Nat) (Option.none : Option Jvm.ClassFile.FieldType)).before args0 about1 = true := code_word (m := ⟨0, 0⟩) (meth := k0m0) (c := k0c0) (by decide +kernel) rfl rfl rfl (by decide +kernel)
set_option maxRecDepth 65536 in
theorem w_c3 : (Jvm.Cond.code ({ cls := "java/util/ArrayList", name := "<init>", desc := "()V" } : Jvm.MethodName) jdk_38_method_2_code (1 : Nat) (Option.none : Option Jvm.ClassFile.FieldType)).before args0 about1 = true := code_word (m := ⟨16, 0⟩) (meth := k16m0) (c := k16c0) (by decide +kernel) rfl rfl rfl (by decide +kernel)
set_option maxRecDepth 65536 in
theorem w_c4 : (Jvm.Cond.code ({ cls := "java/util/AbstractList", name := "<init>", desc := "()V" } : Jvm.MethodName) jdk_39_method_1_code (1 : Nat) (Option.none : Option Jvm.ClassFile.FieldType)).before args0 about1 = true := code_word (m := ⟨13, 0⟩) (meth := k13m0) (c := k13c0) (by decide +kernel) rfl rfl rfl (by decide +kernel)
set_option maxRecDepth 65536 in
theorem w_c5 : (Jvm.Cond.code ({ cls := "java/util/AbstractCollection", name := "<init>", desc := "()V" } : Jvm.MethodName) jdk_22_method_1_code (1 : Nat) (Option.none : Option Jvm.ClassFile.FieldType)).before args0 about1 = true := code_word (m := ⟨10, 0⟩) (meth := k10m0) (c := k10c0) (by decide +kernel) rfl rfl rfl (by decide +kernel)
set_option maxRecDepth 65536 in
theorem w_c6 : (Jvm.Cond.code ({ cls := "java/lang/Enum", name := "ordinal", desc := "()I" } : Jvm.MethodName) jdk_37_method_2_code (1 : Nat) (Option.some Jvm.ClassFile.FieldType.int)).before args0 about1 = true := code_word (m := ⟨5, 0⟩) (meth := k5m0) (c := k5c0) (by decide +kernel) rfl rfl rfl (by decide +kernel)
set_option maxRecDepth 65536 in
theorem w_c7 : (Jvm.Cond.code ({ cls := "java/util/ArrayList", name := "add", desc := "(Ljava/lang/Object;)Z" } : Jvm.MethodName) jdk_38_method_25_code (2 : Nat) (Option.some Jvm.ClassFile.FieldType.boolean)).before args0 about1 = true := code_word (m := ⟨16, 8⟩) (meth := k16m8) (c := k16c8) (by decide +kernel) rfl rfl rfl (by decide +kernel)
set_option maxRecDepth 65536 in
theorem w_c8 : (Jvm.Cond.code ({ cls := "java/util/ArrayList", name := "add", desc := "(Ljava/lang/Object;[Ljava/lang/Object;I)V" } : Jvm.MethodName) jdk_38_method_24_code (4 : Nat) (Option.none : Option Jvm.ClassFile.FieldType)).before args0 about1 = true := code_word (m := ⟨16, 7⟩) (meth := k16m7) (c := k16c7) (by decide +kernel) rfl rfl rfl (by decide +kernel)
set_option maxRecDepth 65536 in
theorem w_c9 : (Jvm.Cond.code ({ cls := "java/util/ArrayList", name := "grow", desc := "()[Ljava/lang/Object;" } : Jvm.MethodName) jdk_38_method_7_code (1 : Nat) (Option.some (Jvm.ClassFile.FieldType.array (Jvm.ClassFile.FieldType.object "java/lang/Object")))).before args0 about1 = true := code_word (m := ⟨16, 2⟩) (meth := k16m2) (c := k16c2) (by decide +kernel) rfl rfl rfl (by decide +kernel)
set_option maxRecDepth 65536 in
theorem w_c10 : (Jvm.Cond.code ({ cls := "java/util/ArrayList", name := "grow", desc := "(I)[Ljava/lang/Object;" } : Jvm.MethodName) jdk_38_method_6_code (4 : Nat) (Option.some (Jvm.ClassFile.FieldType.array (Jvm.ClassFile.FieldType.object "java/lang/Object")))).before args0 about1 = true := code_word (m := ⟨16, 1⟩) (meth := k16m1) (c := k16c1) (by decide +kernel) rfl rfl rfl (by decide +kernel)
set_option maxRecDepth 65536 in
theorem w_c11 : (Jvm.Cond.code ({ cls := "java/lang/Math", name := "max", desc := "(II)I" } : Jvm.MethodName) jdk_29_method_65_code (2 : Nat) (Option.some Jvm.ClassFile.FieldType.int)).before args0 about1 = true := code_word (m := ⟨17, 1⟩) (meth := k17m1) (c := k17c1) (by decide +kernel) rfl rfl rfl (by decide +kernel)
set_option maxRecDepth 65536 in
theorem w_c12 : (Jvm.Cond.code ({ cls := "com/example/collectary/collectary/broker/Grid", name := "addCut", desc := "(Lcom/example/collectary/collectary/broker/Grid$Axis;I)V" } : Jvm.MethodName) prog_14_method_11_code (9 : Nat) (Option.none : Option Jvm.ClassFile.FieldType)).before args0 about1 = true := code_word (m := ⟨7, 3⟩) (meth := k7m3) (c := k7c3) (by decide +kernel) rfl rfl rfl (by decide +kernel)
set_option maxRecDepth 65536 in
theorem w_c13 : (Jvm.Cond.code ({ cls := "com/example/collectary/collectary/broker/Grid", name := "interval", desc := "(Lcom/example/collectary/collectary/broker/Grid$Axis;I)I" } : Jvm.MethodName) prog_14_method_7_code (4 : Nat) (Option.some Jvm.ClassFile.FieldType.int)).before args0 about1 = true := code_word (m := ⟨7, 1⟩) (meth := k7m1) (c := k7c1) (by decide +kernel) rfl rfl rfl (by decide +kernel)
set_option maxRecDepth 65536 in
theorem w_c14 : (Jvm.Cond.code ({ cls := "java/util/Arrays", name := "binarySearch", desc := "([II)I" } : Jvm.MethodName) jdk_65_method_57_code (2 : Nat) (Option.some Jvm.ClassFile.FieldType.int)).before args0 about1 = true := code_word (m := ⟨18, 1⟩) (meth := k18m1) (c := k18c1) (by decide +kernel) rfl rfl rfl (by decide +kernel)
set_option maxRecDepth 65536 in
theorem w_c15 : (Jvm.Cond.code ({ cls := "java/util/Arrays", name := "binarySearch0", desc := "([IIII)I" } : Jvm.MethodName) jdk_65_method_59_code (8 : Nat) (Option.some Jvm.ClassFile.FieldType.int)).before args0 about1 = true := code_word (m := ⟨18, 2⟩) (meth := k18m2) (c := k18c2) (by decide +kernel) rfl rfl rfl (by decide +kernel)
set_option maxRecDepth 65536 in
theorem w_c16 : (Jvm.Cond.code ({ cls := "java/util/ArrayList", name := "get", desc := "(I)Ljava/lang/Object;" } : Jvm.MethodName) jdk_38_method_20_code (2 : Nat) (Option.some (Jvm.ClassFile.FieldType.object "java/lang/Object"))).before args0 about1 = true := code_word (m := ⟨16, 5⟩) (meth := k16m5) (c := k16c5) (by decide +kernel) rfl rfl rfl (by decide +kernel)
set_option maxRecDepth 65536 in
theorem w_c17 : (Jvm.Cond.code ({ cls := "java/util/Objects", name := "checkIndex", desc := "(II)I" } : Jvm.MethodName) jdk_31_method_17_code (2 : Nat) (Option.some Jvm.ClassFile.FieldType.int)).before args0 about1 = true := code_word (m := ⟨20, 1⟩) (meth := k20m1) (c := k20c1) (by decide +kernel) rfl rfl rfl (by decide +kernel)
set_option maxRecDepth 65536 in
theorem w_c18 : (Jvm.Cond.code ({ cls := "jdk/internal/util/Preconditions", name := "checkIndex", desc := "(IILjava/util/function/BiFunction;)I" } : Jvm.MethodName) jdk_41_method_11_code (3 : Nat) (Option.some Jvm.ClassFile.FieldType.int)).before args0 about1 = true := code_word (m := ⟨21, 1⟩) (meth := k21m1) (c := k21c1) (by decide +kernel) rfl rfl rfl (by decide +kernel)
set_option maxRecDepth 65536 in
theorem w_c19 : (Jvm.Cond.code ({ cls := "java/util/ArrayList", name := "elementData", desc := "(I)Ljava/lang/Object;" } : Jvm.MethodName) jdk_38_method_18_code (2 : Nat) (Option.some (Jvm.ClassFile.FieldType.object "java/lang/Object"))).before args0 about1 = true := code_word (m := ⟨16, 4⟩) (meth := k16m4) (c := k16c4) (by decide +kernel) rfl rfl rfl (by decide +kernel)
set_option maxRecDepth 65536 in
theorem w_c20 : (Jvm.Cond.code ({ cls := "java/util/ArrayList", name := "add", desc := "(ILjava/lang/Object;)V" } : Jvm.MethodName) jdk_38_method_26_code (5 : Nat) (Option.none : Option Jvm.ClassFile.FieldType)).before args0 about1 = true := code_word (m := ⟨16, 9⟩) (meth := k16m9) (c := k16c9) (by decide +kernel) rfl rfl rfl (by decide +kernel)
set_option maxRecDepth 65536 in
theorem w_c21 : (Jvm.Cond.code ({ cls := "java/util/ArrayList", name := "rangeCheckForAdd", desc := "(I)V" } : Jvm.MethodName) jdk_38_method_45_code (2 : Nat) (Option.none : Option Jvm.ClassFile.FieldType)).before args0 about1 = true := code_word (m := ⟨16, 10⟩) (meth := k16m10) (c := k16c10) (by decide +kernel) rfl rfl rfl (by decide +kernel)
set_option maxRecDepth 65536 in
theorem w_c22 : (Jvm.Cond.code ({ cls := "java/util/ArrayList", name := "size", desc := "()I" } : Jvm.MethodName) jdk_38_method_8_code (1 : Nat) (Option.some Jvm.ClassFile.FieldType.int)).before args0 about1 = true := code_word (m := ⟨16, 3⟩) (meth := k16m3) (c := k16c3) (by decide +kernel) rfl rfl rfl (by decide +kernel)
set_option maxRecDepth 65536 in
theorem w_c23 : (Jvm.Cond.code ({ cls := "java/util/ArrayList", name := "set", desc := "(ILjava/lang/Object;)Ljava/lang/Object;" } : Jvm.MethodName) jdk_38_method_23_code (4 : Nat) (Option.some (Jvm.ClassFile.FieldType.object "java/lang/Object"))).before args0 about1 = true := code_word (m := ⟨16, 6⟩) (meth := k16m6) (c := k16c6) (by decide +kernel) rfl rfl rfl (by decide +kernel)
set_option maxRecDepth 65536 in
theorem w_c24 : (Jvm.Cond.code ({ cls := "com/example/collectary/collectary/broker/Grid", name := "start", desc := "(Lcom/example/collectary/collectary/broker/Grid$Axis;I)I" } : Jvm.MethodName) prog_14_method_8_code (3 : Nat) (Option.some Jvm.ClassFile.FieldType.int)).before args0 about1 = true := code_word (m := ⟨7, 2⟩) (meth := k7m2) (c := k7c2) (by decide +kernel) rfl rfl rfl (by decide +kernel)
def codes1 : List Jvm.Cond := [Jvm.Cond.code x code maxLocals ret, Jvm.Cond.code ({ cls := "com/example/collectary/collectary/broker/Grid", name := "<init>", desc := "(II)V" } : Jvm.MethodName) prog_14_method_1_code (3 : Nat) (Option.none : Option Jvm.ClassFile.FieldType), Jvm.Cond.code ({ cls := "java/lang/Object", name := "<init>", desc := "()V" } : Jvm.MethodName) object_method_1_code (1 : Nat) (Option.none : Option Jvm.ClassFile.FieldType), Jvm.Cond.code ({ cls := "java/util/ArrayList", name := "<init>", desc := "()V" } : Jvm.MethodName) jdk_38_method_2_code (1 : Nat) (Option.none : Option Jvm.ClassFile.FieldType), Jvm.Cond.code ({ cls := "java/util/AbstractList", name := "<init>", desc := "()V" } : Jvm.MethodName) jdk_39_method_1_code (1 : Nat) (Option.none : Option Jvm.ClassFile.FieldType), Jvm.Cond.code ({ cls := "java/util/AbstractCollection", name := "<init>", desc := "()V" } : Jvm.MethodName) jdk_22_method_1_code (1 : Nat) (Option.none : Option Jvm.ClassFile.FieldType), Jvm.Cond.code ({ cls := "java/lang/Enum", name := "ordinal", desc := "()I" } : Jvm.MethodName) jdk_37_method_2_code (1 : Nat) (Option.some Jvm.ClassFile.FieldType.int), Jvm.Cond.code ({ cls := "java/util/ArrayList", name := "add", desc := "(Ljava/lang/Object;)Z" } : Jvm.MethodName) jdk_38_method_25_code (2 : Nat) (Option.some Jvm.ClassFile.FieldType.boolean), Jvm.Cond.code ({ cls := "java/util/ArrayList", name := "add", desc := "(Ljava/lang/Object;[Ljava/lang/Object;I)V" } : Jvm.MethodName) jdk_38_method_24_code (4 : Nat) (Option.none : Option Jvm.ClassFile.FieldType), Jvm.Cond.code ({ cls := "java/util/ArrayList", name := "grow", desc := "()[Ljava/lang/Object;" } : Jvm.MethodName) jdk_38_method_7_code (1 : Nat) (Option.some (Jvm.ClassFile.FieldType.array (Jvm.ClassFile.FieldType.object "java/lang/Object"))), Jvm.Cond.code ({ cls := "java/util/ArrayList", name := "grow", desc := "(I)[Ljava/lang/Object;" } : Jvm.MethodName) jdk_38_method_6_code (4 : Nat) (Option.some (Jvm.ClassFile.FieldType.array (Jvm.ClassFile.FieldType.object "java/lang/Object"))), Jvm.Cond.code ({ cls := "java/lang/Math", name := "max", desc := "(II)I" } : Jvm.MethodName) jdk_29_method_65_code (2 : Nat) (Option.some Jvm.ClassFile.FieldType.int), Jvm.Cond.code ({ cls := "com/example/collectary/collectary/broker/Grid", name := "addCut", desc := "(Lcom/example/collectary/collectary/broker/Grid$Axis;I)V" } : Jvm.MethodName) prog_14_method_11_code (9 : Nat) (Option.none : Option Jvm.ClassFile.FieldType), Jvm.Cond.code ({ cls := "com/example/collectary/collectary/broker/Grid", name := "interval", desc := "(Lcom/example/collectary/collectary/broker/Grid$Axis;I)I" } : Jvm.MethodName) prog_14_method_7_code (4 : Nat) (Option.some Jvm.ClassFile.FieldType.int), Jvm.Cond.code ({ cls := "java/util/Arrays", name := "binarySearch", desc := "([II)I" } : Jvm.MethodName) jdk_65_method_57_code (2 : Nat) (Option.some Jvm.ClassFile.FieldType.int), Jvm.Cond.code ({ cls := "java/util/Arrays", name := "binarySearch0", desc := "([IIII)I" } : Jvm.MethodName) jdk_65_method_59_code (8 : Nat) (Option.some Jvm.ClassFile.FieldType.int), Jvm.Cond.code ({ cls := "java/util/ArrayList", name := "get", desc := "(I)Ljava/lang/Object;" } : Jvm.MethodName) jdk_38_method_20_code (2 : Nat) (Option.some (Jvm.ClassFile.FieldType.object "java/lang/Object")), Jvm.Cond.code ({ cls := "java/util/Objects", name := "checkIndex", desc := "(II)I" } : Jvm.MethodName) jdk_31_method_17_code (2 : Nat) (Option.some Jvm.ClassFile.FieldType.int), Jvm.Cond.code ({ cls := "jdk/internal/util/Preconditions", name := "checkIndex", desc := "(IILjava/util/function/BiFunction;)I" } : Jvm.MethodName) jdk_41_method_11_code (3 : Nat) (Option.some Jvm.ClassFile.FieldType.int), Jvm.Cond.code ({ cls := "java/util/ArrayList", name := "elementData", desc := "(I)Ljava/lang/Object;" } : Jvm.MethodName) jdk_38_method_18_code (2 : Nat) (Option.some (Jvm.ClassFile.FieldType.object "java/lang/Object")), Jvm.Cond.code ({ cls := "java/util/ArrayList", name := "add", desc := "(ILjava/lang/Object;)V" } : Jvm.MethodName) jdk_38_method_26_code (5 : Nat) (Option.none : Option Jvm.ClassFile.FieldType), Jvm.Cond.code ({ cls := "java/util/ArrayList", name := "rangeCheckForAdd", desc := "(I)V" } : Jvm.MethodName) jdk_38_method_45_code (2 : Nat) (Option.none : Option Jvm.ClassFile.FieldType), Jvm.Cond.code ({ cls := "java/util/ArrayList", name := "size", desc := "()I" } : Jvm.MethodName) jdk_38_method_8_code (1 : Nat) (Option.some Jvm.ClassFile.FieldType.int), Jvm.Cond.code ({ cls := "java/util/ArrayList", name := "set", desc := "(ILjava/lang/Object;)Ljava/lang/Object;" } : Jvm.MethodName) jdk_38_method_23_code (4 : Nat) (Option.some (Jvm.ClassFile.FieldType.object "java/lang/Object")), Jvm.Cond.code ({ cls := "com/example/collectary/collectary/broker/Grid", name := "start", desc := "(Lcom/example/collectary/collectary/broker/Grid$Axis;I)I" } : Jvm.MethodName) prog_14_method_8_code (3 : Nat) (Option.some Jvm.ClassFile.FieldType.int)]
set_option maxRecDepth 65536 in
theorem codes_eq : words1.filter isCode = codes1 := rfl
theorem w_codes : ∀ c ∈ words1.filter isCode, c.before args0 about1 = true := by
  rw [codes_eq]
  intro c hc
  simp only [codes1, List.mem_cons, List.not_mem_nil, or_false] at hc
  rcases hc with rfl | rfl | rfl | rfl | rfl | rfl | rfl | rfl | rfl | rfl | rfl | rfl | rfl | rfl | rfl | rfl | rfl | rfl | rfl | rfl | rfl | rfl | rfl | rfl | rfl
  · exact w_c0
  · exact w_c1
  · exact w_c2
  · exact w_c3
  · exact w_c4
  · exact w_c5
  · exact w_c6
  · exact w_c7
  · exact w_c8
  · exact w_c9
  · exact w_c10
  · exact w_c11
  · exact w_c12
  · exact w_c13
  · exact w_c14
  · exact w_c15
  · exact w_c16
  · exact w_c17
  · exact w_c18
  · exact w_c19
  · exact w_c20
  · exact w_c21
  · exact w_c22
  · exact w_c23
  · exact w_c24
set_option maxRecDepth 65536 in
theorem w_t1 : (words1.take 24).all (fun c => isCode c || c.before args0 about1) = true := by decide +kernel
set_option maxRecDepth 65536 in
theorem w_t2 : ((words1.drop 24).take 24).all (fun c => isCode c || c.before args0 about1) = true := by decide +kernel
set_option maxRecDepth 65536 in
theorem w_t3 : (((words1.drop 24).drop 24).take 24).all (fun c => isCode c || c.before args0 about1) = true := by decide +kernel
set_option maxRecDepth 65536 in
theorem w_t4 : ((((words1.drop 24).drop 24).drop 24).take 24).all (fun c => isCode c || c.before args0 about1) = true := by decide +kernel
set_option maxRecDepth 65536 in
theorem w_t5 : (((((words1.drop 24).drop 24).drop 24).drop 24).take 24).all (fun c => isCode c || c.before args0 about1) = true := by decide +kernel
set_option maxRecDepth 65536 in
theorem w_t6 : ((((((words1.drop 24).drop 24).drop 24).drop 24).drop 24).take 24).all (fun c => isCode c || c.before args0 about1) = true := by decide +kernel
set_option maxRecDepth 65536 in
theorem w_t7 : (((((((words1.drop 24).drop 24).drop 24).drop 24).drop 24).drop 24).take 24).all (fun c => isCode c || c.before args0 about1) = true := by decide +kernel
set_option maxRecDepth 65536 in
theorem w_t8 : (((((((words1.drop 24).drop 24).drop 24).drop 24).drop 24).drop 24).drop 24).all (fun c => isCode c || c.before args0 about1) = true := by decide +kernel
theorem w_tables : (allAtoms (Jvm.Cond.code x code maxLocals ret :: tables_1)).before args0 about1 = true := by
  rw [allAtoms_all]
  show words1.all (fun c => c.before args0 about1) = true
  refine all_split ?_ w_codes
  rw [← List.take_append_drop 24 words1, List.all_append, w_t1, ← List.take_append_drop 24 (words1.drop 24), List.all_append, w_t2, ← List.take_append_drop 24 ((words1.drop 24).drop 24), List.all_append, w_t3, ← List.take_append_drop 24 (((words1.drop 24).drop 24).drop 24), List.all_append, w_t4, ← List.take_append_drop 24 ((((words1.drop 24).drop 24).drop 24).drop 24), List.all_append, w_t5, ← List.take_append_drop 24 (((((words1.drop 24).drop 24).drop 24).drop 24).drop 24), List.all_append, w_t6, ← List.take_append_drop 24 ((((((words1.drop 24).drop 24).drop 24).drop 24).drop 24).drop 24), List.all_append, w_t7, w_t8]
  rfl
set_option maxRecDepth 65536 in
theorem w_rest : rest_1_c.before args0 about1 = true := by decide +kernel
set_option maxRecDepth 65536 in
theorem w_case : (Jvm.Cond.and given_1 narrow_1).before args0 about1 = true := by decide +kernel
theorem w_applies : (headSpec (Jvm.Cond.code x code maxLocals ret :: tables_1) room_1).applies x e0.platform about1 = true :=
  (Spec.applies_iff w_frames).mpr ⟨w_running, w_runnable, w_alone, w_named, w_hears, w_ripe, w_room, w_tables⟩
theorem atStart : AtStart classFile x code maxLocals ret World_1 tables_1 room_1 Calls_1 rest_1 Pre_1 launch0 p0 e0 about1 theMethod args0 below0 :=
  ⟨lists_1, trivial, launch0.admits_env _ _ _, launch0.least_env, fairChoices_fair.cas, fairChoices_fair.clock, w_frames, w_args, w_heap, w_applies, trivial, w_rest, w_case⟩
end start1
theorem witness_1 : WitnessClaimed_1 := ⟨start1.p0, start1.e0, start1.about1, start1.theMethod, start1.args0, start1.below0, start1.atStart⟩
end Jvm.Pilot.@@N@@

import JvmDerived
import JvmDerived.Pilot.@@N@@Statement
import JvmDerived.Pilot.@@N@@Code
set_option linter.unusedVariables false
set_option linter.unusedSimpArgs false
namespace Jvm.Pilot.@@N@@
open Jvm Jvm.ClassFile Sem Op Lib Jvm.Free Jvm.Stand Jvm.LawKit Jvm.RoadKit Bundle Jvm.Pilot.@@N@@.Jvm.D
section OwnGo
variable {p : Program} {l : Launch} {e : Env} {R : Room} {s : State} {m : MethodId} {args : Array Value} {below : List Frame} {meth : Method} {c : Code} {T : State} {locs : List Loc} {cells slots : Nat} {Z : State} {a0 : Array Value} {h : Heap} {K : Outcome → State → Prop} {pc pc' : Nat} {Ls : Array Slot} {st : List Value}
/-- from frame g in state T the run ends as K says -/
def Goes (p : Program) (e : Env) (below : List Frame) (K : Outcome → State → Prop) (T : State) (g : JFrame) : Prop := ∃ u o, Steps p.tables e below (T.setTop g) u ∧ u.status = .running ∧ Ended u below o ∧ K o u
theorem Goes.by' {T' : State} {g g' : JFrame} (f : ∀ t, Steps p.tables e below (T'.setTop g') t → Steps p.tables e below (T.setTop g) t) (k : Goes p e below K T' g') : Goes p e below K T g := by obtain ⟨u, o, h1, h2⟩ := k; exact ⟨u, o, f _ h1, h2⟩
theorem Goes.cast {g g' : JFrame} (q : g = g') (k : Goes p e below K T g') : Goes p e below K T g := q ▸ k
/-- a callee's contract: called with as' at the heap h0 it returns v, leaves a heap and a list of written places of which Q speaks -/
abbrev Ctr (l : Launch) (Z : State) (y : MethodName) (bytes : ByteArray) (maxL : Nat) (ret : Option FieldType) (ws : List Jvm.Cond) (rm : Room) (C S : Nat) (as' : Array Value) (h0 : Heap) (Q : Option Value → Heap → List Loc → Prop) : Prop := MetFree l y (head1 (Jvm.Cond.code y bytes maxL ret :: ws) rm) (fun a U => a = as' ∧ Z.Warmed39 U.vm ∧ U.heap = h0) (fun _ _ _ _ _ => True) (fun _ U o U' => ∃ v L, o = .returned v ∧ Q v U'.heap L ∧ FrameEnd U o U' L C S)
abbrev KQ (s : State) (C S : Nat) (Q : Option Value → Heap → List Loc → Prop) : Outcome → State → Prop := fun o u => ∃ v L, o = .returned v ∧ Q v u.heap L ∧ FrameEnd s o u L C S
theorem Ctr.of {y : MethodName} {bytes : ByteArray} {maxL : Nat} {ret : Option FieldType} {ws : List Jvm.Cond} {rm : Room} {C S : Nat} {as' : Array Value} {h0 : Heap} {Q : Option Value → Heap → List Loc → Prop} (hpn : plainFor y = true)
    (body : ∀ (p : Program) (e : Env) (s : State) (m : MethodId) (below : List Frame) (meth : Method) (c : Code) (s₁ : State), p.tables.exec = Jvm.exec → c.code = bytes → c.maxLocals = maxL → s.vm.findClass y.cls = some m.cls → meth.name = y.name → meth.sig.returnType = ret → meth.locks = false → Z.Warmed39 s.vm → Stand p l e rm s m as' below meth c s₁ [] 0 0 → s₁.heap = h0 → Goes p e below (KQ s C S Q) s₁ (entryFrame m as' maxL)) :
    Ctr l Z y bytes maxL ret ws rm C S as' h0 Q := by
  refine MetFree.of_bodySF hpn hisR ?_
  intro p e s m args below meth c s₁ Bd hml0 hP hK
  obtain ⟨rfl, hZ, hh⟩ := hP
  have hlk : meth.locks = false := BodyLoose.notSynchronized Bd
  exact body p e s m below meth c s₁ Bd.exec Bd.bytes hml0 (findClass_of_methodNamed Bd.named) (name_of_methodNamed Bd.named Bd.method).1 Bd.returns hlk hZ (Stand.of_body Bd) (by rw [← hh, Bd.state]; rfl)
theorem wd {a0 : Array Value} {Z : State} {tb : List Jvm.Cond} (hw : ∀ d ∈ tb, d.before a0 Z = true) (i : Nat) {d : Jvm.Cond} (q : tb[i]? = some d) : d.before a0 Z = true := hw _ (List.mem_of_getElem? q)
theorem g_iadd (X : Stand p l e R s m args below meth c T locs cells slots) (hx : p.tables.exec = Jvm.exec) {x y : Int32} (hd : decode c.code pc = .ok (.iadd, 1))  (hp : pc + 1 = pc') (k : Goes p e below K T (mkF m pc' Ls (.int (x + y) :: st))) : Goes p e below K T (mkF m pc Ls (.int y :: .int x :: st)) := by subst hp; exact Goes.by' (fun _ q => XS.iadd X.here hx rfl hd rfl q) k
theorem g_isub (X : Stand p l e R s m args below meth c T locs cells slots) (hx : p.tables.exec = Jvm.exec) {x y : Int32} (hd : decode c.code pc = .ok (.isub, 1))  (hp : pc + 1 = pc') (k : Goes p e below K T (mkF m pc' Ls (.int (x - y) :: st))) : Goes p e below K T (mkF m pc Ls (.int y :: .int x :: st)) := by subst hp; exact Goes.by' (fun _ q => XS.isub X.here hx rfl hd rfl q) k
theorem g_iand (X : Stand p l e R s m args below meth c T locs cells slots) (hx : p.tables.exec = Jvm.exec) {x y : Int32} (hd : decode c.code pc = .ok (.iand, 1))  (hp : pc + 1 = pc') (k : Goes p e below K T (mkF m pc' Ls (.int (x &&& y) :: st))) : Goes p e below K T (mkF m pc Ls (.int y :: .int x :: st)) := by subst hp; exact Goes.by' (fun _ q => XS.iand X.here hx rfl hd rfl q) k
theorem g_imul (X : Stand p l e R s m args below meth c T locs cells slots) (hx : p.tables.exec = Jvm.exec) {x y : Int32} (hd : decode c.code pc = .ok (.imul, 1))  (hp : pc + 1 = pc') (k : Goes p e below K T (mkF m pc' Ls (.int (x * y) :: st))) : Goes p e below K T (mkF m pc Ls (.int y :: .int x :: st)) := by subst hp; exact Goes.by' (fun _ q => XS.imul X.here hx rfl hd rfl q) k
theorem g_ixor (X : Stand p l e R s m args below meth c T locs cells slots) (hx : p.tables.exec = Jvm.exec) {x y : Int32} (hd : decode c.code pc = .ok (.ixor, 1))  (hp : pc + 1 = pc') (k : Goes p e below K T (mkF m pc' Ls (.int (x ^^^ y) :: st))) : Goes p e below K T (mkF m pc Ls (.int y :: .int x :: st)) := by subst hp; exact Goes.by' (fun _ q => XT.ixor X.here hx rfl hd rfl q) k
theorem g_ior (X : Stand p l e R s m args below meth c T locs cells slots) (hx : p.tables.exec = Jvm.exec) {x y : Int32} (hd : decode c.code pc = .ok (.ior, 1))  (hp : pc + 1 = pc') (k : Goes p e below K T (mkF m pc' Ls (.int (x ||| y) :: st))) : Goes p e below K T (mkF m pc Ls (.int y :: .int x :: st)) := by subst hp; exact Goes.by' (fun _ q => XT.ior X.here hx rfl hd rfl q) k
theorem g_idiv (X : Stand p l e R s m args below meth c T locs cells slots) (hx : p.tables.exec = Jvm.exec) {x y : Int32} (hd : decode c.code pc = .ok (.idiv, 1)) (hy : y ≠ 0) (hp : pc + 1 = pc') (k : Goes p e below K T (mkF m pc' Ls (.int (x / y) :: st))) : Goes p e below K T (mkF m pc Ls (.int y :: .int x :: st)) := by subst hp; exact Goes.by' (fun _ q => XS.idiv X.here hx rfl hd rfl hy q) k
theorem g_irem (X : Stand p l e R s m args below meth c T locs cells slots) (hx : p.tables.exec = Jvm.exec) {x y : Int32} (hd : decode c.code pc = .ok (.irem, 1)) (hy : y ≠ 0) (hp : pc + 1 = pc') (k : Goes p e below K T (mkF m pc' Ls (.int (x % y) :: st))) : Goes p e below K T (mkF m pc Ls (.int y :: .int x :: st)) := by subst hp; exact Goes.by' (fun _ q => iremM X hx rfl hd rfl hy q) k
theorem g_ineg (X : Stand p l e R s m args below meth c T locs cells slots) (hx : p.tables.exec = Jvm.exec) {x : Int32} (hd : decode c.code pc = .ok (.ineg, 1))  (hp : pc + 1 = pc') (k : Goes p e below K T (mkF m pc' Ls (.int (-x) :: st))) : Goes p e below K T (mkF m pc Ls (.int x :: st)) := by subst hp; exact Goes.by' (fun _ q => XS.ineg X.here hx rfl hd rfl q) k
theorem g_ishl (X : Stand p l e R s m args below meth c T locs cells slots) (hx : p.tables.exec = Jvm.exec) {x y : Int32} (hd : decode c.code pc = .ok (.ishl, 1))  (hp : pc + 1 = pc') (k : Goes p e below K T (mkF m pc' Ls (.int (x <<< (y &&& 31)) :: st))) : Goes p e below K T (mkF m pc Ls (.int y :: .int x :: st)) := by subst hp; exact Goes.by' (fun _ q => XT.ishl X.here hx rfl hd rfl q) k
theorem g_ishr (X : Stand p l e R s m args below meth c T locs cells slots) (hx : p.tables.exec = Jvm.exec) {x y : Int32} (hd : decode c.code pc = .ok (.ishr, 1))  (hp : pc + 1 = pc') (k : Goes p e below K T (mkF m pc' Ls (.int (x >>> (y &&& 31)) :: st))) : Goes p e below K T (mkF m pc Ls (.int y :: .int x :: st)) := by subst hp; exact Goes.by' (fun _ q => XT.ishr X.here hx rfl hd rfl q) k
theorem g_iushr (X : Stand p l e R s m args below meth c T locs cells slots) (hx : p.tables.exec = Jvm.exec) {x y : Int32} (hd : decode c.code pc = .ok (.iushr, 1))  (hp : pc + 1 = pc') (k : Goes p e below K T (mkF m pc' Ls (.int (XT.ushr x y) :: st))) : Goes p e below K T (mkF m pc Ls (.int y :: .int x :: st)) := by subst hp; exact Goes.by' (fun _ q => XT.iushr X.here hx rfl hd rfl q) k
theorem g_ladd (X : Stand p l e R s m args below meth c T locs cells slots) (hx : p.tables.exec = Jvm.exec) {x y : Int64} (hd : decode c.code pc = .ok (.ladd, 1))  (hp : pc + 1 = pc') (k : Goes p e below K T (mkF m pc' Ls (.long (x + y) :: st))) : Goes p e below K T (mkF m pc Ls (.long y :: .long x :: st)) := by subst hp; exact Goes.by' (fun _ q => XT.ladd X.here hx rfl hd rfl q) k
theorem g_lsub (X : Stand p l e R s m args below meth c T locs cells slots) (hx : p.tables.exec = Jvm.exec) {x y : Int64} (hd : decode c.code pc = .ok (.lsub, 1))  (hp : pc + 1 = pc') (k : Goes p e below K T (mkF m pc' Ls (.long (x - y) :: st))) : Goes p e below K T (mkF m pc Ls (.long y :: .long x :: st)) := by subst hp; exact Goes.by' (fun _ q => XT.lsub X.here hx rfl hd rfl q) k
theorem g_lmul (X : Stand p l e R s m args below meth c T locs cells slots) (hx : p.tables.exec = Jvm.exec) {x y : Int64} (hd : decode c.code pc = .ok (.lmul, 1))  (hp : pc + 1 = pc') (k : Goes p e below K T (mkF m pc' Ls (.long (x * y) :: st))) : Goes p e below K T (mkF m pc Ls (.long y :: .long x :: st)) := by subst hp; exact Goes.by' (fun _ q => XT.lmul X.here hx rfl hd rfl q) k
theorem g_land (X : Stand p l e R s m args below meth c T locs cells slots) (hx : p.tables.exec = Jvm.exec) {x y : Int64} (hd : decode c.code pc = .ok (.land, 1))  (hp : pc + 1 = pc') (k : Goes p e below K T (mkF m pc' Ls (.long (x &&& y) :: st))) : Goes p e below K T (mkF m pc Ls (.long y :: .long x :: st)) := by subst hp; exact Goes.by' (fun _ q => XT.land X.here hx rfl hd rfl q) k
theorem g_lor (X : Stand p l e R s m args below meth c T locs cells slots) (hx : p.tables.exec = Jvm.exec) {x y : Int64} (hd : decode c.code pc = .ok (.lor, 1))  (hp : pc + 1 = pc') (k : Goes p e below K T (mkF m pc' Ls (.long (x ||| y) :: st))) : Goes p e below K T (mkF m pc Ls (.long y :: .long x :: st)) := by subst hp; exact Goes.by' (fun _ q => XT.lor X.here hx rfl hd rfl q) k
theorem g_lxor (X : Stand p l e R s m args below meth c T locs cells slots) (hx : p.tables.exec = Jvm.exec) {x y : Int64} (hd : decode c.code pc = .ok (.lxor, 1))  (hp : pc + 1 = pc') (k : Goes p e below K T (mkF m pc' Ls (.long (x ^^^ y) :: st))) : Goes p e below K T (mkF m pc Ls (.long y :: .long x :: st)) := by subst hp; exact Goes.by' (fun _ q => XT.lxor X.here hx rfl hd rfl q) k
theorem g_ldiv (X : Stand p l e R s m args below meth c T locs cells slots) (hx : p.tables.exec = Jvm.exec) {x y : Int64} (hd : decode c.code pc = .ok (.ldiv, 1)) (hy : y ≠ 0) (hp : pc + 1 = pc') (k : Goes p e below K T (mkF m pc' Ls (.long (x / y) :: st))) : Goes p e below K T (mkF m pc Ls (.long y :: .long x :: st)) := by subst hp; exact Goes.by' (fun _ q => XT.ldiv X.here hx rfl hd rfl hy q) k
theorem g_lrem (X : Stand p l e R s m args below meth c T locs cells slots) (hx : p.tables.exec = Jvm.exec) {x y : Int64} (hd : decode c.code pc = .ok (.lrem, 1)) (hy : y ≠ 0) (hp : pc + 1 = pc') (k : Goes p e below K T (mkF m pc' Ls (.long (x % y) :: st))) : Goes p e below K T (mkF m pc Ls (.long y :: .long x :: st)) := by subst hp; exact Goes.by' (fun _ q => XT.lrem X.here hx rfl hd rfl hy (by rw [lrem_mod]; exact q)) k
theorem g_lneg (X : Stand p l e R s m args below meth c T locs cells slots) (hx : p.tables.exec = Jvm.exec) {x : Int64} (hd : decode c.code pc = .ok (.lneg, 1))  (hp : pc + 1 = pc') (k : Goes p e below K T (mkF m pc' Ls (.long (-x) :: st))) : Goes p e below K T (mkF m pc Ls (.long x :: st)) := by subst hp; exact Goes.by' (fun _ q => XT.lneg X.here hx rfl hd rfl q) k
theorem g_lshl (X : Stand p l e R s m args below meth c T locs cells slots) (hx : p.tables.exec = Jvm.exec) {x : Int64} {y : Int32} (hd : decode c.code pc = .ok (.lshl, 1))  (hp : pc + 1 = pc') (k : Goes p e below K T (mkF m pc' Ls (.long (x <<< (y.toInt64 &&& 63)) :: st))) : Goes p e below K T (mkF m pc Ls (.int y :: .long x :: st)) := by subst hp; exact Goes.by' (fun _ q => XT.lshl X.here hx rfl hd rfl q) k
theorem g_lshr (X : Stand p l e R s m args below meth c T locs cells slots) (hx : p.tables.exec = Jvm.exec) {x : Int64} {y : Int32} (hd : decode c.code pc = .ok (.lshr, 1))  (hp : pc + 1 = pc') (k : Goes p e below K T (mkF m pc' Ls (.long (x >>> (y.toInt64 &&& 63)) :: st))) : Goes p e below K T (mkF m pc Ls (.int y :: .long x :: st)) := by subst hp; exact Goes.by' (fun _ q => XT.lshr X.here hx rfl hd rfl q) k
theorem g_lushr (X : Stand p l e R s m args below meth c T locs cells slots) (hx : p.tables.exec = Jvm.exec) {x : Int64} {y : Int32} (hd : decode c.code pc = .ok (.lushr, 1))  (hp : pc + 1 = pc') (k : Goes p e below K T (mkF m pc' Ls (.long (XT.ushrL x y) :: st))) : Goes p e below K T (mkF m pc Ls (.int y :: .long x :: st)) := by subst hp; exact Goes.by' (fun _ q => XT.lushr X.here hx rfl hd rfl q) k
theorem g_lcmp (X : Stand p l e R s m args below meth c T locs cells slots) (hx : p.tables.exec = Jvm.exec) {x y : Int64} (hd : decode c.code pc = .ok (.lcmp, 1))  (hp : pc + 1 = pc') (k : Goes p e below K T (mkF m pc' Ls (.int (XT.cmpL x y) :: st))) : Goes p e below K T (mkF m pc Ls (.long y :: .long x :: st)) := by subst hp; exact Goes.by' (fun _ q => XT.lcmp X.here hx rfl hd rfl q) k
theorem g_i2l (X : Stand p l e R s m args below meth c T locs cells slots) (hx : p.tables.exec = Jvm.exec) {x : Int32} (hd : decode c.code pc = .ok (.i2l, 1))  (hp : pc + 1 = pc') (k : Goes p e below K T (mkF m pc' Ls (.long x.toInt64 :: st))) : Goes p e below K T (mkF m pc Ls (.int x :: st)) := by subst hp; exact Goes.by' (fun _ q => XT.i2l X.here hx rfl hd rfl q) k
theorem g_l2i (X : Stand p l e R s m args below meth c T locs cells slots) (hx : p.tables.exec = Jvm.exec) {x : Int64} (hd : decode c.code pc = .ok (.l2i, 1))  (hp : pc + 1 = pc') (k : Goes p e below K T (mkF m pc' Ls (.int x.toInt32 :: st))) : Goes p e below K T (mkF m pc Ls (.long x :: st)) := by subst hp; exact Goes.by' (fun _ q => XT.l2i X.here hx rfl hd rfl q) k
theorem g_i2b (X : Stand p l e R s m args below meth c T locs cells slots) (hx : p.tables.exec = Jvm.exec) {x : Int32} (hd : decode c.code pc = .ok (.i2b, 1))  (hp : pc + 1 = pc') (k : Goes p e below K T (mkF m pc' Ls (.int x.toInt8.toInt32 :: st))) : Goes p e below K T (mkF m pc Ls (.int x :: st)) := by subst hp; exact Goes.by' (fun _ q => XT.i2b X.here hx rfl hd rfl q) k
theorem g_i2c (X : Stand p l e R s m args below meth c T locs cells slots) (hx : p.tables.exec = Jvm.exec) {x : Int32} (hd : decode c.code pc = .ok (.i2c, 1))  (hp : pc + 1 = pc') (k : Goes p e below K T (mkF m pc' Ls (.int x.toUInt32.toUInt16.toUInt32.toInt32 :: st))) : Goes p e below K T (mkF m pc Ls (.int x :: st)) := by subst hp; exact Goes.by' (fun _ q => XT.i2c X.here hx rfl hd rfl q) k
theorem g_i2s (X : Stand p l e R s m args below meth c T locs cells slots) (hx : p.tables.exec = Jvm.exec) {x : Int32} (hd : decode c.code pc = .ok (.i2s, 1))  (hp : pc + 1 = pc') (k : Goes p e below K T (mkF m pc' Ls (.int x.toInt16.toInt32 :: st))) : Goes p e below K T (mkF m pc Ls (.int x :: st)) := by subst hp; exact Goes.by' (fun _ q => XT.i2s X.here hx rfl hd rfl q) k
theorem g_aload_n (X : Stand p l e R s m args below meth c T locs cells slots) (hx : p.tables.exec = Jvm.exec) {i : Fin 4} {v : Value} (hd : decode c.code pc = .ok (.aload_n i, 1)) (hl : Ls[i.val]? = some (.val v)) (hv : v.isRef = true) (hp : pc + 1 = pc') (k : Goes p e below K T (mkF m pc' Ls (v :: st))) : Goes p e below K T (mkF m pc Ls (st)) := by subst hp; exact Goes.by' (fun _ q => XS.aloadN X.here hx rfl hd hl hv q) k
theorem g_aload (X : Stand p l e R s m args below meth c T locs cells slots) (hx : p.tables.exec = Jvm.exec) {i : Nat} {v : Value} (hd : decode c.code pc = .ok (.aload i, 2)) (hl : Ls[i]? = some (.val v)) (hv : v.isRef = true) (hp : pc + 2 = pc') (k : Goes p e below K T (mkF m pc' Ls (v :: st))) : Goes p e below K T (mkF m pc Ls (st)) := by subst hp; exact Goes.by' (fun _ q => XS.aload X.here hx rfl hd hl hv q) k
theorem g_iload_n (X : Stand p l e R s m args below meth c T locs cells slots) (hx : p.tables.exec = Jvm.exec) {i : Fin 4} {v : Int32} (hd : decode c.code pc = .ok (.iload_n i, 1)) (hl : Ls[i.val]? = some (.val (.int v))) (hp : pc + 1 = pc') (k : Goes p e below K T (mkF m pc' Ls (.int v :: st))) : Goes p e below K T (mkF m pc Ls (st)) := by subst hp; exact Goes.by' (fun _ q => XS.iloadN X.here hx rfl hd hl q) k
theorem g_iload (X : Stand p l e R s m args below meth c T locs cells slots) (hx : p.tables.exec = Jvm.exec) {i : Nat} {v : Int32} (hd : decode c.code pc = .ok (.iload i, 2)) (hl : Ls[i]? = some (.val (.int v))) (hp : pc + 2 = pc') (k : Goes p e below K T (mkF m pc' Ls (.int v :: st))) : Goes p e below K T (mkF m pc Ls (st)) := by subst hp; exact Goes.by' (fun _ q => XS.iload X.here hx rfl hd hl q) k
theorem g_lload_n (X : Stand p l e R s m args below meth c T locs cells slots) (hx : p.tables.exec = Jvm.exec) {i : Fin 4} {v : Int64} (hd : decode c.code pc = .ok (.lload_n i, 1)) (hl : Ls[i.val]? = some (.val (.long v))) (hp : pc + 1 = pc') (k : Goes p e below K T (mkF m pc' Ls (.long v :: st))) : Goes p e below K T (mkF m pc Ls (st)) := by subst hp; exact Goes.by' (fun _ q => XT.lloadN X.here hx rfl hd hl q) k
theorem g_lload (X : Stand p l e R s m args below meth c T locs cells slots) (hx : p.tables.exec = Jvm.exec) {i : Nat} {v : Int64} (hd : decode c.code pc = .ok (.lload i, 2)) (hl : Ls[i]? = some (.val (.long v))) (hp : pc + 2 = pc') (k : Goes p e below K T (mkF m pc' Ls (.long v :: st))) : Goes p e below K T (mkF m pc Ls (st)) := by subst hp; exact Goes.by' (fun _ q => XT.lload X.here hx rfl hd hl q) k
theorem g_iconst (X : Stand p l e R s m args below meth c T locs cells slots) (hx : p.tables.exec = Jvm.exec) {i : Int} {v : Int32} (hd : decode c.code pc = .ok (.iconst i, 1)) (hv : v = Int32.ofInt i) (hp : pc + 1 = pc') (k : Goes p e below K T (mkF m pc' Ls (.int v :: st))) : Goes p e below K T (mkF m pc Ls (st)) := by subst hp; exact Goes.by' (fun _ q => XS.iconst X.here hx rfl hd (hv ▸ q)) k
theorem g_bipush (X : Stand p l e R s m args below meth c T locs cells slots) (hx : p.tables.exec = Jvm.exec) {i : Int} {v : Int32} (hd : decode c.code pc = .ok (.bipush i, 2)) (hv : v = (Int8.ofInt i).toInt32) (hp : pc + 2 = pc') (k : Goes p e below K T (mkF m pc' Ls (.int v :: st))) : Goes p e below K T (mkF m pc Ls (st)) := by subst hp; exact Goes.by' (fun _ q => XS.bipush X.here hx rfl hd (hv ▸ q)) k
theorem g_sipush (X : Stand p l e R s m args below meth c T locs cells slots) (hx : p.tables.exec = Jvm.exec) {i : Int} {v : Int32} (hd : decode c.code pc = .ok (.sipush i, 3)) (hv : v = (Int16.ofInt i).toInt32) (hp : pc + 3 = pc') (k : Goes p e below K T (mkF m pc' Ls (.int v :: st))) : Goes p e below K T (mkF m pc Ls (st)) := by subst hp; exact Goes.by' (fun _ q => XS.sipush X.here hx rfl hd (hv ▸ q)) k
theorem g_lconst (X : Stand p l e R s m args below meth c T locs cells slots) (hx : p.tables.exec = Jvm.exec) {i : Fin 2} {v : Int64} (hd : decode c.code pc = .ok (.lconst i, 1)) (hv : v = Int64.ofNat i) (hp : pc + 1 = pc') (k : Goes p e below K T (mkF m pc' Ls (.long v :: st))) : Goes p e below K T (mkF m pc Ls (st)) := by subst hp; exact Goes.by' (fun _ q => XT.lconst X.here hx rfl hd (hv ▸ q)) k
theorem g_aconst_null (X : Stand p l e R s m args below meth c T locs cells slots) (hx : p.tables.exec = Jvm.exec)  (hd : decode c.code pc = .ok (.aconst_null, 1))  (hp : pc + 1 = pc') (k : Goes p e below K T (mkF m pc' Ls (.null :: st))) : Goes p e below K T (mkF m pc Ls (st)) := by subst hp; exact Goes.by' (fun _ q => XS.aconstNull X.here hx rfl hd q) k
theorem g_dup (X : Stand p l e R s m args below meth c T locs cells slots) (hx : p.tables.exec = Jvm.exec) {x : Value} (hd : decode c.code pc = .ok (.dup, 1)) (hc : x.category = 1) (hp : pc + 1 = pc') (k : Goes p e below K T (mkF m pc' Ls (x :: x :: st))) : Goes p e below K T (mkF m pc Ls (x :: st)) := by subst hp; exact Goes.by' (fun _ q => XS.dup X.here hx rfl hd rfl hc q) k
theorem g_pop (X : Stand p l e R s m args below meth c T locs cells slots) (hx : p.tables.exec = Jvm.exec) {x : Value} (hd : decode c.code pc = .ok (.pop, 1)) (hc : x.category = 1) (hp : pc + 1 = pc') (k : Goes p e below K T (mkF m pc' Ls (st))) : Goes p e below K T (mkF m pc Ls (x :: st)) := by subst hp; exact Goes.by' (fun _ q => XT.pop X.here hx rfl hd rfl hc q) k
theorem g_dup_x1 (X : Stand p l e R s m args below meth c T locs cells slots) (hx : p.tables.exec = Jvm.exec) {x y : Value} (hd : decode c.code pc = .ok (.dup_x1, 1)) (hc : x.category = 1) (hc' : y.category = 1) (hp : pc + 1 = pc') (k : Goes p e below K T (mkF m pc' Ls (x :: y :: x :: st))) : Goes p e below K T (mkF m pc Ls (x :: y :: st)) := by subst hp; exact Goes.by' (fun _ q => XT.dupX1 X.here hx rfl hd rfl hc hc' q) k
theorem g_dup2 (X : Stand p l e R s m args below meth c T locs cells slots) (hx : p.tables.exec = Jvm.exec) {x y : Value} (hd : decode c.code pc = .ok (.dup2, 1)) (hc : x.category = 1) (hc' : y.category = 1) (hp : pc + 1 = pc') (k : Goes p e below K T (mkF m pc' Ls (x :: y :: x :: y :: st))) : Goes p e below K T (mkF m pc Ls (x :: y :: st)) := by subst hp; exact Goes.by' (fun _ q => XT.dup2 X.here hx rfl hd rfl hc hc' q) k
theorem g_dup2L (X : Stand p l e R s m args below meth c T locs cells slots) (hx : p.tables.exec = Jvm.exec) {x : Int64} (hd : decode c.code pc = .ok (.dup2, 1))  (hp : pc + 1 = pc') (k : Goes p e below K T (mkF m pc' Ls (.long x :: .long x :: st))) : Goes p e below K T (mkF m pc Ls (.long x :: st)) := by subst hp; exact Goes.by' (fun _ q => XT.dup2L X.here hx rfl hd rfl q) k
theorem g_istore_n (X : Stand p l e R s m args below meth c T locs cells slots) (hx : p.tables.exec = Jvm.exec) {i : Fin 4} {x : Int32} (l' : Array Slot) (hd : decode c.code pc = .ok (.istore_n i, 1)) (hl : storeLocals Ls i.val (.int x) = some l') (hp : pc + 1 = pc') (k : Goes p e below K T (mkF m pc' l' (st))) : Goes p e below K T (mkF m pc Ls (.int x :: st)) := by subst hp; exact Goes.by' (fun _ q => XS.istoreN X.here hx rfl hd rfl hl q) k
theorem g_istore (X : Stand p l e R s m args below meth c T locs cells slots) (hx : p.tables.exec = Jvm.exec) {i : Nat} {x : Int32} (l' : Array Slot) (hd : decode c.code pc = .ok (.istore i, 2)) (hl : storeLocals Ls i (.int x) = some l') (hp : pc + 2 = pc') (k : Goes p e below K T (mkF m pc' l' (st))) : Goes p e below K T (mkF m pc Ls (.int x :: st)) := by subst hp; exact Goes.by' (fun _ q => XS.istore X.here hx rfl hd rfl hl q) k
theorem g_lstore_n (X : Stand p l e R s m args below meth c T locs cells slots) (hx : p.tables.exec = Jvm.exec) {i : Fin 4} {x : Int64} (l' : Array Slot) (hd : decode c.code pc = .ok (.lstore_n i, 1)) (hl : storeLocals Ls i.val (.long x) = some l') (hp : pc + 1 = pc') (k : Goes p e below K T (mkF m pc' l' (st))) : Goes p e below K T (mkF m pc Ls (.long x :: st)) := by subst hp; exact Goes.by' (fun _ q => XT.lstoreN X.here hx rfl hd rfl hl q) k
theorem g_lstore (X : Stand p l e R s m args below meth c T locs cells slots) (hx : p.tables.exec = Jvm.exec) {i : Nat} {x : Int64} (l' : Array Slot) (hd : decode c.code pc = .ok (.lstore i, 2)) (hl : storeLocals Ls i (.long x) = some l') (hp : pc + 2 = pc') (k : Goes p e below K T (mkF m pc' l' (st))) : Goes p e below K T (mkF m pc Ls (.long x :: st)) := by subst hp; exact Goes.by' (fun _ q => XT.lstore X.here hx rfl hd rfl hl q) k
theorem g_astore_n (X : Stand p l e R s m args below meth c T locs cells slots) (hx : p.tables.exec = Jvm.exec) {i : Fin 4} {x : Value} (l' : Array Slot) (hd : decode c.code pc = .ok (.astore_n i, 1)) (hv : x.isRef = true) (hl : storeLocals Ls i.val x = some l') (hp : pc + 1 = pc') (k : Goes p e below K T (mkF m pc' l' (st))) : Goes p e below K T (mkF m pc Ls (x :: st)) := by subst hp; exact Goes.by' (fun _ q => XS.astoreN X.here hx rfl hd rfl hv hl q) k
theorem g_astore (X : Stand p l e R s m args below meth c T locs cells slots) (hx : p.tables.exec = Jvm.exec) {i : Nat} {x : Value} (l' : Array Slot) (hd : decode c.code pc = .ok (.astore i, 2)) (hv : x.isRef = true) (hl : storeLocals Ls i x = some l') (hp : pc + 2 = pc') (k : Goes p e below K T (mkF m pc' l' (st))) : Goes p e below K T (mkF m pc Ls (x :: st)) := by subst hp; exact Goes.by' (fun _ q => XS.astore X.here hx rfl hd rfl hv hl q) k
theorem g_iinc (X : Stand p l e R s m args below meth c T locs cells slots) (hx : p.tables.exec = Jvm.exec) {i : Nat} {cst : Int} {x y : Int32} (l' : Array Slot) (hd : decode c.code pc = .ok (.iinc i cst, 3)) (hl : Ls[i]? = some (.val (.int x))) (hy : y = x + Int32.ofInt cst) (hl' : storeLocals Ls i (.int y) = some l') (hp : pc + 3 = pc') (k : Goes p e below K T (mkF m pc' l' (st))) : Goes p e below K T (mkF m pc Ls (st)) := by subst hp; exact Goes.by' (fun _ q => XS.iinc X.here hx rfl hd hl (hy ▸ hl') q) k
theorem g_ldcI (X : Stand p l e R s m args below meth c T locs cells slots) (hx : p.tables.exec = Jvm.exec) (hZ : Z.Warmed39 s.vm) {own : String} {ix : Nat} {v : Int32} (hown : s.vm.findClass own = some m.cls) (w : (Cond.constant own ix v).before a0 Z = true) (hd : decode c.code pc = .ok (.ldc ix, 2)) (hp : pc + 2 = pc') (k : Goes p e below K T (mkF m pc' Ls (.int v :: st))) : Goes p e below K T (mkF m pc Ls st) := by subst hp; exact Goes.by' (fun _ q => X.ldcI hx hown (mvT hZ w) rfl hd q) k
theorem g_ldcWI (X : Stand p l e R s m args below meth c T locs cells slots) (hx : p.tables.exec = Jvm.exec) (hZ : Z.Warmed39 s.vm) {own : String} {ix : Nat} {v : Int32} (hown : s.vm.findClass own = some m.cls) (w : (Cond.constant own ix v).before a0 Z = true) (hd : decode c.code pc = .ok (.ldc_w ix, 3)) (hp : pc + 3 = pc') (k : Goes p e below K T (mkF m pc' Ls (.int v :: st))) : Goes p e below K T (mkF m pc Ls st) := by subst hp; exact Goes.by' (fun _ q => X.ldcWI hx hown (mvT hZ w) rfl hd q) k
theorem g_ldc2J (X : Stand p l e R s m args below meth c T locs cells slots) (hx : p.tables.exec = Jvm.exec) (hZ : Z.Warmed39 s.vm) {own : String} {ix : Nat} {v : Int64} (hown : s.vm.findClass own = some m.cls) (w : (Cond.constantLong own ix v).before a0 Z = true) (hd : decode c.code pc = .ok (.ldc2_w ix, 3)) (hp : pc + 3 = pc') (k : Goes p e below K T (mkF m pc' Ls (.long v :: st))) : Goes p e below K T (mkF m pc Ls st) := by subst hp; exact Goes.by' (fun _ q => X.ldc2J hx hown (mvT hZ w) rfl hd q) k
theorem g_goto (X : Stand p l e R s m args below meth c T locs cells slots) (hx : p.tables.exec = Jvm.exec) {o : Int} (hd : decode c.code pc = .ok (.goto o, 3)) (ho : 0 ≤ (pc : Int) + o) (hp : ((pc : Int) + o).toNat = pc') (k : Goes p e below K T (mkF m pc' Ls st)) : Goes p e below K T (mkF m pc Ls st) := Goes.by' (fun _ q => XS.goto X.here hx rfl (pc0 := pc) (pc' := pc') rfl hd ho hp q) k
theorem icmp_iff (cd : ClassFile.Cond) (x y : Int32) : if_icmp.holds cd x y = true ↔ (match cd with | .eq => x = y | .ne => ¬ x = y | .lt => x < y | .ge => ¬ x < y | .gt => y < x | .le => ¬ y < x) := by cases cd <;> simp [if_icmp.holds, Int32.not_lt, Int32.not_le]
theorem g_icmp_eq (X : Stand p l e R s m args below meth c T locs cells slots) (hx : p.tables.exec = Jvm.exec) {x y : Int32} {o : Int} {pt : Nat} (hd : decode c.code pc = .ok (.if_icmp .eq o, 3)) (ho : 0 ≤ (pc : Int) + o) (hp : ((pc : Int) + o).toNat = pt) (hp' : pc + 3 = pc') (kt : x = y → Goes p e below K T (mkF m pt Ls st)) (kf : ¬ x = y → Goes p e below K T (mkF m pc' Ls st)) : Goes p e below K T (mkF m pc Ls (.int y :: .int x :: st)) := by
  subst hp'
  by_cases q : if_icmp.holds .eq x y = true
  · exact Goes.by' (fun _ r => XS.icmpYes X.here hx rfl (pc0 := pc) (pc' := pt) rfl hd rfl q ho hp r) (kt ((icmp_iff .eq x y).mp q))
  · exact Goes.by' (fun _ r => XS.icmpNo X.here hx rfl hd rfl (by simpa using q) r) (kf (id (mt (icmp_iff .eq x y).mpr q)))
theorem g_if_eq (X : Stand p l e R s m args below meth c T locs cells slots) (hx : p.tables.exec = Jvm.exec) {x : Int32} {o : Int} {pt : Nat} (hd : decode c.code pc = .ok (.ifCond .eq o, 3)) (ho : 0 ≤ (pc : Int) + o) (hp : ((pc : Int) + o).toNat = pt) (hp' : pc + 3 = pc') (kt : x = 0 → Goes p e below K T (mkF m pt Ls st)) (kf : ¬ x = 0 → Goes p e below K T (mkF m pc' Ls st)) : Goes p e below K T (mkF m pc Ls (.int x :: st)) := by
  subst hp'
  by_cases q : if_icmp.holds .eq x 0 = true
  · exact Goes.by' (fun _ r => XS.ifYes X.here hx rfl (pc0 := pc) (pc' := pt) rfl hd rfl (by rw [if0]; exact q) ho hp r) (kt ((icmp_iff .eq x 0).mp q))
  · exact Goes.by' (fun _ r => XS.ifNo X.here hx rfl hd rfl (by rw [if0]; simpa using q) r) (kf (id (mt (icmp_iff .eq x 0).mpr q)))
theorem g_icmp_ne (X : Stand p l e R s m args below meth c T locs cells slots) (hx : p.tables.exec = Jvm.exec) {x y : Int32} {o : Int} {pt : Nat} (hd : decode c.code pc = .ok (.if_icmp .ne o, 3)) (ho : 0 ≤ (pc : Int) + o) (hp : ((pc : Int) + o).toNat = pt) (hp' : pc + 3 = pc') (kt : ¬ x = y → Goes p e below K T (mkF m pt Ls st)) (kf : x = y → Goes p e below K T (mkF m pc' Ls st)) : Goes p e below K T (mkF m pc Ls (.int y :: .int x :: st)) := by
  subst hp'
  by_cases q : if_icmp.holds .ne x y = true
  · exact Goes.by' (fun _ r => XS.icmpYes X.here hx rfl (pc0 := pc) (pc' := pt) rfl hd rfl q ho hp r) (kt ((icmp_iff .ne x y).mp q))
  · exact Goes.by' (fun _ r => XS.icmpNo X.here hx rfl hd rfl (by simpa using q) r) (kf (Classical.not_not.mp (mt (icmp_iff .ne x y).mpr q)))
theorem g_if_ne (X : Stand p l e R s m args below meth c T locs cells slots) (hx : p.tables.exec = Jvm.exec) {x : Int32} {o : Int} {pt : Nat} (hd : decode c.code pc = .ok (.ifCond .ne o, 3)) (ho : 0 ≤ (pc : Int) + o) (hp : ((pc : Int) + o).toNat = pt) (hp' : pc + 3 = pc') (kt : ¬ x = 0 → Goes p e below K T (mkF m pt Ls st)) (kf : x = 0 → Goes p e below K T (mkF m pc' Ls st)) : Goes p e below K T (mkF m pc Ls (.int x :: st)) := by
  subst hp'
  by_cases q : if_icmp.holds .ne x 0 = true
  · exact Goes.by' (fun _ r => XS.ifYes X.here hx rfl (pc0 := pc) (pc' := pt) rfl hd rfl (by rw [if0]; exact q) ho hp r) (kt ((icmp_iff .ne x 0).mp q))
  · exact Goes.by' (fun _ r => XS.ifNo X.here hx rfl hd rfl (by rw [if0]; simpa using q) r) (kf (Classical.not_not.mp (mt (icmp_iff .ne x 0).mpr q)))
theorem g_icmp_lt (X : Stand p l e R s m args below meth c T locs cells slots) (hx : p.tables.exec = Jvm.exec) {x y : Int32} {o : Int} {pt : Nat} (hd : decode c.code pc = .ok (.if_icmp .lt o, 3)) (ho : 0 ≤ (pc : Int) + o) (hp : ((pc : Int) + o).toNat = pt) (hp' : pc + 3 = pc') (kt : x < y → Goes p e below K T (mkF m pt Ls st)) (kf : ¬ x < y → Goes p e below K T (mkF m pc' Ls st)) : Goes p e below K T (mkF m pc Ls (.int y :: .int x :: st)) := by
  subst hp'
  by_cases q : if_icmp.holds .lt x y = true
  · exact Goes.by' (fun _ r => XS.icmpYes X.here hx rfl (pc0 := pc) (pc' := pt) rfl hd rfl q ho hp r) (kt ((icmp_iff .lt x y).mp q))
  · exact Goes.by' (fun _ r => XS.icmpNo X.here hx rfl hd rfl (by simpa using q) r) (kf (id (mt (icmp_iff .lt x y).mpr q)))
theorem g_if_lt (X : Stand p l e R s m args below meth c T locs cells slots) (hx : p.tables.exec = Jvm.exec) {x : Int32} {o : Int} {pt : Nat} (hd : decode c.code pc = .ok (.ifCond .lt o, 3)) (ho : 0 ≤ (pc : Int) + o) (hp : ((pc : Int) + o).toNat = pt) (hp' : pc + 3 = pc') (kt : x < 0 → Goes p e below K T (mkF m pt Ls st)) (kf : ¬ x < 0 → Goes p e below K T (mkF m pc' Ls st)) : Goes p e below K T (mkF m pc Ls (.int x :: st)) := by
  subst hp'
  by_cases q : if_icmp.holds .lt x 0 = true
  · exact Goes.by' (fun _ r => XS.ifYes X.here hx rfl (pc0 := pc) (pc' := pt) rfl hd rfl (by rw [if0]; exact q) ho hp r) (kt ((icmp_iff .lt x 0).mp q))
  · exact Goes.by' (fun _ r => XS.ifNo X.here hx rfl hd rfl (by rw [if0]; simpa using q) r) (kf (id (mt (icmp_iff .lt x 0).mpr q)))
theorem g_icmp_ge (X : Stand p l e R s m args below meth c T locs cells slots) (hx : p.tables.exec = Jvm.exec) {x y : Int32} {o : Int} {pt : Nat} (hd : decode c.code pc = .ok (.if_icmp .ge o, 3)) (ho : 0 ≤ (pc : Int) + o) (hp : ((pc : Int) + o).toNat = pt) (hp' : pc + 3 = pc') (kt : ¬ x < y → Goes p e below K T (mkF m pt Ls st)) (kf : x < y → Goes p e below K T (mkF m pc' Ls st)) : Goes p e below K T (mkF m pc Ls (.int y :: .int x :: st)) := by
  subst hp'
  by_cases q : if_icmp.holds .ge x y = true
  · exact Goes.by' (fun _ r => XS.icmpYes X.here hx rfl (pc0 := pc) (pc' := pt) rfl hd rfl q ho hp r) (kt ((icmp_iff .ge x y).mp q))
  · exact Goes.by' (fun _ r => XS.icmpNo X.here hx rfl hd rfl (by simpa using q) r) (kf (Classical.not_not.mp (mt (icmp_iff .ge x y).mpr q)))
theorem g_if_ge (X : Stand p l e R s m args below meth c T locs cells slots) (hx : p.tables.exec = Jvm.exec) {x : Int32} {o : Int} {pt : Nat} (hd : decode c.code pc = .ok (.ifCond .ge o, 3)) (ho : 0 ≤ (pc : Int) + o) (hp : ((pc : Int) + o).toNat = pt) (hp' : pc + 3 = pc') (kt : ¬ x < 0 → Goes p e below K T (mkF m pt Ls st)) (kf : x < 0 → Goes p e below K T (mkF m pc' Ls st)) : Goes p e below K T (mkF m pc Ls (.int x :: st)) := by
  subst hp'
  by_cases q : if_icmp.holds .ge x 0 = true
  · exact Goes.by' (fun _ r => XS.ifYes X.here hx rfl (pc0 := pc) (pc' := pt) rfl hd rfl (by rw [if0]; exact q) ho hp r) (kt ((icmp_iff .ge x 0).mp q))
  · exact Goes.by' (fun _ r => XS.ifNo X.here hx rfl hd rfl (by rw [if0]; simpa using q) r) (kf (Classical.not_not.mp (mt (icmp_iff .ge x 0).mpr q)))
theorem g_icmp_gt (X : Stand p l e R s m args below meth c T locs cells slots) (hx : p.tables.exec = Jvm.exec) {x y : Int32} {o : Int} {pt : Nat} (hd : decode c.code pc = .ok (.if_icmp .gt o, 3)) (ho : 0 ≤ (pc : Int) + o) (hp : ((pc : Int) + o).toNat = pt) (hp' : pc + 3 = pc') (kt : y < x → Goes p e below K T (mkF m pt Ls st)) (kf : ¬ y < x → Goes p e below K T (mkF m pc' Ls st)) : Goes p e below K T (mkF m pc Ls (.int y :: .int x :: st)) := by
  subst hp'
  by_cases q : if_icmp.holds .gt x y = true
  · exact Goes.by' (fun _ r => XS.icmpYes X.here hx rfl (pc0 := pc) (pc' := pt) rfl hd rfl q ho hp r) (kt ((icmp_iff .gt x y).mp q))
  · exact Goes.by' (fun _ r => XS.icmpNo X.here hx rfl hd rfl (by simpa using q) r) (kf (id (mt (icmp_iff .gt x y).mpr q)))
theorem g_if_gt (X : Stand p l e R s m args below meth c T locs cells slots) (hx : p.tables.exec = Jvm.exec) {x : Int32} {o : Int} {pt : Nat} (hd : decode c.code pc = .ok (.ifCond .gt o, 3)) (ho : 0 ≤ (pc : Int) + o) (hp : ((pc : Int) + o).toNat = pt) (hp' : pc + 3 = pc') (kt : 0 < x → Goes p e below K T (mkF m pt Ls st)) (kf : ¬ 0 < x → Goes p e below K T (mkF m pc' Ls st)) : Goes p e below K T (mkF m pc Ls (.int x :: st)) := by
  subst hp'
  by_cases q : if_icmp.holds .gt x 0 = true
  · exact Goes.by' (fun _ r => XS.ifYes X.here hx rfl (pc0 := pc) (pc' := pt) rfl hd rfl (by rw [if0]; exact q) ho hp r) (kt ((icmp_iff .gt x 0).mp q))
  · exact Goes.by' (fun _ r => XS.ifNo X.here hx rfl hd rfl (by rw [if0]; simpa using q) r) (kf (id (mt (icmp_iff .gt x 0).mpr q)))
theorem g_icmp_le (X : Stand p l e R s m args below meth c T locs cells slots) (hx : p.tables.exec = Jvm.exec) {x y : Int32} {o : Int} {pt : Nat} (hd : decode c.code pc = .ok (.if_icmp .le o, 3)) (ho : 0 ≤ (pc : Int) + o) (hp : ((pc : Int) + o).toNat = pt) (hp' : pc + 3 = pc') (kt : ¬ y < x → Goes p e below K T (mkF m pt Ls st)) (kf : y < x → Goes p e below K T (mkF m pc' Ls st)) : Goes p e below K T (mkF m pc Ls (.int y :: .int x :: st)) := by
  subst hp'
  by_cases q : if_icmp.holds .le x y = true
  · exact Goes.by' (fun _ r => XS.icmpYes X.here hx rfl (pc0 := pc) (pc' := pt) rfl hd rfl q ho hp r) (kt ((icmp_iff .le x y).mp q))
  · exact Goes.by' (fun _ r => XS.icmpNo X.here hx rfl hd rfl (by simpa using q) r) (kf (Classical.not_not.mp (mt (icmp_iff .le x y).mpr q)))
theorem g_if_le (X : Stand p l e R s m args below meth c T locs cells slots) (hx : p.tables.exec = Jvm.exec) {x : Int32} {o : Int} {pt : Nat} (hd : decode c.code pc = .ok (.ifCond .le o, 3)) (ho : 0 ≤ (pc : Int) + o) (hp : ((pc : Int) + o).toNat = pt) (hp' : pc + 3 = pc') (kt : ¬ 0 < x → Goes p e below K T (mkF m pt Ls st)) (kf : 0 < x → Goes p e below K T (mkF m pc' Ls st)) : Goes p e below K T (mkF m pc Ls (.int x :: st)) := by
  subst hp'
  by_cases q : if_icmp.holds .le x 0 = true
  · exact Goes.by' (fun _ r => XS.ifYes X.here hx rfl (pc0 := pc) (pc' := pt) rfl hd rfl (by rw [if0]; exact q) ho hp r) (kt ((icmp_iff .le x 0).mp q))
  · exact Goes.by' (fun _ r => XS.ifNo X.here hx rfl hd rfl (by rw [if0]; simpa using q) r) (kf (Classical.not_not.mp (mt (icmp_iff .le x 0).mpr q)))
theorem g_ifnull_t (X : Stand p l e R s m args below meth c T locs cells slots) (hx : p.tables.exec = Jvm.exec) {o : Int} {pt : Nat} (hd : decode c.code pc = .ok (.ifnull o, 3)) (ho : 0 ≤ (pc : Int) + o) (hp : ((pc : Int) + o).toNat = pt) (k : Goes p e below K T (mkF m pt Ls st)) : Goes p e below K T (mkF m pc Ls (.null :: st)) := Goes.by' (fun _ r => XS.ifnullYes X.here hx rfl (pc0 := pc) (pc' := pt) rfl hd rfl ho hp r) k
theorem g_ifnull_f (X : Stand p l e R s m args below meth c T locs cells slots) (hx : p.tables.exec = Jvm.exec) {o : Int} {a : Addr} (hd : decode c.code pc = .ok (.ifnull o, 3)) (hp : pc + 3 = pc') (k : Goes p e below K T (mkF m pc' Ls st)) : Goes p e below K T (mkF m pc Ls (.ref a :: st)) := by subst hp; exact Goes.by' (fun _ r => XS.ifnullNo X.here hx rfl hd rfl r) k
theorem g_ifnonnull_t (X : Stand p l e R s m args below meth c T locs cells slots) (hx : p.tables.exec = Jvm.exec) {o : Int} {a : Addr} {pt : Nat} (hd : decode c.code pc = .ok (.ifnonnull o, 3)) (ho : 0 ≤ (pc : Int) + o) (hp : ((pc : Int) + o).toNat = pt) (k : Goes p e below K T (mkF m pt Ls st)) : Goes p e below K T (mkF m pc Ls (.ref a :: st)) := Goes.by' (fun _ r => XT.ifnonnullYes X.here hx rfl (pc0 := pc) (pc' := pt) rfl hd rfl ho hp r) k
theorem g_ifnonnull_f (X : Stand p l e R s m args below meth c T locs cells slots) (hx : p.tables.exec = Jvm.exec) {o : Int} (hd : decode c.code pc = .ok (.ifnonnull o, 3)) (hp : pc + 3 = pc') (k : Goes p e below K T (mkF m pc' Ls st)) : Goes p e below K T (mkF m pc Ls (.null :: st)) := by subst hp; exact Goes.by' (fun _ r => XT.ifnonnullNo X.here hx rfl hd rfl r) k
theorem g_acmp_eq (X : Stand p l e R s m args below meth c T locs cells slots) (hx : p.tables.exec = Jvm.exec) {x y : Value} {o : Int} {pt : Nat} (hd : decode c.code pc = .ok (.if_acmp .eq o, 3)) (hx' : x.isRef = true) (hy' : y.isRef = true) (ho : 0 ≤ (pc : Int) + o) (hp : ((pc : Int) + o).toNat = pt) (hp' : pc + 3 = pc') (kt : x = y → Goes p e below K T (mkF m pt Ls st)) (kf : ¬ x = y → Goes p e below K T (mkF m pc' Ls st)) : Goes p e below K T (mkF m pc Ls (y :: x :: st)) := by
  subst hp'
  by_cases q : x = y
  · exact Goes.by' (fun _ r => XT.acmpYes X.here hx rfl (pc0 := pc) (pc' := pt) rfl hd rfl hx' hy' (by simp [XT.acmp, q]) ho hp r) (kt q)
  · exact Goes.by' (fun _ r => XT.acmpNo X.here hx rfl hd rfl hx' hy' (by simp [XT.acmp, q]) r) (kf q)
theorem g_acmp_ne (X : Stand p l e R s m args below meth c T locs cells slots) (hx : p.tables.exec = Jvm.exec) {x y : Value} {o : Int} {pt : Nat} (hd : decode c.code pc = .ok (.if_acmp .ne o, 3)) (hx' : x.isRef = true) (hy' : y.isRef = true) (ho : 0 ≤ (pc : Int) + o) (hp : ((pc : Int) + o).toNat = pt) (hp' : pc + 3 = pc') (kt : ¬ x = y → Goes p e below K T (mkF m pt Ls st)) (kf : x = y → Goes p e below K T (mkF m pc' Ls st)) : Goes p e below K T (mkF m pc Ls (y :: x :: st)) := by
  subst hp'
  by_cases q : x = y
  · exact Goes.by' (fun _ r => XT.acmpNo X.here hx rfl hd rfl hx' hy' (by simp [XT.acmp, q]) r) (kf q)
  · exact Goes.by' (fun _ r => XT.acmpYes X.here hx rfl (pc0 := pc) (pc' := pt) rfl hd rfl hx' hy' (by simp [XT.acmp, q]) ho hp r) (kt q)
theorem g_lsw (X : Stand p l e R s m args below meth c T locs cells slots) (hx : p.tables.exec = Jvm.exec) {i : Int32} {dflt o : Int} {prs : Array (Int × Int)} {len pt : Nat} (hd : decode c.code pc = .ok (.lookupswitch dflt prs, len)) (hso : ∀ (a b a_1 b_1 : Int), ((a, b), a_1, b_1) ∈ prs.toList.zip prs.toList.tail → a < a_1) (hoff : lookupswitch.offset prs.toList dflt i.toInt = o) (ho : 0 ≤ (pc : Int) + o) (hp : ((pc : Int) + o).toNat = pt) (k : Goes p e below K T (mkF m pt Ls st)) : Goes p e below K T (mkF m pc Ls (.int i :: st)) := by
  subst hp
  refine Goes.by' (fun t q => ?_) k
  show Steps p.tables e below (T.setTop { method := m, pc := pc, locals := Ls, stack := .int i :: st, locked := none }) t
  jvm_step X.here [X.here.top, hx, hd, lookupswitch.wp_chain, hoff, ho]
  exact ⟨hso, q⟩
theorem g_tsw (X : Stand p l e R s m args below meth c T locs cells slots) (hx : p.tables.exec = Jvm.exec) {i : Int32} {dflt lo hi o : Int} {offs : Array Int} {len pt : Nat} (hd : decode c.code pc = .ok (.tableswitch dflt lo hi offs, len)) (hin : ¬ (i.toInt < lo ∨ i.toInt > hi)) (hoff : offs[(i.toInt - lo).toNat]? = some o) (ho : 0 ≤ (pc : Int) + o) (hp : ((pc : Int) + o).toNat = pt) (k : Goes p e below K T (mkF m pt Ls st)) : Goes p e below K T (mkF m pc Ls (.int i :: st)) := Goes.by' (fun _ q => XS.tswIn X.here hx rfl (pc0 := pc) (pc' := pt) rfl hd rfl hin hoff ho hp q) k
theorem g_tswD (X : Stand p l e R s m args below meth c T locs cells slots) (hx : p.tables.exec = Jvm.exec) {i : Int32} {dflt lo hi : Int} {offs : Array Int} {len pt : Nat} (hd : decode c.code pc = .ok (.tableswitch dflt lo hi offs, len)) (hout : i.toInt < lo ∨ i.toInt > hi) (ho : 0 ≤ (pc : Int) + dflt) (hp : ((pc : Int) + dflt).toNat = pt) (k : Goes p e below K T (mkF m pt Ls st)) : Goes p e below K T (mkF m pc Ls (.int i :: st)) := Goes.by' (fun _ q => XS.tswOut X.here hx rfl (pc0 := pc) (pc' := pt) rfl hd rfl hout ho hp q) k
theorem g_getF (X : Stand p l e R s m args below meth c T locs cells slots) (hx : p.tables.exec = Jvm.exec) (hZ : Z.Warmed39 s.vm) {own O n d : String} {ix : Nat} {a : Addr} {v : Value} (hown : s.vm.findClass own = some m.cls) (w : (Cond.fieldLink own ix O n d).before a0 Z = true) (eT : T.heap = h) (F : Fld Z h a O n d v) (hd : decode c.code pc = .ok (.getfield ix, 3)) (hp : pc + 3 = pc') (k : ∀ T', Stand p l e R s m args below meth c T' locs cells slots → T'.heap = h → Goes p e below K T' (mkF m pc' Ls (v :: st))) : Goes p e below K T (mkF m pc Ls (.ref a :: st)) := by
  subst hp
  obtain ⟨T1, X1, e1, f1⟩ := getF X hx hZ hown (host := "") (Or.inl w) Via.refl eT F (g := mkF m pc Ls (.ref a :: st)) rfl rfl hd
  exact Goes.by' f1 (k T1 X1 e1)
theorem g_getS (X : Stand p l e R s m args below meth c T locs cells slots) (hx : p.tables.exec = Jvm.exec) (hZ : Z.Warmed39 s.vm) {own O n d : String} {ix : Nat} {v : Value} (hown : s.vm.findClass own = some m.cls) (w : (Cond.fieldLink own ix O n d).before a0 Z = true) (eT : T.heap = h) (F : Sta Z h O n d v) (hd : decode c.code pc = .ok (.getstatic ix, 3)) (hp : pc + 3 = pc') (k : ∀ T', Stand p l e R s m args below meth c T' locs cells slots → T'.heap = h → Goes p e below K T' (mkF m pc' Ls (v :: st))) : Goes p e below K T (mkF m pc Ls st) := by
  subst hp
  obtain ⟨T1, X1, e1, f1⟩ := getS X hx hZ hown (host := "") w Via.refl eT F (g := mkF m pc Ls st) rfl hd
  exact Goes.by' f1 (k T1 X1 e1)
theorem g_putF (X : Stand p l e R s m args below meth c T locs cells slots) (hx : p.tables.exec = Jvm.exec) (hZ : Z.Warmed39 s.vm) {own O n d C : String} {ix kk : Nat} {ty : FieldType} {a : Addr} {v old : Value} (hown : s.vm.findClass own = some m.cls) (w : (Cond.fieldLink own ix O n d).before a0 Z = true) (eT : T.heap = h) (F : Fld Z h a O n d old) (E : Exa Z h a C) (L : (Cond.lays C O n d).before a0 Z = true ∨ ((Cond.laysFinal C O n d).before a0 Z = true ∧ own = O ∧ meth.name = "<init>")) (wi : (Cond.instantiable C kk).before a0 Z = true) (hty : parseFieldDescriptor d = some ty) (hn : narrow ty v = v) (hf : fits ty v = true) (hd : decode c.code pc = .ok (.putfield ix, 3)) (hp : pc + 3 = pc') (k : ∀ T' h', Stand p l e R s m args below meth c T' (locs ++ [⟨a, Jvm.RoadKit.slotOf Z O n d⟩]) cells slots → T'.heap = h' → Wr h h' a (Jvm.RoadKit.slotOf Z O n d) v → Goes p e below K T' (mkF m pc' Ls st)) : Goes p e below K T (mkF m pc Ls (v :: .ref a :: st)) := by
  subst hp
  obtain ⟨T1, h1, X1, e1, W1, f1⟩ := putF X hx hZ hown (host := "") (Or.inl w) Via.refl eT F E L wi hty hn hf (g := mkF m pc Ls (v :: .ref a :: st)) rfl rfl hd
  exact Goes.by' f1 (k T1 h1 X1 e1 W1)
theorem g_new (X : Stand p l e R s m args below meth c T locs cells slots) (hx : p.tables.exec = Jvm.exec) (hZ : Z.Warmed39 s.vm) {own C : String} {ix n : Nat} (hown : s.vm.findClass own = some m.cls) (w : (Cond.classLink own ix C).before a0 Z = true) (wi : (Cond.instantiable C n).before a0 Z = true) (wz : (Cond.initialized C).before a0 Z = true) (eT : T.heap = h) (hd : decode c.code pc = .ok (.new ix, 3)) (hp : pc + 3 = pc') (hc : cells + 1 ≤ R.cells) (hl : slots + n ≤ R.slots) (k : ∀ T' h' a, Stand p l e R s m args below meth c T' locs (cells + 1) (slots + n) → T'.heap = h' → a = h.size → Ext h h' → Exa Z h' a C → (∀ {O nm d : String} {ty : FieldType}, Laid Z a0 C O nm d → parseFieldDescriptor d = some ty → Fld Z h' a O nm d (defaultValue ty)) → Goes p e below K T' (mkF m pc' Ls (.ref a :: st))) : Goes p e below K T (mkF m pc Ls st) := by
  subst hp
  obtain ⟨T1, h1, X1, e1, E1, A1, D1, -, f1⟩ := newO X hx hZ hown w wi wz eT (g := mkF m pc Ls st) rfl hd hc hl
  exact Goes.by' f1 (k T1 h1 _ X1 e1 rfl E1 A1 D1)
theorem g_newarr (X : Stand p l e R s m args below meth c T locs cells slots) (hx : p.tables.exec = Jvm.exec) (hZ : Z.Warmed39 s.vm) {aty : ArrayType} {ty : FieldType} (hty : newarray.typeOf aty = ty) (w : (Cond.arrayClass ty).before a0 Z = true) (eT : T.heap = h) {n : Int32} (hd : decode c.code pc = .ok (.newarray aty, 2)) (hp : pc + 2 = pc') (hn : ¬ n < 0) (cap : Nat) (hcap : n.toNatClampNeg ≤ cap) (hb : cap * 8 ≤ 536870912) (hc : cells + 1 ≤ R.cells) (hl : slots + cap ≤ R.slots) (k : ∀ T' h' cA a, Stand p l e R s m args below meth c T' locs (cells + 1) (slots + cap) → T'.heap = h' → a = h.size → Ext h h' → Arr Z h' a (newA cA ty n) ty → Goes p e below K T' (mkF m pc' Ls (.ref a :: st))) : Goes p e below K T (mkF m pc Ls (.int n :: st)) := by
  subst hp hty
  obtain ⟨T1, h1, cA, X1, e1, E1, A1, f1⟩ := newP X hx hZ w eT (g := mkF m pc Ls (.int n :: st)) rfl hd rfl hn hcap hb hc hl
  exact Goes.by' f1 (k T1 h1 cA _ X1 e1 rfl E1 A1)
theorem g_newR (X : Stand p l e R s m args below meth c T locs cells slots) (hx : p.tables.exec = Jvm.exec) (hZ : Z.Warmed39 s.vm) {own C : String} {ix : Nat} (hown : s.vm.findClass own = some m.cls) (w1 : (Cond.classLink own ix C).before a0 Z = true) (w2 : (Cond.arrayOver (.object C)).before a0 Z = true) (eT : T.heap = h) {n : Int32} (hd : decode c.code pc = .ok (.anewarray ix, 3)) (hp : pc + 3 = pc') (hn : ¬ n < 0) (cap : Nat) (hcap : n.toNatClampNeg ≤ cap) (hb : cap * 8 ≤ 536870912) (hc : cells + 1 ≤ R.cells) (hl : slots + cap ≤ R.slots) (k : ∀ T' h' cA a, Stand p l e R s m args below meth c T' locs (cells + 1) (slots + cap) → T'.heap = h' → a = h.size → Ext h h' → Arr Z h' a (newA cA (.object C) n) (.object C) → Ovr Z cA C → Goes p e below K T' (mkF m pc' Ls (.ref a :: st))) : Goes p e below K T (mkF m pc Ls (.int n :: st)) := by
  subst hp
  obtain ⟨T1, h1, cA, X1, e1, E1, A1, O1, f1⟩ := newR X hx hZ hown w1 w2 eT (g := mkF m pc Ls (.int n :: st)) rfl hd rfl hn hcap hb hc hl
  exact Goes.by' f1 (k T1 h1 cA _ X1 e1 rfl E1 A1 O1)
theorem g_initO (X : Stand p l e R s m args below meth c T locs cells slots) (hx : p.tables.exec = Jvm.exec) (hZ : Z.Warmed39 s.vm) {own : String} {ix : Nat} {a : Addr} (hown : s.vm.findClass own = some m.cls) (w1 : (Cond.methodLink own ix Lib.objectInit).before a0 Z = true) (w2 : (Cond.instanceMethod Lib.objectInit).before a0 Z = true) (w3 : (Cond.code Lib.objectInit ⟨#[0xb1]⟩ 1 none).before a0 Z = true) (eT : T.heap = h) (hsz : Ls.size = c.maxLocals) (hd : decode c.code pc = .ok (.invokespecial ix, 3)) (hp : pc + 3 = pc') (hf : 1 ≤ R.frames) (hl : (st.map fun v => v.category).sum + 12 ≤ R.locals) (k : ∀ T', Stand p l e R s m args below meth c T' locs cells slots → T'.heap = h → Goes p e below K T' (mkF m pc' Ls st)) : Goes p e below K T (mkF m pc Ls (.ref a :: st)) := by
  subst hp
  obtain ⟨T1, X1, e1, f1⟩ := initO X hx hZ hown w1 w2 w3 eT (g := mkF m pc Ls (.ref a :: st)) rfl hsz rfl hd hf (W := (st.map fun v => v.category).sum) (by show 2 * 0 + _ ≤ _; omega) hl
  exact Goes.by' f1 (k T1 X1 e1)
theorem g_iaload (X : Stand p l e R s m args below meth c T locs cells slots) (hx : p.tables.exec = Jvm.exec) (hZ : Z.Warmed39 s.vm) (eT : T.heap = h) {a : Addr} {cl : Cell} {j : Int32} {v : Value} (A : Arr Z h a cl .int) (hin : ¬ (j < 0 ∨ cl.slots.size ≤ j.toNatClampNeg)) (hat : cl.slots[j.toNatClampNeg]? = some v) (hd : decode c.code pc = .ok (.iaload, 1)) (hp : pc + 1 = pc') (k : Goes p e below K T (mkF m pc' Ls (v :: st))) : Goes p e below K T (mkF m pc Ls (.int j :: .ref a :: st)) := by
  subst hp
  exact Goes.by' (fun _ q => X.iaload hx (j := j) (v := v) (by rw [eT]; exact A.1) (State.isArrayOf_alike hZ.alike A.2.1) A.2.2 hin hat (g := mkF m pc Ls (.int j :: .ref a :: st)) rfl rfl hd _ q) k
theorem g_laload (X : Stand p l e R s m args below meth c T locs cells slots) (hx : p.tables.exec = Jvm.exec) (hZ : Z.Warmed39 s.vm) (eT : T.heap = h) {a : Addr} {cl : Cell} {j : Int32} {v : Value} (A : Arr Z h a cl .long) (hin : ¬ (j < 0 ∨ cl.slots.size ≤ j.toNatClampNeg)) (hat : cl.slots[j.toNatClampNeg]? = some v) (hd : decode c.code pc = .ok (.laload, 1)) (hp : pc + 1 = pc') (k : Goes p e below K T (mkF m pc' Ls (v :: st))) : Goes p e below K T (mkF m pc Ls (.int j :: .ref a :: st)) := by
  subst hp
  exact Goes.by' (fun _ q => X.laload hx (j := j) (v := v) (by rw [eT]; exact A.1) (State.isArrayOf_alike hZ.alike A.2.1) A.2.2 hin hat (g := mkF m pc Ls (.int j :: .ref a :: st)) rfl rfl hd _ q) k
theorem g_caload (X : Stand p l e R s m args below meth c T locs cells slots) (hx : p.tables.exec = Jvm.exec) (hZ : Z.Warmed39 s.vm) (eT : T.heap = h) {a : Addr} {cl : Cell} {j : Int32} {v : Value} (A : Arr Z h a cl .char) (hin : ¬ (j < 0 ∨ cl.slots.size ≤ j.toNatClampNeg)) (hat : cl.slots[j.toNatClampNeg]? = some v) (hd : decode c.code pc = .ok (.caload, 1)) (hp : pc + 1 = pc') (k : Goes p e below K T (mkF m pc' Ls (v :: st))) : Goes p e below K T (mkF m pc Ls (.int j :: .ref a :: st)) := by
  subst hp
  exact Goes.by' (fun _ q => X.caload hx (j := j) (v := v) (by rw [eT]; exact A.1) (State.isArrayOf_alike hZ.alike A.2.1) A.2.2 hin hat (g := mkF m pc Ls (.int j :: .ref a :: st)) rfl rfl hd _ q) k
theorem g_baload (X : Stand p l e R s m args below meth c T locs cells slots) (hx : p.tables.exec = Jvm.exec) (hZ : Z.Warmed39 s.vm) (eT : T.heap = h) {a : Addr} {cl : Cell} {j : Int32} {v : Value} (A : Arr Z h a cl .byte) (hin : ¬ (j < 0 ∨ cl.slots.size ≤ j.toNatClampNeg)) (hat : cl.slots[j.toNatClampNeg]? = some v) (hd : decode c.code pc = .ok (.baload, 1)) (hp : pc + 1 = pc') (k : Goes p e below K T (mkF m pc' Ls (v :: st))) : Goes p e below K T (mkF m pc Ls (.int j :: .ref a :: st)) := by
  subst hp
  exact Goes.by' (fun _ q => X.baloadBytes hx (j := j) (v := v) (by rw [eT]; exact A.1) (State.isArrayOf_alike hZ.alike A.2.1) A.2.2 hin hat (g := mkF m pc Ls (.int j :: .ref a :: st)) rfl rfl hd _ q) k
theorem g_aaload (X : Stand p l e R s m args below meth c T locs cells slots) (hx : p.tables.exec = Jvm.exec) (hZ : Z.Warmed39 s.vm) (eT : T.heap = h) {a : Addr} {cl : Cell} {ty : FieldType} {j : Int32} {v : Value} (A : Arr Z h a cl ty) (hty : ty.isReference = true) (hin : ¬ (j < 0 ∨ cl.slots.size ≤ j.toNatClampNeg)) (hat : cl.slots[j.toNatClampNeg]? = some v) (hd : decode c.code pc = .ok (.aaload, 1)) (hp : pc + 1 = pc') (k : Goes p e below K T (mkF m pc' Ls (v :: st))) : Goes p e below K T (mkF m pc Ls (.int j :: .ref a :: st)) := by
  subst hp
  exact Goes.by' (fun _ q => X.aaload hx (j := j) (v := v) (by rw [eT]; exact A.1) (State.isArrayOf_alike hZ.alike A.2.1) hty A.2.2 hin hat (g := mkF m pc Ls (.int j :: .ref a :: st)) rfl rfl hd _ q) k
theorem g_arraylength (X : Stand p l e R s m args below meth c T locs cells slots) (hx : p.tables.exec = Jvm.exec) (hZ : Z.Warmed39 s.vm) (eT : T.heap = h) {a : Addr} {cl : Cell} {ty : FieldType} {n : Int32} (A : Arr Z h a cl ty) (hn : cl.slots.size.toInt32 = n) (hd : decode c.code pc = .ok (.arraylength, 1)) (hp : pc + 1 = pc') (k : Goes p e below K T (mkF m pc' Ls (.int n :: st))) : Goes p e below K T (mkF m pc Ls (.ref a :: st)) := by
  subst hp hn
  exact Goes.by' (fun _ q => X.arraylength hx (by rw [eT]; exact A.1) (State.isArrayOf_alike hZ.alike A.2.1) (g := mkF m pc Ls (.ref a :: st)) rfl rfl hd _ q) k
theorem g_iastore (X : Stand p l e R s m args below meth c T locs cells slots) (hx : p.tables.exec = Jvm.exec) (hZ : Z.Warmed39 s.vm) (eT : T.heap = h) {a : Addr} {cl : Cell} {j : Int32} {x : Int32} (A : Arr Z h a cl .int) (hin : ¬ (j < 0 ∨ cl.slots.size ≤ j.toNatClampNeg)) (hd : decode c.code pc = .ok (.iastore, 1)) (hp : pc + 1 = pc') (k : ∀ T' h', Stand p l e R s m args below meth c T' (locs ++ [⟨a, j.toNatClampNeg⟩]) cells slots → T'.heap = h' → Wr h h' a j.toNatClampNeg (.int x) → Goes p e below K T' (mkF m pc' Ls st)) : Goes p e below K T (mkF m pc Ls (.int x :: .int j :: .ref a :: st)) := by
  subst hp
  obtain ⟨T1, h1, X1, e1, W1, f1⟩ := stI X hx hZ eT A hin (g := mkF m pc Ls (.int x :: .int j :: .ref a :: st)) rfl rfl hd
  exact Goes.by' f1 (k T1 h1 X1 e1 W1)
theorem g_lastore (X : Stand p l e R s m args below meth c T locs cells slots) (hx : p.tables.exec = Jvm.exec) (hZ : Z.Warmed39 s.vm) (eT : T.heap = h) {a : Addr} {cl : Cell} {j : Int32} {x : Int64} (A : Arr Z h a cl .long) (hin : ¬ (j < 0 ∨ cl.slots.size ≤ j.toNatClampNeg)) (hd : decode c.code pc = .ok (.lastore, 1)) (hp : pc + 1 = pc') (k : ∀ T' h', Stand p l e R s m args below meth c T' (locs ++ [⟨a, j.toNatClampNeg⟩]) cells slots → T'.heap = h' → Wr h h' a j.toNatClampNeg (.long x) → Goes p e below K T' (mkF m pc' Ls st)) : Goes p e below K T (mkF m pc Ls (.long x :: .int j :: .ref a :: st)) := by
  subst hp
  obtain ⟨T1, h1, X1, e1, W1, f1⟩ := stJ X hx hZ eT A hin (g := mkF m pc Ls (.long x :: .int j :: .ref a :: st)) rfl rfl hd
  exact Goes.by' f1 (k T1 h1 X1 e1 W1)
theorem g_castore (X : Stand p l e R s m args below meth c T locs cells slots) (hx : p.tables.exec = Jvm.exec) (hZ : Z.Warmed39 s.vm) (eT : T.heap = h) {a : Addr} {cl : Cell} {j : Int32} {x : Int32} (A : Arr Z h a cl .char) (hin : ¬ (j < 0 ∨ cl.slots.size ≤ j.toNatClampNeg)) (hd : decode c.code pc = .ok (.castore, 1)) (hp : pc + 1 = pc') (k : ∀ T' h', Stand p l e R s m args below meth c T' (locs ++ [⟨a, j.toNatClampNeg⟩]) cells slots → T'.heap = h' → Wr h h' a j.toNatClampNeg (.int (nar .char x)) → Goes p e below K T' (mkF m pc' Ls st)) : Goes p e below K T (mkF m pc Ls (.int x :: .int j :: .ref a :: st)) := by
  subst hp
  obtain ⟨T1, h1, X1, e1, W1, f1⟩ := stC X hx hZ eT A hin (g := mkF m pc Ls (.int x :: .int j :: .ref a :: st)) rfl rfl hd
  exact Goes.by' f1 (k T1 h1 X1 e1 W1)
theorem g_bastore (X : Stand p l e R s m args below meth c T locs cells slots) (hx : p.tables.exec = Jvm.exec) (hZ : Z.Warmed39 s.vm) (eT : T.heap = h) {a : Addr} {cl : Cell} {j : Int32} {x : Int32} (A : Arr Z h a cl .byte) (hin : ¬ (j < 0 ∨ cl.slots.size ≤ j.toNatClampNeg)) (hd : decode c.code pc = .ok (.bastore, 1)) (hp : pc + 1 = pc') (k : ∀ T' h', Stand p l e R s m args below meth c T' (locs ++ [⟨a, j.toNatClampNeg⟩]) cells slots → T'.heap = h' → Wr h h' a j.toNatClampNeg (.int (nar .byte x)) → Goes p e below K T' (mkF m pc' Ls st)) : Goes p e below K T (mkF m pc Ls (.int x :: .int j :: .ref a :: st)) := by
  subst hp
  obtain ⟨T1, h1, X1, e1, W1, f1⟩ := stB X hx hZ eT A hin (g := mkF m pc Ls (.int x :: .int j :: .ref a :: st)) rfl rfl hd
  exact Goes.by' f1 (k T1 h1 X1 e1 W1)
theorem g_aastore (X : Stand p l e R s m args below meth c T locs cells slots) (hx : p.tables.exec = Jvm.exec) (hZ : Z.Warmed39 s.vm) (eT : T.heap = h) {a : Addr} {cl : Cell} {ty : FieldType} {j : Int32} {v : Value} (A : Arr Z h a cl ty) (hty : ty.isReference = true) (F : Sto Z h a v) (hin : ¬ (j < 0 ∨ cl.slots.size ≤ j.toNatClampNeg)) (hd : decode c.code pc = .ok (.aastore, 1)) (hp : pc + 1 = pc') (k : ∀ T' h', Stand p l e R s m args below meth c T' (locs ++ [⟨a, j.toNatClampNeg⟩]) cells slots → T'.heap = h' → Wr h h' a j.toNatClampNeg v → Goes p e below K T' (mkF m pc' Ls st)) : Goes p e below K T (mkF m pc Ls (v :: .int j :: .ref a :: st)) := by
  subst hp
  obtain ⟨T1, h1, X1, e1, W1, f1⟩ := stR X hx hZ eT A hin hty F (g := mkF m pc Ls (v :: .int j :: .ref a :: st)) rfl rfl hd
  exact Goes.by' f1 (k T1 h1 X1 e1 W1)
theorem g_callS (X : Stand p l e R s m args below meth c T locs cells slots) (hx : p.tables.exec = Jvm.exec) (hZ : Z.Warmed39 s.vm) {own : String} {ix : Nat} {y : MethodName} {bytes : ByteArray} {maxL : Nat} {ret : Option FieldType} {rm : Room} {as' : Array Value} {Q : Option Value → Heap → List Loc → Prop} (hown : s.vm.findClass own = some m.cls) (w1 : (Cond.methodLink own ix y).before a0 Z = true) (w2 : (Cond.static y).before a0 Z = true) (w3 : (Cond.initialized y.cls).before a0 Z = true) (w4 : (Cond.code y bytes maxL ret).before a0 Z = true) (hy : y.cls ≠ "java/lang/invoke/MethodHandle" ∧ y.cls ≠ "java/lang/invoke/VarHandle") (eT : T.heap = h) (C : Ctr l Z y bytes maxL ret [] rm rm.cells rm.slots as' h Q) (hsz : Ls.size = c.maxLocals) (argsL rest : List Value) (has : argsL.toArray = as') (hlen : ∀ sig, parseMethodDescriptor y.desc = some sig → argsL.length = sig.parameters.length) (hst : st = argsL.reverse ++ rest) (hl : (rest.map fun v => v.category).sum + (maxL + 11) + rm.locals ≤ R.locals) (hf : rm.frames + 1 ≤ R.frames) (hc : cells + rm.cells ≤ R.cells) (hsl : slots + rm.slots ≤ R.slots) (hd : decode c.code pc = .ok (.invokestatic ix, 3)) (hp : pc + 3 = pc') (k : ∀ T' v L, Stand p l e R s m args below meth c T' (locs ++ L) (cells + rm.cells) (slots + rm.slots) → Q v T'.heap L → Goes p e below K T' (mkF m pc' Ls (v.toList ++ rest))) : Goes p e below K T (mkF m pc Ls st) := by
  subst hp
  obtain ⟨v, _, ⟨T1, L1, k1, n1⟩, -, X1, ⟨L, hQ, l1, y1, z1⟩, f1⟩ := Jvm.LawKit.callS X hx (y := y) hown (mvT hZ w1) (mvT hZ w2) (mvT hZ w3) (mvT hZ w4) hy (backOf (W := (rest.map fun v => v.category).sum) C hZ w4 w3 hf hl) (g := mkF m pc Ls st) rfl hsz (argsL := argsL) (rest := rest) hlen hst (by show 2 * 0 + _ ≤ _; omega) hd (fun _ _ => ⟨has, eT, hc, hsl⟩)
  dsimp only [Pt.U, Pt.locs, Pt.cells, Pt.slots] at X1 l1 y1 z1 f1 hQ
  subst l1 y1 z1
  exact Goes.by' f1 (k T1 v L X1 hQ)
theorem g_callI (X : Stand p l e R s m args below meth c T locs cells slots) (hx : p.tables.exec = Jvm.exec) (hZ : Z.Warmed39 s.vm) {own : String} {ix : Nat} {y : MethodName} {bytes : ByteArray} {maxL : Nat} {rm : Room} {as' : Array Value} {Q : Option Value → Heap → List Loc → Prop} (hy1 : y.name = "<init>") (hown : s.vm.findClass own = some m.cls) (w1 : (Cond.methodLink own ix y).before a0 Z = true) (w2 : (Cond.instanceMethod y).before a0 Z = true) (w3 : (Cond.initialized y.cls).before a0 Z = true) (w4 : (Cond.code y bytes maxL none).before a0 Z = true) (hy : y.cls ≠ "java/lang/invoke/MethodHandle" ∧ y.cls ≠ "java/lang/invoke/VarHandle") (eT : T.heap = h) (C : Ctr l Z y bytes maxL none [] rm rm.cells rm.slots as' h Q) (hsz : Ls.size = c.maxLocals) (a : Addr) (argsL rest : List Value) (has : (.ref a :: argsL).toArray = as') (hlen : ∀ sig, parseMethodDescriptor y.desc = some sig → argsL.length = sig.parameters.length) (hst : st = argsL.reverse ++ .ref a :: rest) (hl : (rest.map fun v => v.category).sum + (maxL + 11) + rm.locals ≤ R.locals) (hf : rm.frames + 1 ≤ R.frames) (hc : cells + rm.cells ≤ R.cells) (hsl : slots + rm.slots ≤ R.slots) (hd : decode c.code pc = .ok (.invokespecial ix, 3)) (hp : pc + 3 = pc') (k : ∀ T' v L, Stand p l e R s m args below meth c T' (locs ++ L) (cells + rm.cells) (slots + rm.slots) → Q v T'.heap L → Goes p e below K T' (mkF m pc' Ls (v.toList ++ rest))) : Goes p e below K T (mkF m pc Ls st) := by
  subst hp
  obtain ⟨v, _, ⟨T1, L1, k1, n1⟩, -, X1, ⟨L, hQ, l1, y1, z1⟩, f1⟩ := X.specialBack hx (y := y) hy1 hown (mvT hZ w1) (mvT hZ w2) (mvT hZ w4) hy (backOf (W := (rest.map fun v => v.category).sum) C hZ w4 w3 hf hl) (g := mkF m pc Ls st) rfl hsz (Steps.refl _) (a := a) (argsL := argsL) (rest := rest) hlen hst (by show 2 * 0 + _ ≤ _; omega) hd (fun _ _ => ⟨has, eT, hc, hsl⟩)
  dsimp only [Pt.U, Pt.locs, Pt.cells, Pt.slots] at X1 l1 y1 z1 f1 hQ
  subst l1 y1 z1
  exact Goes.by' (fun _ q => f1.trans q) (k T1 v L X1 hQ)
theorem g_callV (X : Stand p l e R s m args below meth c T locs cells slots) (hx : p.tables.exec = Jvm.exec) (hZ : Z.Warmed39 s.vm) {own : String} {ix : Nat} {y : MethodName} {bytes : ByteArray} {maxL : Nat} {ret : Option FieldType} {rm : Room} {as' : Array Value} {Q : Option Value → Heap → List Loc → Prop} {C0 : String} (hown : s.vm.findClass own = some m.cls) (w1 : (Cond.methodLink own ix y).before a0 Z = true) (w2 : (Cond.declares y).before a0 Z = true) (w5 : (Cond.selects C0 y y).before a0 Z = true) (w6 : (Cond.instanceMethod y).before a0 Z = true) (w3 : (Cond.initialized y.cls).before a0 Z = true) (w4 : (Cond.code y bytes maxL ret).before a0 Z = true) (hy : y.cls ≠ "java/lang/invoke/MethodHandle" ∧ y.cls ≠ "java/lang/invoke/VarHandle") (eT : T.heap = h) (a : Addr) (E : Exa Z h a C0) (C : Ctr l Z y bytes maxL ret [] rm rm.cells rm.slots as' h Q) (hsz : Ls.size = c.maxLocals) (argsL rest : List Value) (has : (.ref a :: argsL).toArray = as') (hlen : ∀ sig, parseMethodDescriptor y.desc = some sig → argsL.length = sig.parameters.length) (hst : st = argsL.reverse ++ .ref a :: rest) (hl : (rest.map fun v => v.category).sum + (maxL + 11) + rm.locals ≤ R.locals) (hf : rm.frames + 1 ≤ R.frames) (hc : cells + rm.cells ≤ R.cells) (hsl : slots + rm.slots ≤ R.slots) (hd : decode c.code pc = .ok (.invokevirtual ix, 3)) (hp : pc + 3 = pc') (k : ∀ T' v L, Stand p l e R s m args below meth c T' (locs ++ L) (cells + rm.cells) (slots + rm.slots) → Q v T'.heap L → Goes p e below K T' (mkF m pc' Ls (v.toList ++ rest))) : Goes p e below K T (mkF m pc Ls st) := by
  subst hp
  obtain ⟨cq, kq, qa, qb, qc⟩ := isOf hZ eT E
  obtain ⟨v, _, ⟨T1, L1, k1, n1⟩, -, X1, ⟨L, hQ, l1, y1, z1⟩, f1⟩ := X.virtualBack hx (y := y) (z := y) hown (mvT hZ w1) (mvT hZ w2) (notFace_of_selects (args := #[]) (mvT hZ w5)) (mvT hZ w5) (mvT hZ w6) hy (backOf (W := (rest.map fun v => v.category).sum) C hZ w4 w3 hf hl) qa qc (g := mkF m pc Ls st) rfl hsz (Steps.refl _) (argsL := argsL) (rest := rest) hlen hst (by show 2 * 0 + _ ≤ _; omega) hd (fun _ _ => ⟨has, eT, hc, hsl⟩)
  dsimp only [Pt.U, Pt.locs, Pt.cells, Pt.slots] at X1 l1 y1 z1 f1 hQ
  subst l1 y1 z1
  exact Goes.by' (fun _ q => f1.trans q) (k T1 v L X1 hQ)
theorem g_callP (X : Stand p l e R s m args below meth c T locs cells slots) (hx : p.tables.exec = Jvm.exec) (hZ : Z.Warmed39 s.vm) {own : String} {ix : Nat} {y : MethodName} {bytes : ByteArray} {maxL : Nat} {ret : Option FieldType} {rm : Room} {as' : Array Value} {Q : Option Value → Heap → List Loc → Prop} {kk : Nat} {C0 : String} (hown : s.vm.findClass own = some m.cls) (w1 : (Cond.methodLink own ix y).before a0 Z = true) (wi : (Cond.instantiable y.cls kk).before a0 Z = true) (wp : (Cond.privateMethod y).before a0 Z = true) (w6 : (Cond.instanceMethod y).before a0 Z = true) (w3 : (Cond.initialized y.cls).before a0 Z = true) (w4 : (Cond.code y bytes maxL ret).before a0 Z = true) (hy : y.cls ≠ "java/lang/invoke/MethodHandle" ∧ y.cls ≠ "java/lang/invoke/VarHandle") (eT : T.heap = h) (a : Addr) (E : Exa Z h a C0) (C : Ctr l Z y bytes maxL ret [] rm rm.cells rm.slots as' h Q) (hsz : Ls.size = c.maxLocals) (argsL rest : List Value) (has : (.ref a :: argsL).toArray = as') (hlen : ∀ sig, parseMethodDescriptor y.desc = some sig → argsL.length = sig.parameters.length) (hst : st = argsL.reverse ++ .ref a :: rest) (hl : (rest.map fun v => v.category).sum + (maxL + 11) + rm.locals ≤ R.locals) (hf : rm.frames + 1 ≤ R.frames) (hc : cells + rm.cells ≤ R.cells) (hsl : slots + rm.slots ≤ R.slots) (hd : decode c.code pc = .ok (.invokevirtual ix, 3)) (hp : pc + 3 = pc') (k : ∀ T' v L, Stand p l e R s m args below meth c T' (locs ++ L) (cells + rm.cells) (slots + rm.slots) → Q v T'.heap L → Goes p e below K T' (mkF m pc' Ls (v.toList ++ rest))) : Goes p e below K T (mkF m pc Ls st) := by
  subst hp
  obtain ⟨cell, hcell, hobj⟩ := E.cell
  have wi' : (Cond.instantiable y.cls kk).before args s = true := mvT hZ wi
  obtain ⟨c1, k1, i1, i2, i3, i4, -⟩ := Cond.instantiable_spec wi'
  have hni : k1.isInterface = false := by revert i4; cases k1.isInterface <;> simp
  have hpv : s.PrivateAt y := Cond.privateMethod_at (mvP hZ wp (args := #[]))
  have hsel : (Cond.selects y.cls y y).before args s = true := Jvm.Stand.selects_self_of_private i1 i2 hni hpv (mvT hZ w6) hy
  obtain ⟨v, _, ⟨T1, L1, k1, n1⟩, -, X1, ⟨L, hQ, l1, y1, z1⟩, f1⟩ := X.privateBack hx (y := y) hown (mvT hZ w1) (mvT hZ w6) hsel hpv (mvT hZ w4) hy (backOf (W := (rest.map fun v => v.category).sum) C hZ w4 w3 hf hl) (g := mkF m pc Ls st) rfl hsz (Steps.refl _) (a := a) (by rw [eT]; exact hcell) hobj (argsL := argsL) (rest := rest) hlen hst (by show 2 * 0 + _ ≤ _; omega) hd (fun _ _ => ⟨has, eT, hc, hsl⟩)
  dsimp only [Pt.U, Pt.locs, Pt.cells, Pt.slots] at X1 l1 y1 z1 f1 hQ
  subst l1 y1 z1
  exact Goes.by' (fun _ q => f1.trans q) (k T1 v L X1 hQ)
theorem g_retI (X : Stand p l e R s m args below meth c T locs cells slots) (hx : p.tables.exec = Jvm.exec) {C S : Nat} {Q : Option Value → Heap → List Loc → Prop} {z : Int32} (hlk : meth.locks = false) (hret : meth.sig.returnType = some .int) (eT : T.heap = h) (hc : cells ≤ C) (hs : slots ≤ S) (hd : decode c.code pc = .ok (.ireturn, 1)) (hQ : Q (some (.int z)) h locs) : Goes p e below (KQ s C S Q) T (mkF m pc Ls (.int z :: st)) := by
  obtain ⟨fs, hr, hrun, hended, hW, hsame⟩ := X.leave (v := some (.int z)) (fun q => by rw [hret] at q; cases q) hlk
  exact ⟨_, _, retOut X hx hret rfl (Or.inl ⟨rfl, Or.inl rfl, _, rfl⟩) hd hr, hrun, hended, _, _, rfl, by subst eT; exact hQ, ⟨_, rfl⟩, hW, hsame.mono hc hs⟩
theorem g_retJ (X : Stand p l e R s m args below meth c T locs cells slots) (hx : p.tables.exec = Jvm.exec) {C S : Nat} {Q : Option Value → Heap → List Loc → Prop} {z : Int64} (hlk : meth.locks = false) (hret : meth.sig.returnType = some .long) (eT : T.heap = h) (hc : cells ≤ C) (hs : slots ≤ S) (hd : decode c.code pc = .ok (.lreturn, 1)) (hQ : Q (some (.long z)) h locs) : Goes p e below (KQ s C S Q) T (mkF m pc Ls (.long z :: st)) := by
  obtain ⟨fs, hr, hrun, hended, hW, hsame⟩ := X.leave (v := some (.long z)) (fun q => by rw [hret] at q; cases q) hlk
  exact ⟨_, _, retOut X hx hret rfl (Or.inr (Or.inl ⟨rfl, rfl, _, rfl⟩)) hd hr, hrun, hended, _, _, rfl, by subst eT; exact hQ, ⟨_, rfl⟩, hW, hsame.mono hc hs⟩
theorem g_retN (X : Stand p l e R s m args below meth c T locs cells slots) (hx : p.tables.exec = Jvm.exec) {C S : Nat} {Q : Option Value → Heap → List Loc → Prop} {z : Int32} {t : FieldType} (ht : t = .boolean ∨ t = .byte ∨ t = .char ∨ t = .short) (hlk : meth.locks = false) (hret : meth.sig.returnType = some t) (eT : T.heap = h) (hc : cells ≤ C) (hs : slots ≤ S) (hd : decode c.code pc = .ok (.ireturn, 1)) (hQ : Q (some (.int (nar t z))) h locs) : Goes p e below (KQ s C S Q) T (mkF m pc Ls (.int z :: st)) := by
  obtain ⟨fs, hr, hrun, hended, hW, hsame⟩ := X.leave (v := some (.int (nar t z))) (fun q => by rw [hret] at q; cases q) hlk
  exact ⟨_, _, retN X hx hret ht hd hr, hrun, hended, _, _, rfl, by subst eT; exact hQ, ⟨_, rfl⟩, hW, hsame.mono hc hs⟩
theorem g_retA (X : Stand p l e R s m args below meth c T locs cells slots) (hx : p.tables.exec = Jvm.exec) {C S : Nat} {Q : Option Value → Heap → List Loc → Prop} {v : Value} {t : FieldType} (hv : v.isRef = true) (ht : t.isReference = true) (hlk : meth.locks = false) (hret : meth.sig.returnType = some t) (eT : T.heap = h) (hc : cells ≤ C) (hs : slots ≤ S) (hd : decode c.code pc = .ok (.areturn, 1)) (hQ : Q (some v) h locs) : Goes p e below (KQ s C S Q) T (mkF m pc Ls (v :: st)) := by
  obtain ⟨fs, hr, hrun, hended, hW, hsame⟩ := X.leave (v := some v) (fun q => by rw [hret] at q; cases q) hlk
  have hn : narrow t v = v := by cases v <;> simp [Value.isRef] at hv <;> cases t <;> simp [FieldType.isReference] at ht <;> rfl
  exact ⟨_, _, retOut X hx hret hn (Or.inr (Or.inr (Or.inr (Or.inr ⟨rfl, ht, hv⟩)))) hd hr, hrun, hended, _, _, rfl, by subst eT; exact hQ, ⟨_, rfl⟩, hW, hsame.mono hc hs⟩
theorem g_ret (X : Stand p l e R s m args below meth c T locs cells slots) (hx : p.tables.exec = Jvm.exec) {C S : Nat} {Q : Option Value → Heap → List Loc → Prop} (hlk : meth.locks = false) (hret : meth.sig.returnType = none) (eT : T.heap = h) (hc : cells ≤ C) (hs : slots ≤ S) (hd : decode c.code pc = .ok (.return_, 1)) (hQ : Q none h locs) : Goes p e below (KQ s C S Q) T (mkF m pc Ls []) := by
  obtain ⟨fs, hr, hrun, hended, hW, hsame⟩ := X.leave (v := none) (fun _ => rfl) hlk
  exact ⟨_, _, X.returnOut hx hret hd hr, hrun, hended, _, _, rfl, by subst eT; exact hQ, ⟨_, rfl⟩, hW, hsame.mono hc hs⟩
end OwnGo
def ArI (Z : State) (h : Heap) (b : Addr) (ty : FieldType) (n : Nat) (f : Nat → Int32) : Prop := ∃ cl, Arr Z h b cl ty ∧ cl.slots.size = n ∧ ∀ j, j < n → cl.slots[j]? = some (.int (f j))
section ArSI
variable {Z : State} {h h' : Heap} {a b : Addr} {ty : FieldType} {n sl : Nat} {f : Nat → Int32} {v : Value} {ws : List Addr}
theorem ArI.new {cA : ClassId} {z : Int32} (A : Arr Z h a (newA cA ty z) ty) (x : Int32) (hd : defaultValue ty = .int x) : ArI Z h a ty z.toNatClampNeg (fun _ => x) := ⟨_, A, sz_new _ _ _, fun j hj => by simp only [newA, ← hd]; rw [Array.getElem?_replicate, if_pos hj]⟩
theorem ArI.lt (F : ArI Z h b ty n f) : b < h.size := by obtain ⟨c, A, -⟩ := F; exact A.lt
theorem ArI.ext (F : ArI Z h b ty n f) (E : Ext h h') : ArI Z h' b ty n f := by obtain ⟨c, A, r⟩ := F; exact ⟨c, A.ext E, r⟩
theorem ArI.other (F : ArI Z h b ty n f) (W : Wr h h' a sl v) (q : b ≠ a) : ArI Z h' b ty n f := by obtain ⟨c, A, r⟩ := F; exact ⟨c, A.other W q, r⟩
theorem ArI.keep (F : ArI Z h b ty n f) (K : Keep h h' ws) (q : b ∉ ws) : ArI Z h' b ty n f := by obtain ⟨c, A, r⟩ := F; exact ⟨c, ⟨K.2.1 b c A.1 q, A.2⟩, r⟩
theorem ArI.set {x : Int32} (F : ArI Z h b ty n f) (W : Wr h h' b sl (.int (x))) : ArI Z h' b ty n (fun k => if k = sl then x else f k) := by
  obtain ⟨c, A, hs, H⟩ := F
  refine ⟨_, A.same W, by rw [sz_set]; exact hs, fun j hj => ?_⟩
  by_cases e : j = sl
  · subst e; simp only [Cell.setSlot, if_true]; rw [Array.getElem?_setIfInBounds_self_of_lt (by rw [hs]; exact hj)]
  · simp only [Cell.setSlot]; rw [Array.getElem?_setIfInBounds_ne (Ne.symm e), if_neg e]; exact H j hj
theorem ArI.inb {j : Int32} {c : Cell} (hs : c.slots.size = n) (h0 : ¬ j < 0) (h1 : j.toNatClampNeg < n) : ¬ (j < 0 ∨ c.slots.size ≤ j.toNatClampNeg) := by rw [hs]; rintro (q | q); exact h0 q; omega
end ArSI
section ArGI
variable {p : Program} {l : Launch} {e : Env} {R : Room} {s : State} {m : MethodId} {args : Array Value} {below : List Frame} {meth : Method} {c : Code} {T : State} {locs : List Loc} {cells slots : Nat} {Z : State} {a0 : Array Value} {h : Heap} {K : Outcome → State → Prop} {pc pc' : Nat} {Ls : Array Slot} {st : List Value}
theorem g_iaload' (X : Stand p l e R s m args below meth c T locs cells slots) (hx : p.tables.exec = Jvm.exec) (hZ : Z.Warmed39 s.vm) (eT : T.heap = h) {b : Addr} {n : Nat} {f : Nat → Int32} {j : Int32} {x : Int32} (A : ArI Z h b .int n f) (h0 : ¬ j < 0) (h1 : j.toNatClampNeg < n) (hv : f j.toNatClampNeg = x) (hd : decode c.code pc = .ok (.iaload, 1)) (hp : pc + 1 = pc') (k : Goes p e below K T (mkF m pc' Ls (.int (x) :: st))) : Goes p e below K T (mkF m pc Ls (.int j :: .ref b :: st)) := by
  obtain ⟨cl, A, hs, H⟩ := A
  exact g_iaload X hx hZ eT A (ArI.inb hs h0 h1) (by rw [H _ h1, hv]) hd hp k
theorem g_caload' (X : Stand p l e R s m args below meth c T locs cells slots) (hx : p.tables.exec = Jvm.exec) (hZ : Z.Warmed39 s.vm) (eT : T.heap = h) {b : Addr} {n : Nat} {f : Nat → Int32} {j : Int32} {x : Int32} (A : ArI Z h b .char n f) (h0 : ¬ j < 0) (h1 : j.toNatClampNeg < n) (hv : f j.toNatClampNeg = x) (hd : decode c.code pc = .ok (.caload, 1)) (hp : pc + 1 = pc') (k : Goes p e below K T (mkF m pc' Ls (.int (x) :: st))) : Goes p e below K T (mkF m pc Ls (.int j :: .ref b :: st)) := by
  obtain ⟨cl, A, hs, H⟩ := A
  exact g_caload X hx hZ eT A (ArI.inb hs h0 h1) (by rw [H _ h1, hv]) hd hp k
theorem g_baload' (X : Stand p l e R s m args below meth c T locs cells slots) (hx : p.tables.exec = Jvm.exec) (hZ : Z.Warmed39 s.vm) (eT : T.heap = h) {b : Addr} {n : Nat} {f : Nat → Int32} {j : Int32} {x : Int32} (A : ArI Z h b .byte n f) (h0 : ¬ j < 0) (h1 : j.toNatClampNeg < n) (hv : f j.toNatClampNeg = x) (hd : decode c.code pc = .ok (.baload, 1)) (hp : pc + 1 = pc') (k : Goes p e below K T (mkF m pc' Ls (.int (x) :: st))) : Goes p e below K T (mkF m pc Ls (.int j :: .ref b :: st)) := by
  obtain ⟨cl, A, hs, H⟩ := A
  exact g_baload X hx hZ eT A (ArI.inb hs h0 h1) (by rw [H _ h1, hv]) hd hp k
theorem g_arraylengthI (X : Stand p l e R s m args below meth c T locs cells slots) (hx : p.tables.exec = Jvm.exec) (hZ : Z.Warmed39 s.vm) (eT : T.heap = h) {b : Addr} {n : Nat} {f : Nat → Int32} {ty : FieldType} {z : Int32} (A : ArI Z h b ty n f) (hz : n.toInt32 = z) (hd : decode c.code pc = .ok (.arraylength, 1)) (hp : pc + 1 = pc') (k : Goes p e below K T (mkF m pc' Ls (.int z :: st))) : Goes p e below K T (mkF m pc Ls (.ref b :: st)) := by
  obtain ⟨cl, A, hs, H⟩ := A
  exact g_arraylength X hx hZ eT A (by rw [hs, hz]) hd hp k
theorem g_iastore' (X : Stand p l e R s m args below meth c T locs cells slots) (hx : p.tables.exec = Jvm.exec) (hZ : Z.Warmed39 s.vm) (eT : T.heap = h) {b : Addr} {n : Nat} {f : Nat → Int32} {j : Int32} {x : Int32} (A : ArI Z h b .int n f) (h0 : ¬ j < 0) (h1 : j.toNatClampNeg < n) (hd : decode c.code pc = .ok (.iastore, 1)) (hp : pc + 1 = pc') (k : ∀ T' h', Stand p l e R s m args below meth c T' (locs ++ [⟨b, j.toNatClampNeg⟩]) cells slots → T'.heap = h' → Wr h h' b j.toNatClampNeg (.int (x)) → ArI Z h' b .int n (fun k => if k = j.toNatClampNeg then x else f k) → Goes p e below K T' (mkF m pc' Ls st)) : Goes p e below K T (mkF m pc Ls (.int (x) :: .int j :: .ref b :: st)) := by
  have A' := A
  obtain ⟨cl, A, hs, H⟩ := A
  exact g_iastore X hx hZ eT A (ArI.inb hs h0 h1) hd hp (fun T' h' X' e' W' => k T' h' X' e' W' (A'.set W'))
theorem g_castore' (X : Stand p l e R s m args below meth c T locs cells slots) (hx : p.tables.exec = Jvm.exec) (hZ : Z.Warmed39 s.vm) (eT : T.heap = h) {b : Addr} {n : Nat} {f : Nat → Int32} {j : Int32} {x : Int32} (A : ArI Z h b .char n f) (h0 : ¬ j < 0) (h1 : j.toNatClampNeg < n) (hd : decode c.code pc = .ok (.castore, 1)) (hp : pc + 1 = pc') (k : ∀ T' h', Stand p l e R s m args below meth c T' (locs ++ [⟨b, j.toNatClampNeg⟩]) cells slots → T'.heap = h' → Wr h h' b j.toNatClampNeg (.int (nar .char x)) → ArI Z h' b .char n (fun k => if k = j.toNatClampNeg then nar .char x else f k) → Goes p e below K T' (mkF m pc' Ls st)) : Goes p e below K T (mkF m pc Ls (.int (x) :: .int j :: .ref b :: st)) := by
  have A' := A
  obtain ⟨cl, A, hs, H⟩ := A
  exact g_castore X hx hZ eT A (ArI.inb hs h0 h1) hd hp (fun T' h' X' e' W' => k T' h' X' e' W' (A'.set W'))
theorem g_bastore' (X : Stand p l e R s m args below meth c T locs cells slots) (hx : p.tables.exec = Jvm.exec) (hZ : Z.Warmed39 s.vm) (eT : T.heap = h) {b : Addr} {n : Nat} {f : Nat → Int32} {j : Int32} {x : Int32} (A : ArI Z h b .byte n f) (h0 : ¬ j < 0) (h1 : j.toNatClampNeg < n) (hd : decode c.code pc = .ok (.bastore, 1)) (hp : pc + 1 = pc') (k : ∀ T' h', Stand p l e R s m args below meth c T' (locs ++ [⟨b, j.toNatClampNeg⟩]) cells slots → T'.heap = h' → Wr h h' b j.toNatClampNeg (.int (nar .byte x)) → ArI Z h' b .byte n (fun k => if k = j.toNatClampNeg then nar .byte x else f k) → Goes p e below K T' (mkF m pc' Ls st)) : Goes p e below K T (mkF m pc Ls (.int (x) :: .int j :: .ref b :: st)) := by
  have A' := A
  obtain ⟨cl, A, hs, H⟩ := A
  exact g_bastore X hx hZ eT A (ArI.inb hs h0 h1) hd hp (fun T' h' X' e' W' => k T' h' X' e' W' (A'.set W'))
theorem g_iastoreN (X : Stand p l e R s m args below meth c T locs cells slots) (hx : p.tables.exec = Jvm.exec) (hZ : Z.Warmed39 s.vm) (eT : T.heap = h) {b : Addr} {n : Nat} {f : Nat → Int32} {j : Int32} {x : Int32} (A : ArI Z h b .int n f) (jn : Nat) (hj : j.toNatClampNeg = jn) (h0 : ¬ j < 0) (h1 : jn < n) (hd : decode c.code pc = .ok (.iastore, 1)) (hp : pc + 1 = pc') (k : ∀ T' h', Stand p l e R s m args below meth c T' (locs ++ [⟨b, jn⟩]) cells slots → T'.heap = h' → Wr h h' b jn (.int (x)) → ArI Z h' b .int n (fun k => if k = jn then x else f k) → Goes p e below K T' (mkF m pc' Ls st)) : Goes p e below K T (mkF m pc Ls (.int (x) :: .int j :: .ref b :: st)) := by
  subst hj
  exact g_iastore' X hx hZ eT A h0 h1 hd hp k
theorem g_castoreN (X : Stand p l e R s m args below meth c T locs cells slots) (hx : p.tables.exec = Jvm.exec) (hZ : Z.Warmed39 s.vm) (eT : T.heap = h) {b : Addr} {n : Nat} {f : Nat → Int32} {j : Int32} {x : Int32} (A : ArI Z h b .char n f) (jn : Nat) (hj : j.toNatClampNeg = jn) (h0 : ¬ j < 0) (h1 : jn < n) (hd : decode c.code pc = .ok (.castore, 1)) (hp : pc + 1 = pc') (k : ∀ T' h', Stand p l e R s m args below meth c T' (locs ++ [⟨b, jn⟩]) cells slots → T'.heap = h' → Wr h h' b jn (.int (nar .char x)) → ArI Z h' b .char n (fun k => if k = jn then nar .char x else f k) → Goes p e below K T' (mkF m pc' Ls st)) : Goes p e below K T (mkF m pc Ls (.int (x) :: .int j :: .ref b :: st)) := by
  subst hj
  exact g_castore' X hx hZ eT A h0 h1 hd hp k
theorem g_bastoreN (X : Stand p l e R s m args below meth c T locs cells slots) (hx : p.tables.exec = Jvm.exec) (hZ : Z.Warmed39 s.vm) (eT : T.heap = h) {b : Addr} {n : Nat} {f : Nat → Int32} {j : Int32} {x : Int32} (A : ArI Z h b .byte n f) (jn : Nat) (hj : j.toNatClampNeg = jn) (h0 : ¬ j < 0) (h1 : jn < n) (hd : decode c.code pc = .ok (.bastore, 1)) (hp : pc + 1 = pc') (k : ∀ T' h', Stand p l e R s m args below meth c T' (locs ++ [⟨b, jn⟩]) cells slots → T'.heap = h' → Wr h h' b jn (.int (nar .byte x)) → ArI Z h' b .byte n (fun k => if k = jn then nar .byte x else f k) → Goes p e below K T' (mkF m pc' Ls st)) : Goes p e below K T (mkF m pc Ls (.int (x) :: .int j :: .ref b :: st)) := by
  subst hj
  exact g_bastore' X hx hZ eT A h0 h1 hd hp k
end ArGI
def ArJ (Z : State) (h : Heap) (b : Addr) (ty : FieldType) (n : Nat) (f : Nat → Int64) : Prop := ∃ cl, Arr Z h b cl ty ∧ cl.slots.size = n ∧ ∀ j, j < n → cl.slots[j]? = some (.long (f j))
section ArSJ
variable {Z : State} {h h' : Heap} {a b : Addr} {ty : FieldType} {n sl : Nat} {f : Nat → Int64} {v : Value} {ws : List Addr}
theorem ArJ.new {cA : ClassId} {z : Int32} (A : Arr Z h a (newA cA ty z) ty) (x : Int64) (hd : defaultValue ty = .long x) : ArJ Z h a ty z.toNatClampNeg (fun _ => x) := ⟨_, A, sz_new _ _ _, fun j hj => by simp only [newA, ← hd]; rw [Array.getElem?_replicate, if_pos hj]⟩
theorem ArJ.lt (F : ArJ Z h b ty n f) : b < h.size := by obtain ⟨c, A, -⟩ := F; exact A.lt
theorem ArJ.ext (F : ArJ Z h b ty n f) (E : Ext h h') : ArJ Z h' b ty n f := by obtain ⟨c, A, r⟩ := F; exact ⟨c, A.ext E, r⟩
theorem ArJ.other (F : ArJ Z h b ty n f) (W : Wr h h' a sl v) (q : b ≠ a) : ArJ Z h' b ty n f := by obtain ⟨c, A, r⟩ := F; exact ⟨c, A.other W q, r⟩
theorem ArJ.keep (F : ArJ Z h b ty n f) (K : Keep h h' ws) (q : b ∉ ws) : ArJ Z h' b ty n f := by obtain ⟨c, A, r⟩ := F; exact ⟨c, ⟨K.2.1 b c A.1 q, A.2⟩, r⟩
theorem ArJ.set {x : Int64} (F : ArJ Z h b ty n f) (W : Wr h h' b sl (.long (x))) : ArJ Z h' b ty n (fun k => if k = sl then x else f k) := by
  obtain ⟨c, A, hs, H⟩ := F
  refine ⟨_, A.same W, by rw [sz_set]; exact hs, fun j hj => ?_⟩
  by_cases e : j = sl
  · subst e; simp only [Cell.setSlot, if_true]; rw [Array.getElem?_setIfInBounds_self_of_lt (by rw [hs]; exact hj)]
  · simp only [Cell.setSlot]; rw [Array.getElem?_setIfInBounds_ne (Ne.symm e), if_neg e]; exact H j hj
theorem ArJ.inb {j : Int32} {c : Cell} (hs : c.slots.size = n) (h0 : ¬ j < 0) (h1 : j.toNatClampNeg < n) : ¬ (j < 0 ∨ c.slots.size ≤ j.toNatClampNeg) := by rw [hs]; rintro (q | q); exact h0 q; omega
end ArSJ
section ArGJ
variable {p : Program} {l : Launch} {e : Env} {R : Room} {s : State} {m : MethodId} {args : Array Value} {below : List Frame} {meth : Method} {c : Code} {T : State} {locs : List Loc} {cells slots : Nat} {Z : State} {a0 : Array Value} {h : Heap} {K : Outcome → State → Prop} {pc pc' : Nat} {Ls : Array Slot} {st : List Value}
theorem g_laload' (X : Stand p l e R s m args below meth c T locs cells slots) (hx : p.tables.exec = Jvm.exec) (hZ : Z.Warmed39 s.vm) (eT : T.heap = h) {b : Addr} {n : Nat} {f : Nat → Int64} {j : Int32} {x : Int64} (A : ArJ Z h b .long n f) (h0 : ¬ j < 0) (h1 : j.toNatClampNeg < n) (hv : f j.toNatClampNeg = x) (hd : decode c.code pc = .ok (.laload, 1)) (hp : pc + 1 = pc') (k : Goes p e below K T (mkF m pc' Ls (.long (x) :: st))) : Goes p e below K T (mkF m pc Ls (.int j :: .ref b :: st)) := by
  obtain ⟨cl, A, hs, H⟩ := A
  exact g_laload X hx hZ eT A (ArJ.inb hs h0 h1) (by rw [H _ h1, hv]) hd hp k
theorem g_arraylengthJ (X : Stand p l e R s m args below meth c T locs cells slots) (hx : p.tables.exec = Jvm.exec) (hZ : Z.Warmed39 s.vm) (eT : T.heap = h) {b : Addr} {n : Nat} {f : Nat → Int64} {ty : FieldType} {z : Int32} (A : ArJ Z h b ty n f) (hz : n.toInt32 = z) (hd : decode c.code pc = .ok (.arraylength, 1)) (hp : pc + 1 = pc') (k : Goes p e below K T (mkF m pc' Ls (.int z :: st))) : Goes p e below K T (mkF m pc Ls (.ref b :: st)) := by
  obtain ⟨cl, A, hs, H⟩ := A
  exact g_arraylength X hx hZ eT A (by rw [hs, hz]) hd hp k
theorem g_lastore' (X : Stand p l e R s m args below meth c T locs cells slots) (hx : p.tables.exec = Jvm.exec) (hZ : Z.Warmed39 s.vm) (eT : T.heap = h) {b : Addr} {n : Nat} {f : Nat → Int64} {j : Int32} {x : Int64} (A : ArJ Z h b .long n f) (h0 : ¬ j < 0) (h1 : j.toNatClampNeg < n) (hd : decode c.code pc = .ok (.lastore, 1)) (hp : pc + 1 = pc') (k : ∀ T' h', Stand p l e R s m args below meth c T' (locs ++ [⟨b, j.toNatClampNeg⟩]) cells slots → T'.heap = h' → Wr h h' b j.toNatClampNeg (.long (x)) → ArJ Z h' b .long n (fun k => if k = j.toNatClampNeg then x else f k) → Goes p e below K T' (mkF m pc' Ls st)) : Goes p e below K T (mkF m pc Ls (.long (x) :: .int j :: .ref b :: st)) := by
  have A' := A
  obtain ⟨cl, A, hs, H⟩ := A
  exact g_lastore X hx hZ eT A (ArJ.inb hs h0 h1) hd hp (fun T' h' X' e' W' => k T' h' X' e' W' (A'.set W'))
theorem g_lastoreN (X : Stand p l e R s m args below meth c T locs cells slots) (hx : p.tables.exec = Jvm.exec) (hZ : Z.Warmed39 s.vm) (eT : T.heap = h) {b : Addr} {n : Nat} {f : Nat → Int64} {j : Int32} {x : Int64} (A : ArJ Z h b .long n f) (jn : Nat) (hj : j.toNatClampNeg = jn) (h0 : ¬ j < 0) (h1 : jn < n) (hd : decode c.code pc = .ok (.lastore, 1)) (hp : pc + 1 = pc') (k : ∀ T' h', Stand p l e R s m args below meth c T' (locs ++ [⟨b, jn⟩]) cells slots → T'.heap = h' → Wr h h' b jn (.long (x)) → ArJ Z h' b .long n (fun k => if k = jn then x else f k) → Goes p e below K T' (mkF m pc' Ls st)) : Goes p e below K T (mkF m pc Ls (.long (x) :: .int j :: .ref b :: st)) := by
  subst hj
  exact g_lastore' X hx hZ eT A h0 h1 hd hp k
end ArGJ
def ArV (Z : State) (h : Heap) (b : Addr) (ty : FieldType) (n : Nat) (f : Nat → Value) : Prop := ∃ cl, Arr Z h b cl ty ∧ cl.slots.size = n ∧ ∀ j, j < n → cl.slots[j]? = some (f j)
section ArSV
variable {Z : State} {h h' : Heap} {a b : Addr} {ty : FieldType} {n sl : Nat} {f : Nat → Value} {v : Value} {ws : List Addr}
theorem ArV.new {cA : ClassId} {z : Int32} (A : Arr Z h a (newA cA ty z) ty) (x : Value) (hd : defaultValue ty = x) : ArV Z h a ty z.toNatClampNeg (fun _ => x) := ⟨_, A, sz_new _ _ _, fun j hj => by simp only [newA, ← hd]; rw [Array.getElem?_replicate, if_pos hj]⟩
theorem ArV.lt (F : ArV Z h b ty n f) : b < h.size := by obtain ⟨c, A, -⟩ := F; exact A.lt
theorem ArV.ext (F : ArV Z h b ty n f) (E : Ext h h') : ArV Z h' b ty n f := by obtain ⟨c, A, r⟩ := F; exact ⟨c, A.ext E, r⟩
theorem ArV.other (F : ArV Z h b ty n f) (W : Wr h h' a sl v) (q : b ≠ a) : ArV Z h' b ty n f := by obtain ⟨c, A, r⟩ := F; exact ⟨c, A.other W q, r⟩
theorem ArV.keep (F : ArV Z h b ty n f) (K : Keep h h' ws) (q : b ∉ ws) : ArV Z h' b ty n f := by obtain ⟨c, A, r⟩ := F; exact ⟨c, ⟨K.2.1 b c A.1 q, A.2⟩, r⟩
theorem ArV.set {x : Value} (F : ArV Z h b ty n f) (W : Wr h h' b sl (x)) : ArV Z h' b ty n (fun k => if k = sl then x else f k) := by
  obtain ⟨c, A, hs, H⟩ := F
  refine ⟨_, A.same W, by rw [sz_set]; exact hs, fun j hj => ?_⟩
  by_cases e : j = sl
  · subst e; simp only [Cell.setSlot, if_true]; rw [Array.getElem?_setIfInBounds_self_of_lt (by rw [hs]; exact hj)]
  · simp only [Cell.setSlot]; rw [Array.getElem?_setIfInBounds_ne (Ne.symm e), if_neg e]; exact H j hj
theorem ArV.inb {j : Int32} {c : Cell} (hs : c.slots.size = n) (h0 : ¬ j < 0) (h1 : j.toNatClampNeg < n) : ¬ (j < 0 ∨ c.slots.size ≤ j.toNatClampNeg) := by rw [hs]; rintro (q | q); exact h0 q; omega
end ArSV
section ArGV
variable {p : Program} {l : Launch} {e : Env} {R : Room} {s : State} {m : MethodId} {args : Array Value} {below : List Frame} {meth : Method} {c : Code} {T : State} {locs : List Loc} {cells slots : Nat} {Z : State} {a0 : Array Value} {h : Heap} {K : Outcome → State → Prop} {pc pc' : Nat} {Ls : Array Slot} {st : List Value}
theorem g_aaload' (X : Stand p l e R s m args below meth c T locs cells slots) (hx : p.tables.exec = Jvm.exec) (hZ : Z.Warmed39 s.vm) (eT : T.heap = h) {b : Addr} {n : Nat} {f : Nat → Value} {j : Int32} {x : Value} {ty : FieldType} (A : ArV Z h b ty n f) (h0 : ¬ j < 0) (h1 : j.toNatClampNeg < n) (hv : f j.toNatClampNeg = x) (hty : ty.isReference = true) (hd : decode c.code pc = .ok (.aaload, 1)) (hp : pc + 1 = pc') (k : Goes p e below K T (mkF m pc' Ls (x :: st))) : Goes p e below K T (mkF m pc Ls (.int j :: .ref b :: st)) := by
  obtain ⟨cl, A, hs, H⟩ := A
  exact g_aaload X hx hZ eT A hty (ArV.inb hs h0 h1) (by rw [H _ h1, hv]) hd hp k
theorem g_arraylengthV (X : Stand p l e R s m args below meth c T locs cells slots) (hx : p.tables.exec = Jvm.exec) (hZ : Z.Warmed39 s.vm) (eT : T.heap = h) {b : Addr} {n : Nat} {f : Nat → Value} {ty : FieldType} {z : Int32} (A : ArV Z h b ty n f) (hz : n.toInt32 = z) (hd : decode c.code pc = .ok (.arraylength, 1)) (hp : pc + 1 = pc') (k : Goes p e below K T (mkF m pc' Ls (.int z :: st))) : Goes p e below K T (mkF m pc Ls (.ref b :: st)) := by
  obtain ⟨cl, A, hs, H⟩ := A
  exact g_arraylength X hx hZ eT A (by rw [hs, hz]) hd hp k
theorem g_aastore' (X : Stand p l e R s m args below meth c T locs cells slots) (hx : p.tables.exec = Jvm.exec) (hZ : Z.Warmed39 s.vm) (eT : T.heap = h) {b : Addr} {n : Nat} {f : Nat → Value} {j : Int32} {x : Value} {ty : FieldType} (A : ArV Z h b ty n f) (h0 : ¬ j < 0) (h1 : j.toNatClampNeg < n) (hty : ty.isReference = true) (F : Sto Z h b x) (hd : decode c.code pc = .ok (.aastore, 1)) (hp : pc + 1 = pc') (k : ∀ T' h', Stand p l e R s m args below meth c T' (locs ++ [⟨b, j.toNatClampNeg⟩]) cells slots → T'.heap = h' → Wr h h' b j.toNatClampNeg (x) → ArV Z h' b ty n (fun k => if k = j.toNatClampNeg then x else f k) → Goes p e below K T' (mkF m pc' Ls st)) : Goes p e below K T (mkF m pc Ls (x :: .int j :: .ref b :: st)) := by
  have A' := A
  obtain ⟨cl, A, hs, H⟩ := A
  exact g_aastore X hx hZ eT A hty F (ArV.inb hs h0 h1) hd hp (fun T' h' X' e' W' => k T' h' X' e' W' (A'.set W'))
end ArGV
section OwnW
variable {p : Program} {l : Launch} {e : Env} {R : Room} {s : State} {m : MethodId} {args : Array Value} {below : List Frame} {meth : Method} {c : Code} {T : State} {locs : List Loc} {cells slots : Nat} {Z : State} {a0 : Array Value} {h : Heap} {K : Outcome → State → Prop} {pc pc' : Nat} {Ls : Array Slot} {st : List Value}
abbrev KW (s : State) (C S : Nat) (Q : Option Value → Heap → List Loc → Prop) : Outcome → State → Prop := fun o u => ∃ v L, o = .returned v ∧ Q v u.heap L ∧ ReturnedEndW s o u L C S
abbrev CtrW (l : Launch) (Z : State) (y : MethodName) (bytes : ByteArray) (maxL : Nat) (ret : Option FieldType) (ws : List Jvm.Cond) (rm : Room) (C S : Nat) (as' : Array Value) (h0 : Heap) (Q : Option Value → Heap → List Loc → Prop) : Prop := MetFree l y (head1 (Jvm.Cond.code y bytes maxL ret :: ws) rm) (fun a U => a = as' ∧ Z.Warmed39 U.vm ∧ U.heap = h0 ∧ U.vm.interned = Z.vm.interned) (fun _ _ _ _ _ => True) (fun _ U o U' => ∃ v L, o = .returned v ∧ Q v U'.heap L ∧ ReturnedEndW U o U' L C S)
theorem CtrW.of {y : MethodName} {bytes : ByteArray} {maxL : Nat} {ret : Option FieldType} {ws : List Jvm.Cond} {rm : Room} {C S : Nat} {as' : Array Value} {h0 : Heap} {Q : Option Value → Heap → List Loc → Prop} (hpn : plainFor y = true)
    (body : ∀ (p : Program) (e : Env) (s : State) (m : MethodId) (below : List Frame) (meth : Method) (c : Code) (s₁ : State), p.tables.exec = Jvm.exec → c.code = bytes → c.maxLocals = maxL → s.vm.findClass y.cls = some m.cls → meth.name = y.name → meth.sig.returnType = ret → meth.locks = false → Z.Warmed39 s.vm → Stand p l e rm (s.setVm s.vm) m as' below meth c s₁ [] 0 0 → s₁.heap = h0 → s.Since s.vm s.heap.size → s.heap = h0 → s.vm.interned = Z.vm.interned → Goes p e below (KW s C S Q) s₁ (entryFrame m as' maxL)) :
    CtrW l Z y bytes maxL ret ws rm C S as' h0 Q := by
  refine MetFree.of_bodySF hpn hisR ?_
  intro p e s m args below meth c s₁ Bd hml0 hP hK
  obtain ⟨rfl, hZ, hh, hint⟩ := hP
  have hlk : meth.locks = false := BodyLoose.notSynchronized Bd
  exact body p e s m below meth c s₁ Bd.exec Bd.bytes hml0 (findClass_of_methodNamed Bd.named) (name_of_methodNamed Bd.named Bd.method).1 Bd.returns hlk hZ (Stand.of_body Bd) (by rw [← hh, Bd.state]; rfl) (State.WarmedH.since (State.WarmedH.refl s) _) hh hint
theorem g_ldcS {vm0 : Vm} (X : Stand p l e R (s.setVm vm0) m args below meth c T locs cells slots) (hx : p.tables.exec = Jvm.exec) (hZ : Z.Warmed39 vm0) {own text : String} {ix : Nat} (hown : vm0.findClass own = some m.cls) (w : (Cond.stringLink own ix text).before a0 Z = true) (wS : ∀ a ∈ Bundle.stringAtoms, a.before a0 Z = true) (eT : T.heap = h) {k0 : Nat} (hS : s.Since vm0 k0) (hk : k0 ≤ h.size) (hd : decode c.code pc = .ok (.ldc ix, 2)) (hp : pc + 2 = pc') (n : Nat) (hn : 4 * text.toList.length ≤ n) (hbig : n ≤ 536870912) (hc : cells + 2 ≤ R.cells) (hl : slots + (n + 4) ≤ R.slots) (k : ∀ (a : Addr) (T' : State) (h' : Heap) (k1 : Nat), Stand p l e R (s.setVm T'.vm) m args below meth c T' locs (cells + 2) (slots + (n + 4)) → T'.heap = h' → Ext h h' → s.Since T'.vm k1 → k1 ≤ h'.size → Z.Warmed39 T'.vm → T'.vm.findClass own = some m.cls → Goes p e below K T' (mkF m pc' Ls (.ref a :: st))) : Goes p e below K T (mkF m pc Ls st) := by
  subst hp
  obtain ⟨a, T1, h1, k1, X1, e1, E1, S1, g1, Z1, o1, f1⟩ := ldcS X hx hZ hown w wS eT hS hk (g := mkF m pc Ls st) rfl hd hn hbig hc hl
  exact Goes.by' f1 (k a T1 h1 k1 X1 e1 E1 S1 g1 Z1 o1)
theorem g_ldcSV {vm0 : Vm} (X : Stand p l e R (s.setVm vm0) m args below meth c T locs cells slots) (hx : p.tables.exec = Jvm.exec) (hZ : Z.Warmed39 vm0) {own text : String} {ix : Nat} {Ts : List String} (hown : vm0.findClass own = some m.cls) (w : (Cond.stringLink own ix text).before a0 Z = true) (wS : ∀ a ∈ Bundle.stringAtoms, a.before a0 Z = true) (eT : T.heap = h) {k0 : Nat} (hS : s.Since vm0 k0) (hk : k0 ≤ h.size) (N : Fr s.heap.size locs) (hkeep : ∀ (b : Addr) (cl : Cell), Z.heap[b]? = some cl → s.heap[b]? = some cl) (I : IB Z vm0 Ts) (hnot : text ∉ Ts) (hh : Jvm.Lit.constHeld Z own ix) (hcw : Jvm.Lit.compactW.before a0 Z = true) (vs : List Value) (z : Int32) (ht : (∀ c ∈ text.toList, c.toNat < 256) ∧ text.toList.map (fun c => Value.int (Jvm.Lit.byteI c.toNat.toUInt16)) = vs) (hz : ¬ z < 0) (hl : z.toNatClampNeg = vs.length) (hd : decode c.code pc = .ok (.ldc ix, 2)) (hp : pc + 2 = pc') (n : Nat) (hn : 4 * text.toList.length ≤ n) (hbig : n ≤ 536870912) (hc : cells + 2 ≤ R.cells) (hl' : slots + (n + 4) ≤ R.slots) (k : ∀ (a : Addr) (T' : State) (h' : Heap) (k1 : Nat) (b : Addr) (cA : ClassId), Stand p l e R (s.setVm T'.vm) m args below meth c T' locs (cells + 2) (slots + (n + 4)) → T'.heap = h' → Ext h h' → s.Since T'.vm k1 → k1 ≤ h'.size → Z.Warmed39 T'.vm → T'.vm.findClass own = some m.cls → Exa Z h' a "java/lang/String" → Fld Z h' a "java/lang/String" "coder" "B" (.int 0) → Fld Z h' a "java/lang/String" "value" "[B" (.ref b) → Arv Z h' b cA .byte z vs (.int 0) → IB Z T'.vm (text :: Ts) → Goes p e below K T' (mkF m pc' Ls (.ref a :: st))) : Goes p e below K T (mkF m pc Ls st) := by
  subst hp
  obtain ⟨a, T1, h1, k1, b, cA, X1, e1, E1, S1, g1, Z1, o1, q1, q2, q3, q4, -, -, q5, f1⟩ := ldcSV X hx hZ hown w wS eT hS hk N hkeep I hnot hh hcw ht hz hl (g := mkF m pc Ls st) rfl hd hn hbig hc hl'
  exact Goes.by' f1 (k a T1 h1 k1 b cA X1 e1 E1 S1 g1 Z1 o1 q1 q2 q3 q4 q5)
theorem g_retNW {vm0 : Vm} (X : Stand p l e R (s.setVm vm0) m args below meth c T locs cells slots) (hx : p.tables.exec = Jvm.exec) {C S : Nat} {Q : Option Value → Heap → List Loc → Prop} {z : Int32} {t : FieldType} (ht : t = .boolean ∨ t = .byte ∨ t = .char ∨ t = .short) (hlk : meth.locks = false) (hret : meth.sig.returnType = some t) (eT : T.heap = h) {k0 : Nat} (hS : s.Since vm0 k0) (hk : k0 ≤ h.size) (hc : cells ≤ C) (hs : slots ≤ S) (hd : decode c.code pc = .ok (.ireturn, 1)) (hQ : Q (some (.int (nar t z))) h locs) : Goes p e below (KW s C S Q) T (mkF m pc Ls (.int z :: st)) := by
  subst eT
  obtain ⟨fs, hr, hrun, hended, q1, q2, q3, q4⟩ := X.leaveW hS hk (v := some (.int (nar t z))) (fun q => by rw [hret] at q; cases q) hlk
  exact ⟨_, _, retN X hx hret ht hd hr, hrun, hended, _, _, rfl, hQ, q1, q2, q3, q4.mono hc hs⟩
theorem own_ib {vm : Vm} (q : vm.interned = Z.vm.interned) : IB Z vm [] := ⟨#[], by simp [q], fun x hx => by simp at hx⟩
end OwnW
theorem own_fin {P : Int32 → Prop} (N : Nat) (hN : N ≤ 2 ^ 31) (hP : ∀ n : Fin N, P (Int32.ofNat n.val)) (d : Int32) (h0 : 0 ≤ d.toInt) (h1 : d.toInt < (N : Int)) : P d := by
  have e : d = Int32.ofNat d.toInt.toNat := by
    apply Int32.toInt_inj.mp
    rw [Int32.toInt_ofNat_of_lt (by omega)]
    omega
  rw [e]
  exact hP ⟨d.toInt.toNat, by omega⟩
theorem own_ltI {x y : Int32} : x < y ↔ x.toInt < y.toInt := Int32.lt_iff_toInt_lt
theorem own_nneg {i : Int32} (h : 0 ≤ i.toInt) : ¬ i < 0 := by rw [own_ltI, show (0 : Int32).toInt = 0 from rfl]; omega
theorem own_tnc (i : Int32) : i.toNatClampNeg = i.toInt.toNat := rfl
theorem own_inc {i : Int32} (h : i.toInt < 2147483647) : (i + 1).toInt = i.toInt + 1 := by
  have e := c_iadd i 1
  have r := rng32 (i + 1)
  have r2 := rng32 i
  rw [show (1 : Int32).toInt = 1 from rfl] at e
  omega
theorem own_rem (a m : Int32) (hm : 0 < m.toInt) : 0 ≤ ((a &&& 2147483647) % m).toInt ∧ ((a &&& 2147483647) % m).toInt < m.toInt := by
  have e1 := c_mask a 2147483647 31 (by decide) (by decide)
  have e2 := (c_iremV (a &&& 2147483647) m).1 (by rw [e1]; omega) hm
  exact ⟨e2.1, e2.2.1⟩
theorem cm_lt (x y : Int64) : XT.cmpL x y < 0 ↔ x < y := by unfold XT.cmpL; split <;> (try split) <;> simp_all [Int64.lt_iff_toInt_lt, ← Int64.toInt_inj] <;> omega
theorem cm_gt (x y : Int64) : 0 < XT.cmpL x y ↔ y < x := by unfold XT.cmpL; split <;> (try split) <;> simp_all [Int64.lt_iff_toInt_lt, ← Int64.toInt_inj] <;> omega
theorem cm_eq (x y : Int64) : XT.cmpL x y = 0 ↔ x = y := by unfold XT.cmpL; split <;> (try split) <;> simp_all [Int64.lt_iff_toInt_lt, ← Int64.toInt_inj] <;> omega
theorem own_b1 {P : Prop} [Decidable P] (q : P) : some (Value.int (nar .boolean 1)) = some (.int (if P then 1 else 0)) := by rw [if_pos q]; rfl
theorem own_b0 {P : Prop} [Decidable P] (q : ¬ P) : some (Value.int (nar .boolean 0)) = some (.int (if P then 1 else 0)) := by rw [if_neg q]; rfl
theorem d1_0 : decode prog_39_method_1_code 0 = .ok (.aload_n 0, 1) := by decide +kernel
theorem d1_1 : decode prog_39_method_1_code 1 = .ok (.invokespecial 3, 3) := by decide +kernel
theorem d1_4 : decode prog_39_method_1_code 4 = .ok (.return_, 1) := by decide +kernel
theorem d3_0 : decode prog_39_method_5_code 0 = .ok (.iconst 0, 1) := by decide +kernel
theorem d3_1 : decode prog_39_method_5_code 1 = .ok (.istore 7, 2) := by decide +kernel
theorem d3_3 : decode prog_39_method_5_code 3 = .ok (.iconst 0, 1) := by decide +kernel
theorem d3_4 : decode prog_39_method_5_code 4 = .ok (.istore 8, 2) := by decide +kernel
theorem d3_6 : decode prog_39_method_5_code 6 = .ok (.iload 8, 2) := by decide +kernel
theorem d3_8 : decode prog_39_method_5_code 8 = .ok (.aload 5, 2) := by decide +kernel
theorem d3_10 : decode prog_39_method_5_code 10 = .ok (.arraylength, 1) := by decide +kernel
theorem d3_11 : decode prog_39_method_5_code 11 = .ok (.if_icmp .ge 140, 3) := by decide +kernel
theorem d3_14 : decode prog_39_method_5_code 14 = .ok (.lconst 0, 1) := by decide +kernel
theorem d3_15 : decode prog_39_method_5_code 15 = .ok (.lstore 9, 2) := by decide +kernel
theorem d3_17 : decode prog_39_method_5_code 17 = .ok (.iload_n 2, 1) := by decide +kernel
theorem d3_18 : decode prog_39_method_5_code 18 = .ok (.iload 7, 2) := by decide +kernel
theorem d3_20 : decode prog_39_method_5_code 20 = .ok (.iadd, 1) := by decide +kernel
theorem d3_21 : decode prog_39_method_5_code 21 = .ok (.istore 11, 2) := by decide +kernel
theorem d3_23 : decode prog_39_method_5_code 23 = .ok (.iload 11, 2) := by decide +kernel
theorem d3_25 : decode prog_39_method_5_code 25 = .ok (.iload_n 2, 1) := by decide +kernel
theorem d3_26 : decode prog_39_method_5_code 26 = .ok (.iload 4, 2) := by decide +kernel
theorem d3_28 : decode prog_39_method_5_code 28 = .ok (.iload_n 3, 1) := by decide +kernel
theorem d3_29 : decode prog_39_method_5_code 29 = .ok (.imul, 1) := by decide +kernel
theorem d3_30 : decode prog_39_method_5_code 30 = .ok (.iadd, 1) := by decide +kernel
theorem d3_31 : decode prog_39_method_5_code 31 = .ok (.if_icmp .ge 52, 3) := by decide +kernel
theorem d3_34 : decode prog_39_method_5_code 34 = .ok (.iload 11, 2) := by decide +kernel
theorem d3_36 : decode prog_39_method_5_code 36 = .ok (.istore 12, 2) := by decide +kernel
theorem d3_38 : decode prog_39_method_5_code 38 = .ok (.iload 12, 2) := by decide +kernel
theorem d3_40 : decode prog_39_method_5_code 40 = .ok (.iload 11, 2) := by decide +kernel
theorem d3_42 : decode prog_39_method_5_code 42 = .ok (.aload 5, 2) := by decide +kernel
theorem d3_44 : decode prog_39_method_5_code 44 = .ok (.iload 8, 2) := by decide +kernel
theorem d3_46 : decode prog_39_method_5_code 46 = .ok (.iaload, 1) := by decide +kernel
theorem d3_47 : decode prog_39_method_5_code 47 = .ok (.iadd, 1) := by decide +kernel
theorem d3_48 : decode prog_39_method_5_code 48 = .ok (.iload 7, 2) := by decide +kernel
theorem d3_50 : decode prog_39_method_5_code 50 = .ok (.isub, 1) := by decide +kernel
theorem d3_51 : decode prog_39_method_5_code 51 = .ok (.if_icmp .ge 23, 3) := by decide +kernel
theorem d3_54 : decode prog_39_method_5_code 54 = .ok (.lload 9, 2) := by decide +kernel
theorem d3_56 : decode prog_39_method_5_code 56 = .ok (.aload_n 1, 1) := by decide +kernel
theorem d3_57 : decode prog_39_method_5_code 57 = .ok (.iload 12, 2) := by decide +kernel
theorem d3_59 : decode prog_39_method_5_code 59 = .ok (.baload, 1) := by decide +kernel
theorem d3_60 : decode prog_39_method_5_code 60 = .ok (.sipush 255, 3) := by decide +kernel
theorem d3_63 : decode prog_39_method_5_code 63 = .ok (.iand, 1) := by decide +kernel
theorem d3_64 : decode prog_39_method_5_code 64 = .ok (.i2l, 1) := by decide +kernel
theorem d3_65 : decode prog_39_method_5_code 65 = .ok (.ladd, 1) := by decide +kernel
theorem d3_66 : decode prog_39_method_5_code 66 = .ok (.lstore 9, 2) := by decide +kernel
theorem d3_68 : decode prog_39_method_5_code 68 = .ok (.iinc 12 1, 3) := by decide +kernel
theorem d3_71 : decode prog_39_method_5_code 71 = .ok (.goto (-33), 3) := by decide +kernel
theorem d3_74 : decode prog_39_method_5_code 74 = .ok (.iload 11, 2) := by decide +kernel
theorem d3_76 : decode prog_39_method_5_code 76 = .ok (.iload_n 3, 1) := by decide +kernel
theorem d3_77 : decode prog_39_method_5_code 77 = .ok (.iadd, 1) := by decide +kernel
theorem d3_78 : decode prog_39_method_5_code 78 = .ok (.istore 11, 2) := by decide +kernel
theorem d3_80 : decode prog_39_method_5_code 80 = .ok (.goto (-57), 3) := by decide +kernel
theorem d3_83 : decode prog_39_method_5_code 83 = .ok (.iconst 4, 1) := by decide +kernel
theorem d3_84 : decode prog_39_method_5_code 84 = .ok (.iload 8, 2) := by decide +kernel
theorem d3_86 : decode prog_39_method_5_code 86 = .ok (.imul, 1) := by decide +kernel
theorem d3_87 : decode prog_39_method_5_code 87 = .ok (.istore 11, 2) := by decide +kernel
theorem d3_89 : decode prog_39_method_5_code 89 = .ok (.aload 6, 2) := by decide +kernel
theorem d3_91 : decode prog_39_method_5_code 91 = .ok (.iload 11, 2) := by decide +kernel
theorem d3_93 : decode prog_39_method_5_code 93 = .ok (.ldc2_w 19, 3) := by decide +kernel
theorem d3_96 : decode prog_39_method_5_code 96 = .ok (.iload 4, 2) := by decide +kernel
theorem d3_98 : decode prog_39_method_5_code 98 = .ok (.i2l, 1) := by decide +kernel
theorem d3_99 : decode prog_39_method_5_code 99 = .ok (.lmul, 1) := by decide +kernel
theorem d3_100 : decode prog_39_method_5_code 100 = .ok (.aload 5, 2) := by decide +kernel
theorem d3_102 : decode prog_39_method_5_code 102 = .ok (.iload 8, 2) := by decide +kernel
theorem d3_104 : decode prog_39_method_5_code 104 = .ok (.iaload, 1) := by decide +kernel
theorem d3_105 : decode prog_39_method_5_code 105 = .ok (.iload 7, 2) := by decide +kernel
theorem d3_107 : decode prog_39_method_5_code 107 = .ok (.isub, 1) := by decide +kernel
theorem d3_108 : decode prog_39_method_5_code 108 = .ok (.i2l, 1) := by decide +kernel
theorem d3_109 : decode prog_39_method_5_code 109 = .ok (.lmul, 1) := by decide +kernel
theorem d3_110 : decode prog_39_method_5_code 110 = .ok (.lastore, 1) := by decide +kernel
theorem d3_111 : decode prog_39_method_5_code 111 = .ok (.aload 6, 2) := by decide +kernel
theorem d3_113 : decode prog_39_method_5_code 113 = .ok (.iload 11, 2) := by decide +kernel
theorem d3_115 : decode prog_39_method_5_code 115 = .ok (.iconst 1, 1) := by decide +kernel
theorem d3_116 : decode prog_39_method_5_code 116 = .ok (.iadd, 1) := by decide +kernel
theorem d3_117 : decode prog_39_method_5_code 117 = .ok (.lload 9, 2) := by decide +kernel
theorem d3_119 : decode prog_39_method_5_code 119 = .ok (.lastore, 1) := by decide +kernel
theorem d3_120 : decode prog_39_method_5_code 120 = .ok (.aload 6, 2) := by decide +kernel
theorem d3_122 : decode prog_39_method_5_code 122 = .ok (.iload 11, 2) := by decide +kernel
theorem d3_124 : decode prog_39_method_5_code 124 = .ok (.iconst 2, 1) := by decide +kernel
theorem d3_125 : decode prog_39_method_5_code 125 = .ok (.iadd, 1) := by decide +kernel
theorem d3_126 : decode prog_39_method_5_code 126 = .ok (.lload 9, 2) := by decide +kernel
theorem d3_128 : decode prog_39_method_5_code 128 = .ok (.lastore, 1) := by decide +kernel
theorem d3_129 : decode prog_39_method_5_code 129 = .ok (.aload 6, 2) := by decide +kernel
theorem d3_131 : decode prog_39_method_5_code 131 = .ok (.iload 11, 2) := by decide +kernel
theorem d3_133 : decode prog_39_method_5_code 133 = .ok (.iconst 3, 1) := by decide +kernel
theorem d3_134 : decode prog_39_method_5_code 134 = .ok (.iadd, 1) := by decide +kernel
theorem d3_135 : decode prog_39_method_5_code 135 = .ok (.lload 9, 2) := by decide +kernel
theorem d3_137 : decode prog_39_method_5_code 137 = .ok (.lastore, 1) := by decide +kernel
theorem d3_138 : decode prog_39_method_5_code 138 = .ok (.aload 5, 2) := by decide +kernel
theorem d3_140 : decode prog_39_method_5_code 140 = .ok (.iload 8, 2) := by decide +kernel
theorem d3_142 : decode prog_39_method_5_code 142 = .ok (.iaload, 1) := by decide +kernel
theorem d3_143 : decode prog_39_method_5_code 143 = .ok (.istore 7, 2) := by decide +kernel
theorem d3_145 : decode prog_39_method_5_code 145 = .ok (.iinc 8 1, 3) := by decide +kernel
theorem d3_148 : decode prog_39_method_5_code 148 = .ok (.goto (-142), 3) := by decide +kernel
theorem d3_151 : decode prog_39_method_5_code 151 = .ok (.iconst 1, 1) := by decide +kernel
theorem d3_152 : decode prog_39_method_5_code 152 = .ok (.ireturn, 1) := by decide +kernel
theorem d4_0 : decode method_4_code 0 = .ok (.lload_n 0, 1) := by decide +kernel
theorem d4_1 : decode method_4_code 1 = .ok (.iload_n 2, 1) := by decide +kernel
theorem d4_2 : decode method_4_code 2 = .ok (.iload_n 3, 1) := by decide +kernel
theorem d4_3 : decode method_4_code 3 = .ok (.iload 4, 2) := by decide +kernel
theorem d4_5 : decode method_4_code 5 = .ok (.iload 5, 2) := by decide +kernel
theorem d4_7 : decode method_4_code 7 = .ok (.iload 6, 2) := by decide +kernel
theorem d4_9 : decode method_4_code 9 = .ok (.iload 7, 2) := by decide +kernel
theorem d4_11 : decode method_4_code 11 = .ok (.iconst 0, 1) := by decide +kernel
theorem d4_12 : decode method_4_code 12 = .ok (.iconst 0, 1) := by decide +kernel
theorem d4_13 : decode method_4_code 13 = .ok (.invokestatic 27, 3) := by decide +kernel
theorem d4_16 : decode method_4_code 16 = .ok (.lload_n 0, 1) := by decide +kernel
theorem d4_17 : decode method_4_code 17 = .ok (.iload_n 2, 1) := by decide +kernel
theorem d4_18 : decode method_4_code 18 = .ok (.iload_n 3, 1) := by decide +kernel
theorem d4_19 : decode method_4_code 19 = .ok (.iload 4, 2) := by decide +kernel
theorem d4_21 : decode method_4_code 21 = .ok (.iload 5, 2) := by decide +kernel
theorem d4_23 : decode method_4_code 23 = .ok (.iload 6, 2) := by decide +kernel
theorem d4_25 : decode method_4_code 25 = .ok (.iload 7, 2) := by decide +kernel
theorem d4_27 : decode method_4_code 27 = .ok (.iconst 0, 1) := by decide +kernel
theorem d4_28 : decode method_4_code 28 = .ok (.iconst 1, 1) := by decide +kernel
theorem d4_29 : decode method_4_code 29 = .ok (.invokestatic 27, 3) := by decide +kernel
theorem d4_32 : decode method_4_code 32 = .ok (.ladd, 1) := by decide +kernel
theorem d4_33 : decode method_4_code 33 = .ok (.lload_n 0, 1) := by decide +kernel
theorem d4_34 : decode method_4_code 34 = .ok (.iload_n 2, 1) := by decide +kernel
theorem d4_35 : decode method_4_code 35 = .ok (.iload_n 3, 1) := by decide +kernel
theorem d4_36 : decode method_4_code 36 = .ok (.iload 4, 2) := by decide +kernel
theorem d4_38 : decode method_4_code 38 = .ok (.iload 5, 2) := by decide +kernel
theorem d4_40 : decode method_4_code 40 = .ok (.iload 6, 2) := by decide +kernel
theorem d4_42 : decode method_4_code 42 = .ok (.iload 7, 2) := by decide +kernel
theorem d4_44 : decode method_4_code 44 = .ok (.iconst 0, 1) := by decide +kernel
theorem d4_45 : decode method_4_code 45 = .ok (.iconst 2, 1) := by decide +kernel
theorem d4_46 : decode method_4_code 46 = .ok (.invokestatic 27, 3) := by decide +kernel
theorem d4_49 : decode method_4_code 49 = .ok (.ladd, 1) := by decide +kernel
theorem d4_50 : decode method_4_code 50 = .ok (.lload_n 0, 1) := by decide +kernel
theorem d4_51 : decode method_4_code 51 = .ok (.iload_n 2, 1) := by decide +kernel
theorem d4_52 : decode method_4_code 52 = .ok (.iload_n 3, 1) := by decide +kernel
theorem d4_53 : decode method_4_code 53 = .ok (.iload 4, 2) := by decide +kernel
theorem d4_55 : decode method_4_code 55 = .ok (.iload 5, 2) := by decide +kernel
theorem d4_57 : decode method_4_code 57 = .ok (.iload 6, 2) := by decide +kernel
theorem d4_59 : decode method_4_code 59 = .ok (.iload 7, 2) := by decide +kernel
theorem d4_61 : decode method_4_code 61 = .ok (.iconst 1, 1) := by decide +kernel
theorem d4_62 : decode method_4_code 62 = .ok (.iconst 0, 1) := by decide +kernel
theorem d4_63 : decode method_4_code 63 = .ok (.invokestatic 27, 3) := by decide +kernel
theorem d4_66 : decode method_4_code 66 = .ok (.ladd, 1) := by decide +kernel
theorem d4_67 : decode method_4_code 67 = .ok (.lload_n 0, 1) := by decide +kernel
theorem d4_68 : decode method_4_code 68 = .ok (.iload_n 2, 1) := by decide +kernel
theorem d4_69 : decode method_4_code 69 = .ok (.iload_n 3, 1) := by decide +kernel
theorem d4_70 : decode method_4_code 70 = .ok (.iload 4, 2) := by decide +kernel
theorem d4_72 : decode method_4_code 72 = .ok (.iload 5, 2) := by decide +kernel
theorem d4_74 : decode method_4_code 74 = .ok (.iload 6, 2) := by decide +kernel
theorem d4_76 : decode method_4_code 76 = .ok (.iload 7, 2) := by decide +kernel
theorem d4_78 : decode method_4_code 78 = .ok (.iconst 1, 1) := by decide +kernel
theorem d4_79 : decode method_4_code 79 = .ok (.iconst 1, 1) := by decide +kernel
theorem d4_80 : decode method_4_code 80 = .ok (.invokestatic 27, 3) := by decide +kernel
theorem d4_83 : decode method_4_code 83 = .ok (.ladd, 1) := by decide +kernel
theorem d4_84 : decode method_4_code 84 = .ok (.lload_n 0, 1) := by decide +kernel
theorem d4_85 : decode method_4_code 85 = .ok (.iload_n 2, 1) := by decide +kernel
theorem d4_86 : decode method_4_code 86 = .ok (.iload_n 3, 1) := by decide +kernel
theorem d4_87 : decode method_4_code 87 = .ok (.iload 4, 2) := by decide +kernel
theorem d4_89 : decode method_4_code 89 = .ok (.iload 5, 2) := by decide +kernel
theorem d4_91 : decode method_4_code 91 = .ok (.iload 6, 2) := by decide +kernel
theorem d4_93 : decode method_4_code 93 = .ok (.iload 7, 2) := by decide +kernel
theorem d4_95 : decode method_4_code 95 = .ok (.iconst 1, 1) := by decide +kernel
theorem d4_96 : decode method_4_code 96 = .ok (.iconst 2, 1) := by decide +kernel
theorem d4_97 : decode method_4_code 97 = .ok (.invokestatic 27, 3) := by decide +kernel
theorem d4_100 : decode method_4_code 100 = .ok (.ladd, 1) := by decide +kernel
theorem d4_101 : decode method_4_code 101 = .ok (.lload_n 0, 1) := by decide +kernel
theorem d4_102 : decode method_4_code 102 = .ok (.iload_n 2, 1) := by decide +kernel
theorem d4_103 : decode method_4_code 103 = .ok (.iload_n 3, 1) := by decide +kernel
theorem d4_104 : decode method_4_code 104 = .ok (.iload 4, 2) := by decide +kernel
theorem d4_106 : decode method_4_code 106 = .ok (.iload 5, 2) := by decide +kernel
theorem d4_108 : decode method_4_code 108 = .ok (.iload 6, 2) := by decide +kernel
theorem d4_110 : decode method_4_code 110 = .ok (.iload 7, 2) := by decide +kernel
theorem d4_112 : decode method_4_code 112 = .ok (.iconst 2, 1) := by decide +kernel
theorem d4_113 : decode method_4_code 113 = .ok (.iconst 0, 1) := by decide +kernel
theorem d4_114 : decode method_4_code 114 = .ok (.invokestatic 27, 3) := by decide +kernel
theorem d4_117 : decode method_4_code 117 = .ok (.ladd, 1) := by decide +kernel
theorem d4_118 : decode method_4_code 118 = .ok (.lload_n 0, 1) := by decide +kernel
theorem d4_119 : decode method_4_code 119 = .ok (.iload_n 2, 1) := by decide +kernel
theorem d4_120 : decode method_4_code 120 = .ok (.iload_n 3, 1) := by decide +kernel
theorem d4_121 : decode method_4_code 121 = .ok (.iload 4, 2) := by decide +kernel
theorem d4_123 : decode method_4_code 123 = .ok (.iload 5, 2) := by decide +kernel
theorem d4_125 : decode method_4_code 125 = .ok (.iload 6, 2) := by decide +kernel
theorem d4_127 : decode method_4_code 127 = .ok (.iload 7, 2) := by decide +kernel
theorem d4_129 : decode method_4_code 129 = .ok (.iconst 2, 1) := by decide +kernel
theorem d4_130 : decode method_4_code 130 = .ok (.iconst 1, 1) := by decide +kernel
theorem d4_131 : decode method_4_code 131 = .ok (.invokestatic 27, 3) := by decide +kernel
theorem d4_134 : decode method_4_code 134 = .ok (.ladd, 1) := by decide +kernel
theorem d4_135 : decode method_4_code 135 = .ok (.lload_n 0, 1) := by decide +kernel
theorem d4_136 : decode method_4_code 136 = .ok (.iload_n 2, 1) := by decide +kernel
theorem d4_137 : decode method_4_code 137 = .ok (.iload_n 3, 1) := by decide +kernel
theorem d4_138 : decode method_4_code 138 = .ok (.iload 4, 2) := by decide +kernel
theorem d4_140 : decode method_4_code 140 = .ok (.iload 5, 2) := by decide +kernel
theorem d4_142 : decode method_4_code 142 = .ok (.iload 6, 2) := by decide +kernel
theorem d4_144 : decode method_4_code 144 = .ok (.iload 7, 2) := by decide +kernel
theorem d4_146 : decode method_4_code 146 = .ok (.iconst 2, 1) := by decide +kernel
theorem d4_147 : decode method_4_code 147 = .ok (.iconst 2, 1) := by decide +kernel
theorem d4_148 : decode method_4_code 148 = .ok (.invokestatic 27, 3) := by decide +kernel
theorem d4_151 : decode method_4_code 151 = .ok (.ladd, 1) := by decide +kernel
theorem d4_152 : decode method_4_code 152 = .ok (.lreturn, 1) := by decide +kernel
theorem d5_0 : decode method_5_code 0 = .ok (.iload 8, 2) := by decide +kernel
theorem d5_2 : decode method_5_code 2 = .ok (.iload 5, 2) := by decide +kernel
theorem d5_4 : decode method_5_code 4 = .ok (.if_icmp .ge 34, 3) := by decide +kernel
theorem d5_7 : decode method_5_code 7 = .ok (.iload 9, 2) := by decide +kernel
theorem d5_9 : decode method_5_code 9 = .ok (.iload 6, 2) := by decide +kernel
theorem d5_11 : decode method_5_code 11 = .ok (.if_icmp .lt 27, 3) := by decide +kernel
theorem d5_14 : decode method_5_code 14 = .ok (.iload 9, 2) := by decide +kernel
theorem d5_16 : decode method_5_code 16 = .ok (.iload 7, 2) := by decide +kernel
theorem d5_18 : decode method_5_code 18 = .ok (.if_icmp .ge 20, 3) := by decide +kernel
theorem d5_21 : decode method_5_code 21 = .ok (.lload_n 0, 1) := by decide +kernel
theorem d5_22 : decode method_5_code 22 = .ok (.iload_n 2, 1) := by decide +kernel
theorem d5_23 : decode method_5_code 23 = .ok (.iload_n 3, 1) := by decide +kernel
theorem d5_24 : decode method_5_code 24 = .ok (.iload 8, 2) := by decide +kernel
theorem d5_26 : decode method_5_code 26 = .ok (.iload 4, 2) := by decide +kernel
theorem d5_28 : decode method_5_code 28 = .ok (.imul, 1) := by decide +kernel
theorem d5_29 : decode method_5_code 29 = .ok (.iadd, 1) := by decide +kernel
theorem d5_30 : decode method_5_code 30 = .ok (.iload 9, 2) := by decide +kernel
theorem d5_32 : decode method_5_code 32 = .ok (.iadd, 1) := by decide +kernel
theorem d5_33 : decode method_5_code 33 = .ok (.invokestatic 31, 3) := by decide +kernel
theorem d5_36 : decode method_5_code 36 = .ok (.i2l, 1) := by decide +kernel
theorem d5_37 : decode method_5_code 37 = .ok (.lreturn, 1) := by decide +kernel
theorem d5_38 : decode method_5_code 38 = .ok (.lconst 0, 1) := by decide +kernel
theorem d5_39 : decode method_5_code 39 = .ok (.lreturn, 1) := by decide +kernel
theorem d6_0 : decode method_6_code 0 = .ok (.iload_n 3, 1) := by decide +kernel
theorem d6_1 : decode method_6_code 1 = .ok (.bipush 8, 2) := by decide +kernel
theorem d6_3 : decode method_6_code 3 = .ok (.if_icmp .ge 15, 3) := by decide +kernel
theorem d6_6 : decode method_6_code 6 = .ok (.lload_n 0, 1) := by decide +kernel
theorem d6_7 : decode method_6_code 7 = .ok (.bipush 8, 2) := by decide +kernel
theorem d6_9 : decode method_6_code 9 = .ok (.iload_n 3, 1) := by decide +kernel
theorem d6_10 : decode method_6_code 10 = .ok (.imul, 1) := by decide +kernel
theorem d6_11 : decode method_6_code 11 = .ok (.lushr, 1) := by decide +kernel
theorem d6_12 : decode method_6_code 12 = .ok (.l2i, 1) := by decide +kernel
theorem d6_13 : decode method_6_code 13 = .ok (.sipush 255, 3) := by decide +kernel
theorem d6_16 : decode method_6_code 16 = .ok (.iand, 1) := by decide +kernel
theorem d6_17 : decode method_6_code 17 = .ok (.ireturn, 1) := by decide +kernel
theorem d6_18 : decode method_6_code 18 = .ok (.iload_n 2, 1) := by decide +kernel
theorem d6_19 : decode method_6_code 19 = .ok (.bipush 8, 2) := by decide +kernel
theorem d6_21 : decode method_6_code 21 = .ok (.iload_n 3, 1) := by decide +kernel
theorem d6_22 : decode method_6_code 22 = .ok (.bipush 8, 2) := by decide +kernel
theorem d6_24 : decode method_6_code 24 = .ok (.isub, 1) := by decide +kernel
theorem d6_25 : decode method_6_code 25 = .ok (.imul, 1) := by decide +kernel
theorem d6_26 : decode method_6_code 26 = .ok (.iushr, 1) := by decide +kernel
theorem d6_27 : decode method_6_code 27 = .ok (.sipush 255, 3) := by decide +kernel
theorem d6_30 : decode method_6_code 30 = .ok (.iand, 1) := by decide +kernel
theorem d6_31 : decode method_6_code 31 = .ok (.ireturn, 1) := by decide +kernel
theorem d7_0 : decode method_3_code 0 = .ok (.iconst 4, 1) := by decide +kernel
theorem d7_1 : decode method_3_code 1 = .ok (.iload_n 1, 1) := by decide +kernel
theorem d7_2 : decode method_3_code 2 = .ok (.imul, 1) := by decide +kernel
theorem d7_3 : decode method_3_code 3 = .ok (.istore 10, 2) := by decide +kernel
theorem d7_5 : decode method_3_code 5 = .ok (.iload 4, 2) := by decide +kernel
theorem d7_7 : decode method_3_code 7 = .ok (.ifCond .ne 51, 3) := by decide +kernel
theorem d7_10 : decode method_3_code 10 = .ok (.aload_n 0, 1) := by decide +kernel
theorem d7_11 : decode method_3_code 11 = .ok (.iload 10, 2) := by decide +kernel
theorem d7_13 : decode method_3_code 13 = .ok (.laload, 1) := by decide +kernel
theorem d7_14 : decode method_3_code 14 = .ok (.lload_n 2, 1) := by decide +kernel
theorem d7_15 : decode method_3_code 15 = .ok (.lcmp, 1) := by decide +kernel
theorem d7_16 : decode method_3_code 16 = .ok (.ifCond .ne 40, 3) := by decide +kernel
theorem d7_19 : decode method_3_code 19 = .ok (.aload_n 0, 1) := by decide +kernel
theorem d7_20 : decode method_3_code 20 = .ok (.iload 10, 2) := by decide +kernel
theorem d7_22 : decode method_3_code 22 = .ok (.iconst 1, 1) := by decide +kernel
theorem d7_23 : decode method_3_code 23 = .ok (.iadd, 1) := by decide +kernel
theorem d7_24 : decode method_3_code 24 = .ok (.laload, 1) := by decide +kernel
theorem d7_25 : decode method_3_code 25 = .ok (.lload_n 2, 1) := by decide +kernel
theorem d7_26 : decode method_3_code 26 = .ok (.lcmp, 1) := by decide +kernel
theorem d7_27 : decode method_3_code 27 = .ok (.ifCond .ne 29, 3) := by decide +kernel
theorem d7_30 : decode method_3_code 30 = .ok (.aload_n 0, 1) := by decide +kernel
theorem d7_31 : decode method_3_code 31 = .ok (.iload 10, 2) := by decide +kernel
theorem d7_33 : decode method_3_code 33 = .ok (.iconst 2, 1) := by decide +kernel
theorem d7_34 : decode method_3_code 34 = .ok (.iadd, 1) := by decide +kernel
theorem d7_35 : decode method_3_code 35 = .ok (.laload, 1) := by decide +kernel
theorem d7_36 : decode method_3_code 36 = .ok (.lload_n 2, 1) := by decide +kernel
theorem d7_37 : decode method_3_code 37 = .ok (.lcmp, 1) := by decide +kernel
theorem d7_38 : decode method_3_code 38 = .ok (.ifCond .ne 18, 3) := by decide +kernel
theorem d7_41 : decode method_3_code 41 = .ok (.aload_n 0, 1) := by decide +kernel
theorem d7_42 : decode method_3_code 42 = .ok (.iload 10, 2) := by decide +kernel
theorem d7_44 : decode method_3_code 44 = .ok (.iconst 3, 1) := by decide +kernel
theorem d7_45 : decode method_3_code 45 = .ok (.iadd, 1) := by decide +kernel
theorem d7_46 : decode method_3_code 46 = .ok (.laload, 1) := by decide +kernel
theorem d7_47 : decode method_3_code 47 = .ok (.lload_n 2, 1) := by decide +kernel
theorem d7_48 : decode method_3_code 48 = .ok (.lcmp, 1) := by decide +kernel
theorem d7_49 : decode method_3_code 49 = .ok (.ifCond .ne 7, 3) := by decide +kernel
theorem d7_52 : decode method_3_code 52 = .ok (.iconst 1, 1) := by decide +kernel
theorem d7_53 : decode method_3_code 53 = .ok (.goto 4, 3) := by decide +kernel
theorem d7_57 : decode method_3_code 57 = .ok (.ireturn, 1) := by decide +kernel
theorem d7_58 : decode method_3_code 58 = .ok (.aload_n 0, 1) := by decide +kernel
theorem d7_59 : decode method_3_code 59 = .ok (.iload 10, 2) := by decide +kernel
theorem d7_61 : decode method_3_code 61 = .ok (.laload, 1) := by decide +kernel
theorem d7_62 : decode method_3_code 62 = .ok (.ldc2_w 25, 3) := by decide +kernel
theorem d7_65 : decode method_3_code 65 = .ok (.iload 5, 2) := by decide +kernel
theorem d7_67 : decode method_3_code 67 = .ok (.i2l, 1) := by decide +kernel
theorem d7_68 : decode method_3_code 68 = .ok (.lmul, 1) := by decide +kernel
theorem d7_69 : decode method_3_code 69 = .ok (.iload 7, 2) := by decide +kernel
theorem d7_71 : decode method_3_code 71 = .ok (.iload 6, 2) := by decide +kernel
theorem d7_73 : decode method_3_code 73 = .ok (.isub, 1) := by decide +kernel
theorem d7_74 : decode method_3_code 74 = .ok (.i2l, 1) := by decide +kernel
theorem d7_75 : decode method_3_code 75 = .ok (.lmul, 1) := by decide +kernel
theorem d7_76 : decode method_3_code 76 = .ok (.lcmp, 1) := by decide +kernel
theorem d7_77 : decode method_3_code 77 = .ok (.ifCond .ne 43, 3) := by decide +kernel
theorem d7_80 : decode method_3_code 80 = .ok (.aload_n 0, 1) := by decide +kernel
theorem d7_81 : decode method_3_code 81 = .ok (.iload 10, 2) := by decide +kernel
theorem d7_83 : decode method_3_code 83 = .ok (.iconst 1, 1) := by decide +kernel
theorem d7_84 : decode method_3_code 84 = .ok (.iadd, 1) := by decide +kernel
theorem d7_85 : decode method_3_code 85 = .ok (.laload, 1) := by decide +kernel
theorem d7_86 : decode method_3_code 86 = .ok (.lload 8, 2) := by decide +kernel
theorem d7_88 : decode method_3_code 88 = .ok (.lcmp, 1) := by decide +kernel
theorem d7_89 : decode method_3_code 89 = .ok (.ifCond .ne 31, 3) := by decide +kernel
theorem d7_92 : decode method_3_code 92 = .ok (.aload_n 0, 1) := by decide +kernel
theorem d7_93 : decode method_3_code 93 = .ok (.iload 10, 2) := by decide +kernel
theorem d7_95 : decode method_3_code 95 = .ok (.iconst 2, 1) := by decide +kernel
theorem d7_96 : decode method_3_code 96 = .ok (.iadd, 1) := by decide +kernel
theorem d7_97 : decode method_3_code 97 = .ok (.laload, 1) := by decide +kernel
theorem d7_98 : decode method_3_code 98 = .ok (.lload 8, 2) := by decide +kernel
theorem d7_100 : decode method_3_code 100 = .ok (.lcmp, 1) := by decide +kernel
theorem d7_101 : decode method_3_code 101 = .ok (.ifCond .ne 19, 3) := by decide +kernel
theorem d7_104 : decode method_3_code 104 = .ok (.aload_n 0, 1) := by decide +kernel
theorem d7_105 : decode method_3_code 105 = .ok (.iload 10, 2) := by decide +kernel
theorem d7_107 : decode method_3_code 107 = .ok (.iconst 3, 1) := by decide +kernel
theorem d7_108 : decode method_3_code 108 = .ok (.iadd, 1) := by decide +kernel
theorem d7_109 : decode method_3_code 109 = .ok (.laload, 1) := by decide +kernel
theorem d7_110 : decode method_3_code 110 = .ok (.lload 8, 2) := by decide +kernel
theorem d7_112 : decode method_3_code 112 = .ok (.lcmp, 1) := by decide +kernel
theorem d7_113 : decode method_3_code 113 = .ok (.ifCond .ne 7, 3) := by decide +kernel
theorem d7_116 : decode method_3_code 116 = .ok (.iconst 1, 1) := by decide +kernel
theorem d7_117 : decode method_3_code 117 = .ok (.goto 4, 3) := by decide +kernel
theorem d7_121 : decode method_3_code 121 = .ok (.ireturn, 1) := by decide +kernel
def own_smp (a : Int64) (b i : Int32) : Int32 := if i < 8 then (XT.ushrL a (8 * i)).toInt32 &&& 255 else XT.ushr b (8 * (i - 8)) &&& 255
def own_cell (a : Int64) (b ofs strd nrow fr to r c' : Int32) : Int64 := if r < nrow ∧ ¬ c' < fr ∧ c' < to then (own_smp a b (ofs + r * strd + c')).toInt64 else 0
def own_lvl (a : Int64) (b ofs strd nrow fr to : Int32) : Int64 := own_cell a b ofs strd nrow fr to 0 0 + own_cell a b ofs strd nrow fr to 0 1 + own_cell a b ofs strd nrow fr to 0 2 + own_cell a b ofs strd nrow fr to 1 0 + own_cell a b ofs strd nrow fr to 1 1 + own_cell a b ofs strd nrow fr to 1 2 + own_cell a b ofs strd nrow fr to 2 0 + own_cell a b ofs strd nrow fr to 2 1 + own_cell a b ofs strd nrow fr to 2 2
def own_row (f : Nat → Int32) : Nat → Nat → Int64 → Int64
  | _, 0, x => x
  | p, n + 1, x => own_row f (p + 1) n (x + (f p &&& 255).toInt64)
def own_blk (f : Nat → Int32) (S len : Nat) : Nat → Nat → Int64 → Int64
  | _, 0, x => x
  | p, n + 1, x => own_blk f S len (p + S) n (own_row f p len x)
theorem own_sub (x y : Int32) (h0 : 0 ≤ x.toInt) (h1 : 0 ≤ y.toInt) : (x - y).toInt = x.toInt - y.toInt := by
  have e := c_isub x y; have r := rng32 (x - y); have r1 := rng32 x; have r2 := rng32 y; omega
theorem own_add (x y : Int32) (h0 : 0 ≤ x.toInt) (h1 : 0 ≤ y.toInt) (h2 : x.toInt + y.toInt < 2147483648) : (x + y).toInt = x.toInt + y.toInt := by
  have e := c_iadd x y; have r := rng32 (x + y); omega
theorem own_mul (x y : Int32) (a b : Nat) (hx : x.toInt = (a : Int)) (hy : y.toInt = (b : Int)) (h : a * b < 2147483648) : (x * y).toInt = ((a * b : Nat) : Int) := by
  have e := c_imul x y
  have r := rng32 (x * y)
  rw [hx, hy, ← Int.natCast_mul] at e
  omega
theorem ef_rm_init (m : MethodId) (x0 : Addr)  : entryFrame m #[(.ref x0)] 1 = mkF m 0 #[.val (.ref x0)] [] := by first | (simp [entryFrame, mkF, argsToLocals, Value.category]; done) | rfl
theorem pn_1 : plainFor (⟨"com/example/scanstride/scanstride/JpegSurface$Grey", "<init>", "()V"⟩ : MethodName) = true := by first | exact plainFor_of_name (by first | (simp [plainName, overriddenIn]; done) | decide +kernel) | decide +kernel
set_option maxRecDepth 65536 in
set_option maxHeartbeats 40000000 in
theorem rm_init (l : Launch) (Z : State) (a0 : Array Value) (hw : ∀ d ∈ tables_1, d.before a0 Z = true) (a : Addr) (h0 : Heap) :
    Ctr l Z (⟨"com/example/scanstride/scanstride/JpegSurface$Grey", "<init>", "()V"⟩ : MethodName) prog_39_method_1_code 1 (Option.none : Option FieldType) [] ({ frames := 1, cells := 0, slots := 0, locals := 12 } : Room) ({ frames := 1, cells := 0, slots := 0, locals := 12 } : Room).cells ({ frames := 1, cells := 0, slots := 0, locals := 12 } : Room).slots #[(.ref a)] h0 (fun v h L => v = none ∧ L = [] ∧ h = h0) := by
  refine Ctr.of pn_1 ?_
  intro p e s m below meth c s₁ hx hby hml hown hnm hret hlk hZ X0 e0
  refine Goes.cast (ef_rm_init m a) ?_
  refine g_aload_n (i := 0) X0 hx (hb hby d1_0) (by rfl) rfl rfl ?_
  refine g_initO X0 hx hZ hown (wd hw 10 rfl) (wd hw 11 rfl) (wd hw 12 rfl) e0 (by rw [hml]; rfl) (hb hby d1_1) rfl (by decide) (by decide) ?_
  intro T2 X2 e2
  exact g_ret X2 hx hlk hret e2 (by decide) (by decide) (hb hby d1_4) ⟨rfl, rfl, rfl⟩
theorem ef_rm_smp (m : MethodId) (x0 : Int64) (x1 : Int32) (x2 : Int32)  : entryFrame m #[(.long x0), (.int x1), (.int x2)] 4 = mkF m 0 #[.val (.long x0), .second, .val (.int x1), .val (.int x2)] [] := by first | (simp [entryFrame, mkF, argsToLocals, Value.category]; done) | rfl
theorem pn_3 : plainFor (⟨"com/example/scanstride/scanstride/GreySumRunsPinLaw", "sample", "(JII)I"⟩ : MethodName) = true := by first | exact plainFor_of_name (by first | (simp [plainName, overriddenIn]; done) | decide +kernel) | decide +kernel
set_option maxRecDepth 65536 in
set_option maxHeartbeats 40000000 in
theorem rm_smp (l : Launch) (Z : State) (a0 : Array Value) (hw : ∀ d ∈ tables_1, d.before a0 Z = true) (a : Int64) (b i : Int32) (h0 : Heap) :
    Ctr l Z (⟨"com/example/scanstride/scanstride/GreySumRunsPinLaw", "sample", "(JII)I"⟩ : MethodName) method_6_code 4 (Option.some FieldType.int) [] ({ frames := 0, cells := 0, slots := 0, locals := 0 } : Room) ({ frames := 0, cells := 0, slots := 0, locals := 0 } : Room).cells ({ frames := 0, cells := 0, slots := 0, locals := 0 } : Room).slots #[(.long a), (.int b), (.int i)] h0 (fun v h L => v = some (.int (own_smp a b i)) ∧ L = [] ∧ h = h0) := by
  refine Ctr.of pn_3 ?_
  intro p e s m below meth c s₁ hx hby hml hown hnm hret hlk hZ X0 e0
  refine Goes.cast (ef_rm_smp m a b i) ?_
  refine g_iload_n (i := 3) X0 hx (hb hby d6_0) (by rfl) rfl ?_
  refine g_bipush (v := (8 : Int32)) X0 hx (hb hby d6_1) (by decide) rfl ?_
  refine g_icmp_ge X0 hx (hb hby d6_3) (by decide) (pt := 18) (by decide) rfl (fun q4 => ?_) (fun q4 => ?_)
  · refine g_iload_n (i := 2) X0 hx (hb hby d6_18) (by rfl) rfl ?_
    refine g_bipush (v := (8 : Int32)) X0 hx (hb hby d6_19) (by decide) rfl ?_
    refine g_iload_n (i := 3) X0 hx (hb hby d6_21) (by rfl) rfl ?_
    refine g_bipush (v := (8 : Int32)) X0 hx (hb hby d6_22) (by decide) rfl ?_
    refine g_isub X0 hx (hb hby d6_24) rfl ?_
    refine g_imul X0 hx (hb hby d6_25) rfl ?_
    refine g_iushr X0 hx (hb hby d6_26) rfl ?_
    refine g_sipush (v := (255 : Int32)) X0 hx (hb hby d6_27) (by decide) rfl ?_
    refine g_iand X0 hx (hb hby d6_30) rfl ?_
    exact g_retI X0 hx hlk hret e0 (by decide) (by decide) (hb hby d6_31) ⟨by first | (simp [own_smp, q4]; done) | (exfalso; revert q4; simp +contextual; done), rfl, rfl⟩
  · refine g_lload_n (i := 0) X0 hx (hb hby d6_6) (by rfl) rfl ?_
    refine g_bipush (v := (8 : Int32)) X0 hx (hb hby d6_7) (by decide) rfl ?_
    refine g_iload_n (i := 3) X0 hx (hb hby d6_9) (by rfl) rfl ?_
    refine g_imul X0 hx (hb hby d6_10) rfl ?_
    refine g_lushr X0 hx (hb hby d6_11) rfl ?_
    refine g_l2i X0 hx (hb hby d6_12) rfl ?_
    refine g_sipush (v := (255 : Int32)) X0 hx (hb hby d6_13) (by decide) rfl ?_
    refine g_iand X0 hx (hb hby d6_16) rfl ?_
    exact g_retI X0 hx hlk hret e0 (by decide) (by decide) (hb hby d6_17) ⟨by first | (simp [own_smp, q4]; done) | (exfalso; revert q4; simp +contextual; done), rfl, rfl⟩
theorem ef_rm_cell (m : MethodId) (x0 : Int64) (x1 : Int32) (x2 : Int32) (x3 : Int32) (x4 : Int32) (x5 : Int32) (x6 : Int32) (x7 : Int32) (x8 : Int32)  : entryFrame m #[(.long x0), (.int x1), (.int x2), (.int x3), (.int x4), (.int x5), (.int x6), (.int x7), (.int x8)] 10 = mkF m 0 #[.val (.long x0), .second, .val (.int x1), .val (.int x2), .val (.int x3), .val (.int x4), .val (.int x5), .val (.int x6), .val (.int x7), .val (.int x8)] [] := by first | (simp [entryFrame, mkF, argsToLocals, Value.category]; done) | rfl
theorem pn_5 : plainFor (⟨"com/example/scanstride/scanstride/GreySumRunsPinLaw", "cell", "(JIIIIIIII)J"⟩ : MethodName) = true := by first | exact plainFor_of_name (by first | (simp [plainName, overriddenIn]; done) | decide +kernel) | decide +kernel
theorem pd_9 : parseMethodDescriptor "(JII)I" = some ⟨[.long, .int, .int], some .int⟩ := by decide +kernel
set_option maxRecDepth 65536 in
set_option maxHeartbeats 40000000 in
theorem rm_cell (l : Launch) (Z : State) (a0 : Array Value) (hw : ∀ d ∈ tables_1, d.before a0 Z = true) (a : Int64) (b ofs strd nrow fr to r c' : Int32) (h0 : Heap) :
    Ctr l Z (⟨"com/example/scanstride/scanstride/GreySumRunsPinLaw", "cell", "(JIIIIIIII)J"⟩ : MethodName) method_5_code 10 (Option.some FieldType.long) [] ({ frames := 1, cells := 0, slots := 0, locals := 15 } : Room) ({ frames := 1, cells := 0, slots := 0, locals := 15 } : Room).cells ({ frames := 1, cells := 0, slots := 0, locals := 15 } : Room).slots #[(.long a), (.int b), (.int ofs), (.int strd), (.int nrow), (.int fr), (.int to), (.int r), (.int c')] h0 (fun v h L => v = some (.long (own_cell a b ofs strd nrow fr to r c')) ∧ L = [] ∧ h = h0) := by
  refine Ctr.of pn_5 ?_
  intro p e s m below meth c s₁ hx hby hml hown hnm hret hlk hZ X0 e0
  refine Goes.cast (ef_rm_cell m a b ofs strd nrow fr to r c') ?_
  refine g_iload (i := 8) X0 hx (hb hby d5_0) (by rfl) rfl ?_
  refine g_iload (i := 5) X0 hx (hb hby d5_2) (by rfl) rfl ?_
  refine g_icmp_ge X0 hx (hb hby d5_4) (by decide) (pt := 38) (by decide) rfl (fun q6 => ?_) (fun q6 => ?_)
  · refine g_lconst (v := (0 : Int64)) X0 hx (hb hby d5_38) (by decide) rfl ?_
    exact g_retJ X0 hx hlk hret e0 (by decide) (by decide) (hb hby d5_39) ⟨by first | (simp [own_cell, q6]; done) | (exfalso; revert q6; simp +contextual; done), rfl, rfl⟩
  · refine g_iload (i := 9) X0 hx (hb hby d5_7) (by rfl) rfl ?_
    refine g_iload (i := 6) X0 hx (hb hby d5_9) (by rfl) rfl ?_
    refine g_icmp_lt X0 hx (hb hby d5_11) (by decide) (pt := 38) (by decide) rfl (fun q7 => ?_) (fun q7 => ?_)
    · refine g_lconst (v := (0 : Int64)) X0 hx (hb hby d5_38) (by decide) rfl ?_
      exact g_retJ X0 hx hlk hret e0 (by decide) (by decide) (hb hby d5_39) ⟨by first | (simp [own_cell, q6, q7]; done) | (exfalso; revert q6 q7; simp +contextual; done), rfl, rfl⟩
    · refine g_iload (i := 9) X0 hx (hb hby d5_14) (by rfl) rfl ?_
      refine g_iload (i := 7) X0 hx (hb hby d5_16) (by rfl) rfl ?_
      refine g_icmp_ge X0 hx (hb hby d5_18) (by decide) (pt := 38) (by decide) rfl (fun q8 => ?_) (fun q8 => ?_)
      · refine g_lconst (v := (0 : Int64)) X0 hx (hb hby d5_38) (by decide) rfl ?_
        exact g_retJ X0 hx hlk hret e0 (by decide) (by decide) (hb hby d5_39) ⟨by first | (simp [own_cell, q6, q7, q8]; done) | (exfalso; revert q6 q7 q8; simp +contextual; done), rfl, rfl⟩
      · refine g_lload_n (i := 0) X0 hx (hb hby d5_21) (by rfl) rfl ?_
        refine g_iload_n (i := 2) X0 hx (hb hby d5_22) (by rfl) rfl ?_
        refine g_iload_n (i := 3) X0 hx (hb hby d5_23) (by rfl) rfl ?_
        refine g_iload (i := 8) X0 hx (hb hby d5_24) (by rfl) rfl ?_
        refine g_iload (i := 4) X0 hx (hb hby d5_26) (by rfl) rfl ?_
        refine g_imul X0 hx (hb hby d5_28) rfl ?_
        refine g_iadd X0 hx (hb hby d5_29) rfl ?_
        refine g_iload (i := 9) X0 hx (hb hby d5_30) (by rfl) rfl ?_
        refine g_iadd X0 hx (hb hby d5_32) rfl ?_
        refine g_callS X0 hx hZ hown (wd hw 26 rfl) (wd hw 27 rfl) (wd hw 21 rfl) (wd hw 28 rfl) (by decide) e0 (rm_smp l Z a0 hw a b (ofs + r * strd + c') h0) (by rw [hml]; rfl) [(.long a), (.int b), (.int ((ofs + (r * strd)) + c'))] [] rfl (lenOf pd_9 rfl) rfl (by show 0 + (4 + 11) + 0 ≤ _; decide) (by decide) (by decide) (by decide) (hb hby d5_33) rfl ?_
        intro T9 v9 L9 X9 hQ9
        obtain ⟨rfl, rfl, e9⟩ := hQ9
        show Goes p e below _ T9 (mkF m 36 #[.val (.long a), .second, .val (.int b), .val (.int ofs), .val (.int strd), .val (.int nrow), .val (.int fr), .val (.int to), .val (.int r), .val (.int c')] [(.int (own_smp a b (ofs + r * strd + c')))])
        refine g_i2l X9 hx (hb hby d5_36) rfl ?_
        exact g_retJ X9 hx hlk hret e9 (by decide) (by decide) (hb hby d5_37) ⟨by first | (simp [own_cell, q6, q7, q8]; done) | (exfalso; revert q6 q7 q8; simp +contextual; done), rfl, rfl⟩
theorem ef_rm_lvl (m : MethodId) (x0 : Int64) (x1 : Int32) (x2 : Int32) (x3 : Int32) (x4 : Int32) (x5 : Int32) (x6 : Int32)  : entryFrame m #[(.long x0), (.int x1), (.int x2), (.int x3), (.int x4), (.int x5), (.int x6)] 8 = mkF m 0 #[.val (.long x0), .second, .val (.int x1), .val (.int x2), .val (.int x3), .val (.int x4), .val (.int x5), .val (.int x6)] [] := by first | (simp [entryFrame, mkF, argsToLocals, Value.category]; done) | rfl
theorem pn_10 : plainFor (⟨"com/example/scanstride/scanstride/GreySumRunsPinLaw", "level", "(JIIIIII)J"⟩ : MethodName) = true := by first | exact plainFor_of_name (by first | (simp [plainName, overriddenIn]; done) | decide +kernel) | decide +kernel
theorem pd_11 : parseMethodDescriptor "(JIIIIIIII)J" = some ⟨[.long, .int, .int, .int, .int, .int, .int, .int, .int], some .long⟩ := by decide +kernel
set_option maxRecDepth 65536 in
set_option maxHeartbeats 40000000 in
theorem rm_lvl (l : Launch) (Z : State) (a0 : Array Value) (hw : ∀ d ∈ tables_1, d.before a0 Z = true) (a : Int64) (b ofs strd nrow fr to : Int32) (h0 : Heap) :
    Ctr l Z (⟨"com/example/scanstride/scanstride/GreySumRunsPinLaw", "level", "(JIIIIII)J"⟩ : MethodName) method_4_code 8 (Option.some FieldType.long) [] ({ frames := 2, cells := 0, slots := 0, locals := 38 } : Room) ({ frames := 2, cells := 0, slots := 0, locals := 38 } : Room).cells ({ frames := 2, cells := 0, slots := 0, locals := 38 } : Room).slots #[(.long a), (.int b), (.int ofs), (.int strd), (.int nrow), (.int fr), (.int to)] h0 (fun v h L => v = some (.long (own_lvl a b ofs strd nrow fr to)) ∧ L = [] ∧ h = h0) := by
  refine Ctr.of pn_10 ?_
  intro p e s m below meth c s₁ hx hby hml hown hnm hret hlk hZ X0 e0
  refine Goes.cast (ef_rm_lvl m a b ofs strd nrow fr to) ?_
  refine g_lload_n (i := 0) X0 hx (hb hby d4_0) (by rfl) rfl ?_
  refine g_iload_n (i := 2) X0 hx (hb hby d4_1) (by rfl) rfl ?_
  refine g_iload_n (i := 3) X0 hx (hb hby d4_2) (by rfl) rfl ?_
  refine g_iload (i := 4) X0 hx (hb hby d4_3) (by rfl) rfl ?_
  refine g_iload (i := 5) X0 hx (hb hby d4_5) (by rfl) rfl ?_
  refine g_iload (i := 6) X0 hx (hb hby d4_7) (by rfl) rfl ?_
  refine g_iload (i := 7) X0 hx (hb hby d4_9) (by rfl) rfl ?_
  refine g_iconst (v := (0 : Int32)) X0 hx (hb hby d4_11) (by decide) rfl ?_
  refine g_iconst (v := (0 : Int32)) X0 hx (hb hby d4_12) (by decide) rfl ?_
  refine g_callS X0 hx hZ hown (wd hw 23 rfl) (wd hw 24 rfl) (wd hw 21 rfl) (wd hw 25 rfl) (by decide) e0 (rm_cell l Z a0 hw a b ofs strd nrow fr to (0 : Int32) (0 : Int32) h0) (by rw [hml]; rfl) [(.long a), (.int b), (.int ofs), (.int strd), (.int nrow), (.int fr), (.int to), (.int (0 : Int32)), (.int (0 : Int32))] [] rfl (lenOf pd_11 rfl) rfl (by show 0 + (10 + 11) + 15 ≤ _; decide) (by decide) (by decide) (by decide) (hb hby d4_13) rfl ?_
  intro T11 v11 L11 X11 hQ11
  obtain ⟨rfl, rfl, e11⟩ := hQ11
  show Goes p e below _ T11 (mkF m 16 #[.val (.long a), .second, .val (.int b), .val (.int ofs), .val (.int strd), .val (.int nrow), .val (.int fr), .val (.int to)] [(.long (own_cell a b ofs strd nrow fr to 0 0))])
  refine g_lload_n (i := 0) X11 hx (hb hby d4_16) (by rfl) rfl ?_
  refine g_iload_n (i := 2) X11 hx (hb hby d4_17) (by rfl) rfl ?_
  refine g_iload_n (i := 3) X11 hx (hb hby d4_18) (by rfl) rfl ?_
  refine g_iload (i := 4) X11 hx (hb hby d4_19) (by rfl) rfl ?_
  refine g_iload (i := 5) X11 hx (hb hby d4_21) (by rfl) rfl ?_
  refine g_iload (i := 6) X11 hx (hb hby d4_23) (by rfl) rfl ?_
  refine g_iload (i := 7) X11 hx (hb hby d4_25) (by rfl) rfl ?_
  refine g_iconst (v := (0 : Int32)) X11 hx (hb hby d4_27) (by decide) rfl ?_
  refine g_iconst (v := (1 : Int32)) X11 hx (hb hby d4_28) (by decide) rfl ?_
  refine g_callS X11 hx hZ hown (wd hw 23 rfl) (wd hw 24 rfl) (wd hw 21 rfl) (wd hw 25 rfl) (by decide) e11 (rm_cell l Z a0 hw a b ofs strd nrow fr to (0 : Int32) (1 : Int32) h0) (by rw [hml]; rfl) [(.long a), (.int b), (.int ofs), (.int strd), (.int nrow), (.int fr), (.int to), (.int (0 : Int32)), (.int (1 : Int32))] [(.long (own_cell a b ofs strd nrow fr to 0 0))] rfl (lenOf pd_11 rfl) rfl (by show 2 + (10 + 11) + 15 ≤ _; decide) (by decide) (by decide) (by decide) (hb hby d4_29) rfl ?_
  intro T12 v12 L12 X12 hQ12
  obtain ⟨rfl, rfl, e12⟩ := hQ12
  show Goes p e below _ T12 (mkF m 32 #[.val (.long a), .second, .val (.int b), .val (.int ofs), .val (.int strd), .val (.int nrow), .val (.int fr), .val (.int to)] [(.long (own_cell a b ofs strd nrow fr to 0 1)), (.long (own_cell a b ofs strd nrow fr to 0 0))])
  refine g_ladd X12 hx (hb hby d4_32) rfl ?_
  refine g_lload_n (i := 0) X12 hx (hb hby d4_33) (by rfl) rfl ?_
  refine g_iload_n (i := 2) X12 hx (hb hby d4_34) (by rfl) rfl ?_
  refine g_iload_n (i := 3) X12 hx (hb hby d4_35) (by rfl) rfl ?_
  refine g_iload (i := 4) X12 hx (hb hby d4_36) (by rfl) rfl ?_
  refine g_iload (i := 5) X12 hx (hb hby d4_38) (by rfl) rfl ?_
  refine g_iload (i := 6) X12 hx (hb hby d4_40) (by rfl) rfl ?_
  refine g_iload (i := 7) X12 hx (hb hby d4_42) (by rfl) rfl ?_
  refine g_iconst (v := (0 : Int32)) X12 hx (hb hby d4_44) (by decide) rfl ?_
  refine g_iconst (v := (2 : Int32)) X12 hx (hb hby d4_45) (by decide) rfl ?_
  refine g_callS X12 hx hZ hown (wd hw 23 rfl) (wd hw 24 rfl) (wd hw 21 rfl) (wd hw 25 rfl) (by decide) e12 (rm_cell l Z a0 hw a b ofs strd nrow fr to (0 : Int32) (2 : Int32) h0) (by rw [hml]; rfl) [(.long a), (.int b), (.int ofs), (.int strd), (.int nrow), (.int fr), (.int to), (.int (0 : Int32)), (.int (2 : Int32))] [(.long ((own_cell a b ofs strd nrow fr to 0 0) + (own_cell a b ofs strd nrow fr to 0 1)))] rfl (lenOf pd_11 rfl) rfl (by show 2 + (10 + 11) + 15 ≤ _; decide) (by decide) (by decide) (by decide) (hb hby d4_46) rfl ?_
  intro T13 v13 L13 X13 hQ13
  obtain ⟨rfl, rfl, e13⟩ := hQ13
  show Goes p e below _ T13 (mkF m 49 #[.val (.long a), .second, .val (.int b), .val (.int ofs), .val (.int strd), .val (.int nrow), .val (.int fr), .val (.int to)] [(.long (own_cell a b ofs strd nrow fr to 0 2)), (.long ((own_cell a b ofs strd nrow fr to 0 0) + (own_cell a b ofs strd nrow fr to 0 1)))])
  refine g_ladd X13 hx (hb hby d4_49) rfl ?_
  refine g_lload_n (i := 0) X13 hx (hb hby d4_50) (by rfl) rfl ?_
  refine g_iload_n (i := 2) X13 hx (hb hby d4_51) (by rfl) rfl ?_
  refine g_iload_n (i := 3) X13 hx (hb hby d4_52) (by rfl) rfl ?_
  refine g_iload (i := 4) X13 hx (hb hby d4_53) (by rfl) rfl ?_
  refine g_iload (i := 5) X13 hx (hb hby d4_55) (by rfl) rfl ?_
  refine g_iload (i := 6) X13 hx (hb hby d4_57) (by rfl) rfl ?_
  refine g_iload (i := 7) X13 hx (hb hby d4_59) (by rfl) rfl ?_
  refine g_iconst (v := (1 : Int32)) X13 hx (hb hby d4_61) (by decide) rfl ?_
  refine g_iconst (v := (0 : Int32)) X13 hx (hb hby d4_62) (by decide) rfl ?_
  refine g_callS X13 hx hZ hown (wd hw 23 rfl) (wd hw 24 rfl) (wd hw 21 rfl) (wd hw 25 rfl) (by decide) e13 (rm_cell l Z a0 hw a b ofs strd nrow fr to (1 : Int32) (0 : Int32) h0) (by rw [hml]; rfl) [(.long a), (.int b), (.int ofs), (.int strd), (.int nrow), (.int fr), (.int to), (.int (1 : Int32)), (.int (0 : Int32))] [(.long (((own_cell a b ofs strd nrow fr to 0 0) + (own_cell a b ofs strd nrow fr to 0 1)) + (own_cell a b ofs strd nrow fr to 0 2)))] rfl (lenOf pd_11 rfl) rfl (by show 2 + (10 + 11) + 15 ≤ _; decide) (by decide) (by decide) (by decide) (hb hby d4_63) rfl ?_
  intro T14 v14 L14 X14 hQ14
  obtain ⟨rfl, rfl, e14⟩ := hQ14
  show Goes p e below _ T14 (mkF m 66 #[.val (.long a), .second, .val (.int b), .val (.int ofs), .val (.int strd), .val (.int nrow), .val (.int fr), .val (.int to)] [(.long (own_cell a b ofs strd nrow fr to 1 0)), (.long (((own_cell a b ofs strd nrow fr to 0 0) + (own_cell a b ofs strd nrow fr to 0 1)) + (own_cell a b ofs strd nrow fr to 0 2)))])
  refine g_ladd X14 hx (hb hby d4_66) rfl ?_
  refine g_lload_n (i := 0) X14 hx (hb hby d4_67) (by rfl) rfl ?_
  refine g_iload_n (i := 2) X14 hx (hb hby d4_68) (by rfl) rfl ?_
  refine g_iload_n (i := 3) X14 hx (hb hby d4_69) (by rfl) rfl ?_
  refine g_iload (i := 4) X14 hx (hb hby d4_70) (by rfl) rfl ?_
  refine g_iload (i := 5) X14 hx (hb hby d4_72) (by rfl) rfl ?_
  refine g_iload (i := 6) X14 hx (hb hby d4_74) (by rfl) rfl ?_
  refine g_iload (i := 7) X14 hx (hb hby d4_76) (by rfl) rfl ?_
  refine g_iconst (v := (1 : Int32)) X14 hx (hb hby d4_78) (by decide) rfl ?_
  refine g_iconst (v := (1 : Int32)) X14 hx (hb hby d4_79) (by decide) rfl ?_
  refine g_callS X14 hx hZ hown (wd hw 23 rfl) (wd hw 24 rfl) (wd hw 21 rfl) (wd hw 25 rfl) (by decide) e14 (rm_cell l Z a0 hw a b ofs strd nrow fr to (1 : Int32) (1 : Int32) h0) (by rw [hml]; rfl) [(.long a), (.int b), (.int ofs), (.int strd), (.int nrow), (.int fr), (.int to), (.int (1 : Int32)), (.int (1 : Int32))] [(.long ((((own_cell a b ofs strd nrow fr to 0 0) + (own_cell a b ofs strd nrow fr to 0 1)) + (own_cell a b ofs strd nrow fr to 0 2)) + (own_cell a b ofs strd nrow fr to 1 0)))] rfl (lenOf pd_11 rfl) rfl (by show 2 + (10 + 11) + 15 ≤ _; decide) (by decide) (by decide) (by decide) (hb hby d4_80) rfl ?_
  intro T15 v15 L15 X15 hQ15
  obtain ⟨rfl, rfl, e15⟩ := hQ15
  show Goes p e below _ T15 (mkF m 83 #[.val (.long a), .second, .val (.int b), .val (.int ofs), .val (.int strd), .val (.int nrow), .val (.int fr), .val (.int to)] [(.long (own_cell a b ofs strd nrow fr to 1 1)), (.long ((((own_cell a b ofs strd nrow fr to 0 0) + (own_cell a b ofs strd nrow fr to 0 1)) + (own_cell a b ofs strd nrow fr to 0 2)) + (own_cell a b ofs strd nrow fr to 1 0)))])
  refine g_ladd X15 hx (hb hby d4_83) rfl ?_
  refine g_lload_n (i := 0) X15 hx (hb hby d4_84) (by rfl) rfl ?_
  refine g_iload_n (i := 2) X15 hx (hb hby d4_85) (by rfl) rfl ?_
  refine g_iload_n (i := 3) X15 hx (hb hby d4_86) (by rfl) rfl ?_
  refine g_iload (i := 4) X15 hx (hb hby d4_87) (by rfl) rfl ?_
  refine g_iload (i := 5) X15 hx (hb hby d4_89) (by rfl) rfl ?_
  refine g_iload (i := 6) X15 hx (hb hby d4_91) (by rfl) rfl ?_
  refine g_iload (i := 7) X15 hx (hb hby d4_93) (by rfl) rfl ?_
  refine g_iconst (v := (1 : Int32)) X15 hx (hb hby d4_95) (by decide) rfl ?_
  refine g_iconst (v := (2 : Int32)) X15 hx (hb hby d4_96) (by decide) rfl ?_
  refine g_callS X15 hx hZ hown (wd hw 23 rfl) (wd hw 24 rfl) (wd hw 21 rfl) (wd hw 25 rfl) (by decide) e15 (rm_cell l Z a0 hw a b ofs strd nrow fr to (1 : Int32) (2 : Int32) h0) (by rw [hml]; rfl) [(.long a), (.int b), (.int ofs), (.int strd), (.int nrow), (.int fr), (.int to), (.int (1 : Int32)), (.int (2 : Int32))] [(.long (((((own_cell a b ofs strd nrow fr to 0 0) + (own_cell a b ofs strd nrow fr to 0 1)) + (own_cell a b ofs strd nrow fr to 0 2)) + (own_cell a b ofs strd nrow fr to 1 0)) + (own_cell a b ofs strd nrow fr to 1 1)))] rfl (lenOf pd_11 rfl) rfl (by show 2 + (10 + 11) + 15 ≤ _; decide) (by decide) (by decide) (by decide) (hb hby d4_97) rfl ?_
  intro T16 v16 L16 X16 hQ16
  obtain ⟨rfl, rfl, e16⟩ := hQ16
  show Goes p e below _ T16 (mkF m 100 #[.val (.long a), .second, .val (.int b), .val (.int ofs), .val (.int strd), .val (.int nrow), .val (.int fr), .val (.int to)] [(.long (own_cell a b ofs strd nrow fr to 1 2)), (.long (((((own_cell a b ofs strd nrow fr to 0 0) + (own_cell a b ofs strd nrow fr to 0 1)) + (own_cell a b ofs strd nrow fr to 0 2)) + (own_cell a b ofs strd nrow fr to 1 0)) + (own_cell a b ofs strd nrow fr to 1 1)))])
  refine g_ladd X16 hx (hb hby d4_100) rfl ?_
  refine g_lload_n (i := 0) X16 hx (hb hby d4_101) (by rfl) rfl ?_
  refine g_iload_n (i := 2) X16 hx (hb hby d4_102) (by rfl) rfl ?_
  refine g_iload_n (i := 3) X16 hx (hb hby d4_103) (by rfl) rfl ?_
  refine g_iload (i := 4) X16 hx (hb hby d4_104) (by rfl) rfl ?_
  refine g_iload (i := 5) X16 hx (hb hby d4_106) (by rfl) rfl ?_
  refine g_iload (i := 6) X16 hx (hb hby d4_108) (by rfl) rfl ?_
  refine g_iload (i := 7) X16 hx (hb hby d4_110) (by rfl) rfl ?_
  refine g_iconst (v := (2 : Int32)) X16 hx (hb hby d4_112) (by decide) rfl ?_
  refine g_iconst (v := (0 : Int32)) X16 hx (hb hby d4_113) (by decide) rfl ?_
  refine g_callS X16 hx hZ hown (wd hw 23 rfl) (wd hw 24 rfl) (wd hw 21 rfl) (wd hw 25 rfl) (by decide) e16 (rm_cell l Z a0 hw a b ofs strd nrow fr to (2 : Int32) (0 : Int32) h0) (by rw [hml]; rfl) [(.long a), (.int b), (.int ofs), (.int strd), (.int nrow), (.int fr), (.int to), (.int (2 : Int32)), (.int (0 : Int32))] [(.long ((((((own_cell a b ofs strd nrow fr to 0 0) + (own_cell a b ofs strd nrow fr to 0 1)) + (own_cell a b ofs strd nrow fr to 0 2)) + (own_cell a b ofs strd nrow fr to 1 0)) + (own_cell a b ofs strd nrow fr to 1 1)) + (own_cell a b ofs strd nrow fr to 1 2)))] rfl (lenOf pd_11 rfl) rfl (by show 2 + (10 + 11) + 15 ≤ _; decide) (by decide) (by decide) (by decide) (hb hby d4_114) rfl ?_
  intro T17 v17 L17 X17 hQ17
  obtain ⟨rfl, rfl, e17⟩ := hQ17
  show Goes p e below _ T17 (mkF m 117 #[.val (.long a), .second, .val (.int b), .val (.int ofs), .val (.int strd), .val (.int nrow), .val (.int fr), .val (.int to)] [(.long (own_cell a b ofs strd nrow fr to 2 0)), (.long ((((((own_cell a b ofs strd nrow fr to 0 0) + (own_cell a b ofs strd nrow fr to 0 1)) + (own_cell a b ofs strd nrow fr to 0 2)) + (own_cell a b ofs strd nrow fr to 1 0)) + (own_cell a b ofs strd nrow fr to 1 1)) + (own_cell a b ofs strd nrow fr to 1 2)))])
  refine g_ladd X17 hx (hb hby d4_117) rfl ?_
  refine g_lload_n (i := 0) X17 hx (hb hby d4_118) (by rfl) rfl ?_
  refine g_iload_n (i := 2) X17 hx (hb hby d4_119) (by rfl) rfl ?_
  refine g_iload_n (i := 3) X17 hx (hb hby d4_120) (by rfl) rfl ?_
  refine g_iload (i := 4) X17 hx (hb hby d4_121) (by rfl) rfl ?_
  refine g_iload (i := 5) X17 hx (hb hby d4_123) (by rfl) rfl ?_
  refine g_iload (i := 6) X17 hx (hb hby d4_125) (by rfl) rfl ?_
  refine g_iload (i := 7) X17 hx (hb hby d4_127) (by rfl) rfl ?_
  refine g_iconst (v := (2 : Int32)) X17 hx (hb hby d4_129) (by decide) rfl ?_
  refine g_iconst (v := (1 : Int32)) X17 hx (hb hby d4_130) (by decide) rfl ?_
  refine g_callS X17 hx hZ hown (wd hw 23 rfl) (wd hw 24 rfl) (wd hw 21 rfl) (wd hw 25 rfl) (by decide) e17 (rm_cell l Z a0 hw a b ofs strd nrow fr to (2 : Int32) (1 : Int32) h0) (by rw [hml]; rfl) [(.long a), (.int b), (.int ofs), (.int strd), (.int nrow), (.int fr), (.int to), (.int (2 : Int32)), (.int (1 : Int32))] [(.long (((((((own_cell a b ofs strd nrow fr to 0 0) + (own_cell a b ofs strd nrow fr to 0 1)) + (own_cell a b ofs strd nrow fr to 0 2)) + (own_cell a b ofs strd nrow fr to 1 0)) + (own_cell a b ofs strd nrow fr to 1 1)) + (own_cell a b ofs strd nrow fr to 1 2)) + (own_cell a b ofs strd nrow fr to 2 0)))] rfl (lenOf pd_11 rfl) rfl (by show 2 + (10 + 11) + 15 ≤ _; decide) (by decide) (by decide) (by decide) (hb hby d4_131) rfl ?_
  intro T18 v18 L18 X18 hQ18
  obtain ⟨rfl, rfl, e18⟩ := hQ18
  show Goes p e below _ T18 (mkF m 134 #[.val (.long a), .second, .val (.int b), .val (.int ofs), .val (.int strd), .val (.int nrow), .val (.int fr), .val (.int to)] [(.long (own_cell a b ofs strd nrow fr to 2 1)), (.long (((((((own_cell a b ofs strd nrow fr to 0 0) + (own_cell a b ofs strd nrow fr to 0 1)) + (own_cell a b ofs strd nrow fr to 0 2)) + (own_cell a b ofs strd nrow fr to 1 0)) + (own_cell a b ofs strd nrow fr to 1 1)) + (own_cell a b ofs strd nrow fr to 1 2)) + (own_cell a b ofs strd nrow fr to 2 0)))])
  refine g_ladd X18 hx (hb hby d4_134) rfl ?_
  refine g_lload_n (i := 0) X18 hx (hb hby d4_135) (by rfl) rfl ?_
  refine g_iload_n (i := 2) X18 hx (hb hby d4_136) (by rfl) rfl ?_
  refine g_iload_n (i := 3) X18 hx (hb hby d4_137) (by rfl) rfl ?_
  refine g_iload (i := 4) X18 hx (hb hby d4_138) (by rfl) rfl ?_
  refine g_iload (i := 5) X18 hx (hb hby d4_140) (by rfl) rfl ?_
  refine g_iload (i := 6) X18 hx (hb hby d4_142) (by rfl) rfl ?_
  refine g_iload (i := 7) X18 hx (hb hby d4_144) (by rfl) rfl ?_
  refine g_iconst (v := (2 : Int32)) X18 hx (hb hby d4_146) (by decide) rfl ?_
  refine g_iconst (v := (2 : Int32)) X18 hx (hb hby d4_147) (by decide) rfl ?_
  refine g_callS X18 hx hZ hown (wd hw 23 rfl) (wd hw 24 rfl) (wd hw 21 rfl) (wd hw 25 rfl) (by decide) e18 (rm_cell l Z a0 hw a b ofs strd nrow fr to (2 : Int32) (2 : Int32) h0) (by rw [hml]; rfl) [(.long a), (.int b), (.int ofs), (.int strd), (.int nrow), (.int fr), (.int to), (.int (2 : Int32)), (.int (2 : Int32))] [(.long ((((((((own_cell a b ofs strd nrow fr to 0 0) + (own_cell a b ofs strd nrow fr to 0 1)) + (own_cell a b ofs strd nrow fr to 0 2)) + (own_cell a b ofs strd nrow fr to 1 0)) + (own_cell a b ofs strd nrow fr to 1 1)) + (own_cell a b ofs strd nrow fr to 1 2)) + (own_cell a b ofs strd nrow fr to 2 0)) + (own_cell a b ofs strd nrow fr to 2 1)))] rfl (lenOf pd_11 rfl) rfl (by show 2 + (10 + 11) + 15 ≤ _; decide) (by decide) (by decide) (by decide) (hb hby d4_148) rfl ?_
  intro T19 v19 L19 X19 hQ19
  obtain ⟨rfl, rfl, e19⟩ := hQ19
  show Goes p e below _ T19 (mkF m 151 #[.val (.long a), .second, .val (.int b), .val (.int ofs), .val (.int strd), .val (.int nrow), .val (.int fr), .val (.int to)] [(.long (own_cell a b ofs strd nrow fr to 2 2)), (.long ((((((((own_cell a b ofs strd nrow fr to 0 0) + (own_cell a b ofs strd nrow fr to 0 1)) + (own_cell a b ofs strd nrow fr to 0 2)) + (own_cell a b ofs strd nrow fr to 1 0)) + (own_cell a b ofs strd nrow fr to 1 1)) + (own_cell a b ofs strd nrow fr to 1 2)) + (own_cell a b ofs strd nrow fr to 2 0)) + (own_cell a b ofs strd nrow fr to 2 1)))])
  refine g_ladd X19 hx (hb hby d4_151) rfl ?_
  exact g_retJ X19 hx hlk hret e19 (by decide) (by decide) (hb hby d4_152) ⟨rfl, rfl, rfl⟩
theorem ef_rm_run1 (m : MethodId) (x0 : Addr) (x1 : Int32) (x2 : Int64) (x3 : Int32) (x4 : Int32) (x5 : Int32) (x6 : Int32) (x7 : Int64)  : entryFrame m #[(.ref x0), (.int x1), (.long x2), (.int x3), (.int x4), (.int x5), (.int x6), (.long x7)] 11 = mkF m 0 #[.val (.ref x0), .val (.int x1), .val (.long x2), .second, .val (.int x3), .val (.int x4), .val (.int x5), .val (.int x6), .val (.long x7), .second, .unset] [] := by first | (simp [entryFrame, mkF, argsToLocals, Value.category]; done) | rfl
theorem pn_20 : plainFor (⟨"com/example/scanstride/scanstride/GreySumRunsPinLaw", "run", "([JIJZIIIJ)Z"⟩ : MethodName) = true := by first | exact plainFor_of_name (by first | (simp [plainName, overriddenIn]; done) | decide +kernel) | decide +kernel
set_option maxRecDepth 65536 in
set_option maxHeartbeats 40000000 in
theorem rm_run1 (l : Launch) (Z : State) (a0 : Array Value) (hw : ∀ d ∈ tables_1, d.before a0 Z = true) (ub : Addr) (k : Int32) (fill : Int64) (nrow fr to : Int32) (lv : Int64) (g : Nat → Int64) (h0 : Heap) (A : ArJ Z h0 ub .long 12 g) (hk : k = 0 ∨ k = 1 ∨ k = 2) (u0 : g (4 * k.toInt.toNat + 0) = (255 * nrow.toInt64 * (to - fr).toInt64)) (u1 : g (4 * k.toInt.toNat + 1) = lv) (u2 : g (4 * k.toInt.toNat + 2) = lv) (u3 : g (4 * k.toInt.toNat + 3) = lv) :
    Ctr l Z (⟨"com/example/scanstride/scanstride/GreySumRunsPinLaw", "run", "([JIJZIIIJ)Z"⟩ : MethodName) method_3_code 11 (Option.some FieldType.boolean) [] ({ frames := 0, cells := 0, slots := 0, locals := 0 } : Room) ({ frames := 0, cells := 0, slots := 0, locals := 0 } : Room).cells ({ frames := 0, cells := 0, slots := 0, locals := 0 } : Room).slots #[(.ref ub), (.int k), (.long fill), (.int (1 : Int32)), (.int nrow), (.int fr), (.int to), (.long lv)] h0 (fun v h L => v = some (.int 1) ∧ L = [] ∧ h = h0) := by
  refine Ctr.of pn_20 ?_
  intro p e s m below meth c s₁ hx hby hml hown hnm hret hlk hZ X0 e0
  refine Goes.cast (ef_rm_run1 m ub k fill (1 : Int32) nrow fr to lv) ?_
  rcases hk with rfl | rfl | rfl
  · refine g_iconst (v := (4 : Int32)) X0 hx (hb hby d7_0) (by decide) rfl ?_
    refine g_iload_n (i := 1) X0 hx (hb hby d7_1) (by rfl) rfl ?_
    refine g_imul X0 hx (hb hby d7_2) rfl ?_
    rw [show ((4 : Int32) * (0 : Int32)) = (0 : Int32) by decide]
    refine g_istore (i := 10) X0 hx #[.val (.ref ub), .val (.int (0 : Int32)), .val (.long fill), .second, .val (.int (1 : Int32)), .val (.int nrow), .val (.int fr), .val (.int to), .val (.long lv), .second, .val (.int (0 : Int32))] (hb hby d7_3) rfl rfl ?_
    refine g_iload (i := 4) X0 hx (hb hby d7_5) (by rfl) rfl ?_
    refine g_if_ne X0 hx (hb hby d7_7) (by decide) (pt := 58) (by decide) rfl (fun _ => ?_) (fun q_ => absurd q_ (by decide))
    refine g_aload_n (i := 0) X0 hx (hb hby d7_58) (by rfl) rfl rfl ?_
    refine g_iload (i := 10) X0 hx (hb hby d7_59) (by rfl) rfl ?_
    refine g_laload' X0 hx hZ e0 A (by decide) (by decide) (x := (255 * nrow.toInt64 * (to - fr).toInt64)) u0 (hb hby d7_61) rfl ?_
    refine g_ldc2J X0 hx hZ hown (wd hw 32 rfl) (hb hby d7_62) rfl ?_
    refine g_iload (i := 5) X0 hx (hb hby d7_65) (by rfl) rfl ?_
    refine g_i2l X0 hx (hb hby d7_67) rfl ?_
    refine g_lmul X0 hx (hb hby d7_68) rfl ?_
    refine g_iload (i := 7) X0 hx (hb hby d7_69) (by rfl) rfl ?_
    refine g_iload (i := 6) X0 hx (hb hby d7_71) (by rfl) rfl ?_
    refine g_isub X0 hx (hb hby d7_73) rfl ?_
    refine g_i2l X0 hx (hb hby d7_74) rfl ?_
    refine g_lmul X0 hx (hb hby d7_75) rfl ?_
    refine g_lcmp X0 hx (hb hby d7_76) rfl ?_
    refine g_if_ne X0 hx (hb hby d7_77) (by decide) (pt := 120) (by decide) rfl (fun q_ => absurd ((cm_eq _ _).mpr rfl) q_) (fun _ => ?_)
    refine g_aload_n (i := 0) X0 hx (hb hby d7_80) (by rfl) rfl rfl ?_
    refine g_iload (i := 10) X0 hx (hb hby d7_81) (by rfl) rfl ?_
    refine g_iconst (v := (1 : Int32)) X0 hx (hb hby d7_83) (by decide) rfl ?_
    refine g_iadd X0 hx (hb hby d7_84) rfl ?_
    rw [show ((0 : Int32) + (1 : Int32)) = (1 : Int32) by decide]
    refine g_laload' X0 hx hZ e0 A (by decide) (by decide) (x := lv) u1 (hb hby d7_85) rfl ?_
    refine g_lload (i := 8) X0 hx (hb hby d7_86) (by rfl) rfl ?_
    refine g_lcmp X0 hx (hb hby d7_88) rfl ?_
    refine g_if_ne X0 hx (hb hby d7_89) (by decide) (pt := 120) (by decide) rfl (fun q_ => absurd ((cm_eq _ _).mpr rfl) q_) (fun _ => ?_)
    refine g_aload_n (i := 0) X0 hx (hb hby d7_92) (by rfl) rfl rfl ?_
    refine g_iload (i := 10) X0 hx (hb hby d7_93) (by rfl) rfl ?_
    refine g_iconst (v := (2 : Int32)) X0 hx (hb hby d7_95) (by decide) rfl ?_
    refine g_iadd X0 hx (hb hby d7_96) rfl ?_
    rw [show ((0 : Int32) + (2 : Int32)) = (2 : Int32) by decide]
    refine g_laload' X0 hx hZ e0 A (by decide) (by decide) (x := lv) u2 (hb hby d7_97) rfl ?_
    refine g_lload (i := 8) X0 hx (hb hby d7_98) (by rfl) rfl ?_
    refine g_lcmp X0 hx (hb hby d7_100) rfl ?_
    refine g_if_ne X0 hx (hb hby d7_101) (by decide) (pt := 120) (by decide) rfl (fun q_ => absurd ((cm_eq _ _).mpr rfl) q_) (fun _ => ?_)
    refine g_aload_n (i := 0) X0 hx (hb hby d7_104) (by rfl) rfl rfl ?_
    refine g_iload (i := 10) X0 hx (hb hby d7_105) (by rfl) rfl ?_
    refine g_iconst (v := (3 : Int32)) X0 hx (hb hby d7_107) (by decide) rfl ?_
    refine g_iadd X0 hx (hb hby d7_108) rfl ?_
    rw [show ((0 : Int32) + (3 : Int32)) = (3 : Int32) by decide]
    refine g_laload' X0 hx hZ e0 A (by decide) (by decide) (x := lv) u3 (hb hby d7_109) rfl ?_
    refine g_lload (i := 8) X0 hx (hb hby d7_110) (by rfl) rfl ?_
    refine g_lcmp X0 hx (hb hby d7_112) rfl ?_
    refine g_if_ne X0 hx (hb hby d7_113) (by decide) (pt := 120) (by decide) rfl (fun q_ => absurd ((cm_eq _ _).mpr rfl) q_) (fun _ => ?_)
    refine g_iconst (v := (1 : Int32)) X0 hx (hb hby d7_116) (by decide) rfl ?_
    refine g_goto X0 hx (hb hby d7_117) (by decide) (by decide) (pc' := 121) ?_
    exact g_retN X0 hx (t := .boolean) (by simp) hlk hret e0 (by decide) (by decide) (hb hby d7_121) ⟨rfl, rfl, rfl⟩
  · refine g_iconst (v := (4 : Int32)) X0 hx (hb hby d7_0) (by decide) rfl ?_
    refine g_iload_n (i := 1) X0 hx (hb hby d7_1) (by rfl) rfl ?_
    refine g_imul X0 hx (hb hby d7_2) rfl ?_
    rw [show ((4 : Int32) * (1 : Int32)) = (4 : Int32) by decide]
    refine g_istore (i := 10) X0 hx #[.val (.ref ub), .val (.int (1 : Int32)), .val (.long fill), .second, .val (.int (1 : Int32)), .val (.int nrow), .val (.int fr), .val (.int to), .val (.long lv), .second, .val (.int (4 : Int32))] (hb hby d7_3) rfl rfl ?_
    refine g_iload (i := 4) X0 hx (hb hby d7_5) (by rfl) rfl ?_
    refine g_if_ne X0 hx (hb hby d7_7) (by decide) (pt := 58) (by decide) rfl (fun _ => ?_) (fun q_ => absurd q_ (by decide))
    refine g_aload_n (i := 0) X0 hx (hb hby d7_58) (by rfl) rfl rfl ?_
    refine g_iload (i := 10) X0 hx (hb hby d7_59) (by rfl) rfl ?_
    refine g_laload' X0 hx hZ e0 A (by decide) (by decide) (x := (255 * nrow.toInt64 * (to - fr).toInt64)) u0 (hb hby d7_61) rfl ?_
    refine g_ldc2J X0 hx hZ hown (wd hw 32 rfl) (hb hby d7_62) rfl ?_
    refine g_iload (i := 5) X0 hx (hb hby d7_65) (by rfl) rfl ?_
    refine g_i2l X0 hx (hb hby d7_67) rfl ?_
    refine g_lmul X0 hx (hb hby d7_68) rfl ?_
    refine g_iload (i := 7) X0 hx (hb hby d7_69) (by rfl) rfl ?_
    refine g_iload (i := 6) X0 hx (hb hby d7_71) (by rfl) rfl ?_
    refine g_isub X0 hx (hb hby d7_73) rfl ?_
    refine g_i2l X0 hx (hb hby d7_74) rfl ?_
    refine g_lmul X0 hx (hb hby d7_75) rfl ?_
    refine g_lcmp X0 hx (hb hby d7_76) rfl ?_
    refine g_if_ne X0 hx (hb hby d7_77) (by decide) (pt := 120) (by decide) rfl (fun q_ => absurd ((cm_eq _ _).mpr rfl) q_) (fun _ => ?_)
    refine g_aload_n (i := 0) X0 hx (hb hby d7_80) (by rfl) rfl rfl ?_
    refine g_iload (i := 10) X0 hx (hb hby d7_81) (by rfl) rfl ?_
    refine g_iconst (v := (1 : Int32)) X0 hx (hb hby d7_83) (by decide) rfl ?_
    refine g_iadd X0 hx (hb hby d7_84) rfl ?_
    rw [show ((4 : Int32) + (1 : Int32)) = (5 : Int32) by decide]
    refine g_laload' X0 hx hZ e0 A (by decide) (by decide) (x := lv) u1 (hb hby d7_85) rfl ?_
    refine g_lload (i := 8) X0 hx (hb hby d7_86) (by rfl) rfl ?_
    refine g_lcmp X0 hx (hb hby d7_88) rfl ?_
    refine g_if_ne X0 hx (hb hby d7_89) (by decide) (pt := 120) (by decide) rfl (fun q_ => absurd ((cm_eq _ _).mpr rfl) q_) (fun _ => ?_)
    refine g_aload_n (i := 0) X0 hx (hb hby d7_92) (by rfl) rfl rfl ?_
    refine g_iload (i := 10) X0 hx (hb hby d7_93) (by rfl) rfl ?_
    refine g_iconst (v := (2 : Int32)) X0 hx (hb hby d7_95) (by decide) rfl ?_
    refine g_iadd X0 hx (hb hby d7_96) rfl ?_
    rw [show ((4 : Int32) + (2 : Int32)) = (6 : Int32) by decide]
    refine g_laload' X0 hx hZ e0 A (by decide) (by decide) (x := lv) u2 (hb hby d7_97) rfl ?_
    refine g_lload (i := 8) X0 hx (hb hby d7_98) (by rfl) rfl ?_
    refine g_lcmp X0 hx (hb hby d7_100) rfl ?_
    refine g_if_ne X0 hx (hb hby d7_101) (by decide) (pt := 120) (by decide) rfl (fun q_ => absurd ((cm_eq _ _).mpr rfl) q_) (fun _ => ?_)
    refine g_aload_n (i := 0) X0 hx (hb hby d7_104) (by rfl) rfl rfl ?_
    refine g_iload (i := 10) X0 hx (hb hby d7_105) (by rfl) rfl ?_
    refine g_iconst (v := (3 : Int32)) X0 hx (hb hby d7_107) (by decide) rfl ?_
    refine g_iadd X0 hx (hb hby d7_108) rfl ?_
    rw [show ((4 : Int32) + (3 : Int32)) = (7 : Int32) by decide]
    refine g_laload' X0 hx hZ e0 A (by decide) (by decide) (x := lv) u3 (hb hby d7_109) rfl ?_
    refine g_lload (i := 8) X0 hx (hb hby d7_110) (by rfl) rfl ?_
    refine g_lcmp X0 hx (hb hby d7_112) rfl ?_
    refine g_if_ne X0 hx (hb hby d7_113) (by decide) (pt := 120) (by decide) rfl (fun q_ => absurd ((cm_eq _ _).mpr rfl) q_) (fun _ => ?_)
    refine g_iconst (v := (1 : Int32)) X0 hx (hb hby d7_116) (by decide) rfl ?_
    refine g_goto X0 hx (hb hby d7_117) (by decide) (by decide) (pc' := 121) ?_
    exact g_retN X0 hx (t := .boolean) (by simp) hlk hret e0 (by decide) (by decide) (hb hby d7_121) ⟨rfl, rfl, rfl⟩
  · refine g_iconst (v := (4 : Int32)) X0 hx (hb hby d7_0) (by decide) rfl ?_
    refine g_iload_n (i := 1) X0 hx (hb hby d7_1) (by rfl) rfl ?_
    refine g_imul X0 hx (hb hby d7_2) rfl ?_
    rw [show ((4 : Int32) * (2 : Int32)) = (8 : Int32) by decide]
    refine g_istore (i := 10) X0 hx #[.val (.ref ub), .val (.int (2 : Int32)), .val (.long fill), .second, .val (.int (1 : Int32)), .val (.int nrow), .val (.int fr), .val (.int to), .val (.long lv), .second, .val (.int (8 : Int32))] (hb hby d7_3) rfl rfl ?_
    refine g_iload (i := 4) X0 hx (hb hby d7_5) (by rfl) rfl ?_
    refine g_if_ne X0 hx (hb hby d7_7) (by decide) (pt := 58) (by decide) rfl (fun _ => ?_) (fun q_ => absurd q_ (by decide))
    refine g_aload_n (i := 0) X0 hx (hb hby d7_58) (by rfl) rfl rfl ?_
    refine g_iload (i := 10) X0 hx (hb hby d7_59) (by rfl) rfl ?_
    refine g_laload' X0 hx hZ e0 A (by decide) (by decide) (x := (255 * nrow.toInt64 * (to - fr).toInt64)) u0 (hb hby d7_61) rfl ?_
    refine g_ldc2J X0 hx hZ hown (wd hw 32 rfl) (hb hby d7_62) rfl ?_
    refine g_iload (i := 5) X0 hx (hb hby d7_65) (by rfl) rfl ?_
    refine g_i2l X0 hx (hb hby d7_67) rfl ?_
    refine g_lmul X0 hx (hb hby d7_68) rfl ?_
    refine g_iload (i := 7) X0 hx (hb hby d7_69) (by rfl) rfl ?_
    refine g_iload (i := 6) X0 hx (hb hby d7_71) (by rfl) rfl ?_
    refine g_isub X0 hx (hb hby d7_73) rfl ?_
    refine g_i2l X0 hx (hb hby d7_74) rfl ?_
    refine g_lmul X0 hx (hb hby d7_75) rfl ?_
    refine g_lcmp X0 hx (hb hby d7_76) rfl ?_
    refine g_if_ne X0 hx (hb hby d7_77) (by decide) (pt := 120) (by decide) rfl (fun q_ => absurd ((cm_eq _ _).mpr rfl) q_) (fun _ => ?_)
    refine g_aload_n (i := 0) X0 hx (hb hby d7_80) (by rfl) rfl rfl ?_
    refine g_iload (i := 10) X0 hx (hb hby d7_81) (by rfl) rfl ?_
    refine g_iconst (v := (1 : Int32)) X0 hx (hb hby d7_83) (by decide) rfl ?_
    refine g_iadd X0 hx (hb hby d7_84) rfl ?_
    rw [show ((8 : Int32) + (1 : Int32)) = (9 : Int32) by decide]
    refine g_laload' X0 hx hZ e0 A (by decide) (by decide) (x := lv) u1 (hb hby d7_85) rfl ?_
    refine g_lload (i := 8) X0 hx (hb hby d7_86) (by rfl) rfl ?_
    refine g_lcmp X0 hx (hb hby d7_88) rfl ?_
    refine g_if_ne X0 hx (hb hby d7_89) (by decide) (pt := 120) (by decide) rfl (fun q_ => absurd ((cm_eq _ _).mpr rfl) q_) (fun _ => ?_)
    refine g_aload_n (i := 0) X0 hx (hb hby d7_92) (by rfl) rfl rfl ?_
    refine g_iload (i := 10) X0 hx (hb hby d7_93) (by rfl) rfl ?_
    refine g_iconst (v := (2 : Int32)) X0 hx (hb hby d7_95) (by decide) rfl ?_
    refine g_iadd X0 hx (hb hby d7_96) rfl ?_
    rw [show ((8 : Int32) + (2 : Int32)) = (10 : Int32) by decide]
    refine g_laload' X0 hx hZ e0 A (by decide) (by decide) (x := lv) u2 (hb hby d7_97) rfl ?_
    refine g_lload (i := 8) X0 hx (hb hby d7_98) (by rfl) rfl ?_
    refine g_lcmp X0 hx (hb hby d7_100) rfl ?_
    refine g_if_ne X0 hx (hb hby d7_101) (by decide) (pt := 120) (by decide) rfl (fun q_ => absurd ((cm_eq _ _).mpr rfl) q_) (fun _ => ?_)
    refine g_aload_n (i := 0) X0 hx (hb hby d7_104) (by rfl) rfl rfl ?_
    refine g_iload (i := 10) X0 hx (hb hby d7_105) (by rfl) rfl ?_
    refine g_iconst (v := (3 : Int32)) X0 hx (hb hby d7_107) (by decide) rfl ?_
    refine g_iadd X0 hx (hb hby d7_108) rfl ?_
    rw [show ((8 : Int32) + (3 : Int32)) = (11 : Int32) by decide]
    refine g_laload' X0 hx hZ e0 A (by decide) (by decide) (x := lv) u3 (hb hby d7_109) rfl ?_
    refine g_lload (i := 8) X0 hx (hb hby d7_110) (by rfl) rfl ?_
    refine g_lcmp X0 hx (hb hby d7_112) rfl ?_
    refine g_if_ne X0 hx (hb hby d7_113) (by decide) (pt := 120) (by decide) rfl (fun q_ => absurd ((cm_eq _ _).mpr rfl) q_) (fun _ => ?_)
    refine g_iconst (v := (1 : Int32)) X0 hx (hb hby d7_116) (by decide) rfl ?_
    refine g_goto X0 hx (hb hby d7_117) (by decide) (by decide) (pc' := 121) ?_
    exact g_retN X0 hx (t := .boolean) (by simp) hlk hret e0 (by decide) (by decide) (hb hby d7_121) ⟨rfl, rfl, rfl⟩
theorem ef_rm_run0 (m : MethodId) (x0 : Addr) (x1 : Int32) (x2 : Int64) (x3 : Int32) (x4 : Int32) (x5 : Int32) (x6 : Int32) (x7 : Int64)  : entryFrame m #[(.ref x0), (.int x1), (.long x2), (.int x3), (.int x4), (.int x5), (.int x6), (.long x7)] 11 = mkF m 0 #[.val (.ref x0), .val (.int x1), .val (.long x2), .second, .val (.int x3), .val (.int x4), .val (.int x5), .val (.int x6), .val (.long x7), .second, .unset] [] := by first | (simp [entryFrame, mkF, argsToLocals, Value.category]; done) | rfl
set_option maxRecDepth 65536 in
set_option maxHeartbeats 40000000 in
theorem rm_run0 (l : Launch) (Z : State) (a0 : Array Value) (hw : ∀ d ∈ tables_1, d.before a0 Z = true) (ub : Addr) (k : Int32) (fill : Int64) (nrow fr to : Int32) (lv : Int64) (g : Nat → Int64) (h0 : Heap) (A : ArJ Z h0 ub .long 12 g) (hk : k = 0 ∨ k = 1 ∨ k = 2) (u0 : g (4 * k.toInt.toNat + 0) = fill) (u1 : g (4 * k.toInt.toNat + 1) = fill) (u2 : g (4 * k.toInt.toNat + 2) = fill) (u3 : g (4 * k.toInt.toNat + 3) = fill) :
    Ctr l Z (⟨"com/example/scanstride/scanstride/GreySumRunsPinLaw", "run", "([JIJZIIIJ)Z"⟩ : MethodName) method_3_code 11 (Option.some FieldType.boolean) [] ({ frames := 0, cells := 0, slots := 0, locals := 0 } : Room) ({ frames := 0, cells := 0, slots := 0, locals := 0 } : Room).cells ({ frames := 0, cells := 0, slots := 0, locals := 0 } : Room).slots #[(.ref ub), (.int k), (.long fill), (.int (0 : Int32)), (.int nrow), (.int fr), (.int to), (.long lv)] h0 (fun v h L => v = some (.int 1) ∧ L = [] ∧ h = h0) := by
  refine Ctr.of pn_20 ?_
  intro p e s m below meth c s₁ hx hby hml hown hnm hret hlk hZ X0 e0
  refine Goes.cast (ef_rm_run0 m ub k fill (0 : Int32) nrow fr to lv) ?_
  rcases hk with rfl | rfl | rfl
  · refine g_iconst (v := (4 : Int32)) X0 hx (hb hby d7_0) (by decide) rfl ?_
    refine g_iload_n (i := 1) X0 hx (hb hby d7_1) (by rfl) rfl ?_
    refine g_imul X0 hx (hb hby d7_2) rfl ?_
    rw [show ((4 : Int32) * (0 : Int32)) = (0 : Int32) by decide]
    refine g_istore (i := 10) X0 hx #[.val (.ref ub), .val (.int (0 : Int32)), .val (.long fill), .second, .val (.int (0 : Int32)), .val (.int nrow), .val (.int fr), .val (.int to), .val (.long lv), .second, .val (.int (0 : Int32))] (hb hby d7_3) rfl rfl ?_
    refine g_iload (i := 4) X0 hx (hb hby d7_5) (by rfl) rfl ?_
    refine g_if_ne X0 hx (hb hby d7_7) (by decide) (pt := 58) (by decide) rfl (fun q_ => absurd (by decide) q_) (fun _ => ?_)
    refine g_aload_n (i := 0) X0 hx (hb hby d7_10) (by rfl) rfl rfl ?_
    refine g_iload (i := 10) X0 hx (hb hby d7_11) (by rfl) rfl ?_
    refine g_laload' X0 hx hZ e0 A (by decide) (by decide) (x := fill) u0 (hb hby d7_13) rfl ?_
    refine g_lload_n (i := 2) X0 hx (hb hby d7_14) (by rfl) rfl ?_
    refine g_lcmp X0 hx (hb hby d7_15) rfl ?_
    refine g_if_ne X0 hx (hb hby d7_16) (by decide) (pt := 56) (by decide) rfl (fun q_ => absurd ((cm_eq _ _).mpr rfl) q_) (fun _ => ?_)
    refine g_aload_n (i := 0) X0 hx (hb hby d7_19) (by rfl) rfl rfl ?_
    refine g_iload (i := 10) X0 hx (hb hby d7_20) (by rfl) rfl ?_
    refine g_iconst (v := (1 : Int32)) X0 hx (hb hby d7_22) (by decide) rfl ?_
    refine g_iadd X0 hx (hb hby d7_23) rfl ?_
    rw [show ((0 : Int32) + (1 : Int32)) = (1 : Int32) by decide]
    refine g_laload' X0 hx hZ e0 A (by decide) (by decide) (x := fill) u1 (hb hby d7_24) rfl ?_
    refine g_lload_n (i := 2) X0 hx (hb hby d7_25) (by rfl) rfl ?_
    refine g_lcmp X0 hx (hb hby d7_26) rfl ?_
    refine g_if_ne X0 hx (hb hby d7_27) (by decide) (pt := 56) (by decide) rfl (fun q_ => absurd ((cm_eq _ _).mpr rfl) q_) (fun _ => ?_)
    refine g_aload_n (i := 0) X0 hx (hb hby d7_30) (by rfl) rfl rfl ?_
    refine g_iload (i := 10) X0 hx (hb hby d7_31) (by rfl) rfl ?_
    refine g_iconst (v := (2 : Int32)) X0 hx (hb hby d7_33) (by decide) rfl ?_
    refine g_iadd X0 hx (hb hby d7_34) rfl ?_
    rw [show ((0 : Int32) + (2 : Int32)) = (2 : Int32) by decide]
    refine g_laload' X0 hx hZ e0 A (by decide) (by decide) (x := fill) u2 (hb hby d7_35) rfl ?_
    refine g_lload_n (i := 2) X0 hx (hb hby d7_36) (by rfl) rfl ?_
    refine g_lcmp X0 hx (hb hby d7_37) rfl ?_
    refine g_if_ne X0 hx (hb hby d7_38) (by decide) (pt := 56) (by decide) rfl (fun q_ => absurd ((cm_eq _ _).mpr rfl) q_) (fun _ => ?_)
    refine g_aload_n (i := 0) X0 hx (hb hby d7_41) (by rfl) rfl rfl ?_
    refine g_iload (i := 10) X0 hx (hb hby d7_42) (by rfl) rfl ?_
    refine g_iconst (v := (3 : Int32)) X0 hx (hb hby d7_44) (by decide) rfl ?_
    refine g_iadd X0 hx (hb hby d7_45) rfl ?_
    rw [show ((0 : Int32) + (3 : Int32)) = (3 : Int32) by decide]
    refine g_laload' X0 hx hZ e0 A (by decide) (by decide) (x := fill) u3 (hb hby d7_46) rfl ?_
    refine g_lload_n (i := 2) X0 hx (hb hby d7_47) (by rfl) rfl ?_
    refine g_lcmp X0 hx (hb hby d7_48) rfl ?_
    refine g_if_ne X0 hx (hb hby d7_49) (by decide) (pt := 56) (by decide) rfl (fun q_ => absurd ((cm_eq _ _).mpr rfl) q_) (fun _ => ?_)
    refine g_iconst (v := (1 : Int32)) X0 hx (hb hby d7_52) (by decide) rfl ?_
    refine g_goto X0 hx (hb hby d7_53) (by decide) (by decide) (pc' := 57) ?_
    exact g_retN X0 hx (t := .boolean) (by simp) hlk hret e0 (by decide) (by decide) (hb hby d7_57) ⟨rfl, rfl, rfl⟩
  · refine g_iconst (v := (4 : Int32)) X0 hx (hb hby d7_0) (by decide) rfl ?_
    refine g_iload_n (i := 1) X0 hx (hb hby d7_1) (by rfl) rfl ?_
    refine g_imul X0 hx (hb hby d7_2) rfl ?_
    rw [show ((4 : Int32) * (1 : Int32)) = (4 : Int32) by decide]
    refine g_istore (i := 10) X0 hx #[.val (.ref ub), .val (.int (1 : Int32)), .val (.long fill), .second, .val (.int (0 : Int32)), .val (.int nrow), .val (.int fr), .val (.int to), .val (.long lv), .second, .val (.int (4 : Int32))] (hb hby d7_3) rfl rfl ?_
    refine g_iload (i := 4) X0 hx (hb hby d7_5) (by rfl) rfl ?_
    refine g_if_ne X0 hx (hb hby d7_7) (by decide) (pt := 58) (by decide) rfl (fun q_ => absurd (by decide) q_) (fun _ => ?_)
    refine g_aload_n (i := 0) X0 hx (hb hby d7_10) (by rfl) rfl rfl ?_
    refine g_iload (i := 10) X0 hx (hb hby d7_11) (by rfl) rfl ?_
    refine g_laload' X0 hx hZ e0 A (by decide) (by decide) (x := fill) u0 (hb hby d7_13) rfl ?_
    refine g_lload_n (i := 2) X0 hx (hb hby d7_14) (by rfl) rfl ?_
    refine g_lcmp X0 hx (hb hby d7_15) rfl ?_
    refine g_if_ne X0 hx (hb hby d7_16) (by decide) (pt := 56) (by decide) rfl (fun q_ => absurd ((cm_eq _ _).mpr rfl) q_) (fun _ => ?_)
    refine g_aload_n (i := 0) X0 hx (hb hby d7_19) (by rfl) rfl rfl ?_
    refine g_iload (i := 10) X0 hx (hb hby d7_20) (by rfl) rfl ?_
    refine g_iconst (v := (1 : Int32)) X0 hx (hb hby d7_22) (by decide) rfl ?_
    refine g_iadd X0 hx (hb hby d7_23) rfl ?_
    rw [show ((4 : Int32) + (1 : Int32)) = (5 : Int32) by decide]
    refine g_laload' X0 hx hZ e0 A (by decide) (by decide) (x := fill) u1 (hb hby d7_24) rfl ?_
    refine g_lload_n (i := 2) X0 hx (hb hby d7_25) (by rfl) rfl ?_
    refine g_lcmp X0 hx (hb hby d7_26) rfl ?_
    refine g_if_ne X0 hx (hb hby d7_27) (by decide) (pt := 56) (by decide) rfl (fun q_ => absurd ((cm_eq _ _).mpr rfl) q_) (fun _ => ?_)
    refine g_aload_n (i := 0) X0 hx (hb hby d7_30) (by rfl) rfl rfl ?_
    refine g_iload (i := 10) X0 hx (hb hby d7_31) (by rfl) rfl ?_
    refine g_iconst (v := (2 : Int32)) X0 hx (hb hby d7_33) (by decide) rfl ?_
    refine g_iadd X0 hx (hb hby d7_34) rfl ?_
    rw [show ((4 : Int32) + (2 : Int32)) = (6 : Int32) by decide]
    refine g_laload' X0 hx hZ e0 A (by decide) (by decide) (x := fill) u2 (hb hby d7_35) rfl ?_
    refine g_lload_n (i := 2) X0 hx (hb hby d7_36) (by rfl) rfl ?_
    refine g_lcmp X0 hx (hb hby d7_37) rfl ?_
    refine g_if_ne X0 hx (hb hby d7_38) (by decide) (pt := 56) (by decide) rfl (fun q_ => absurd ((cm_eq _ _).mpr rfl) q_) (fun _ => ?_)
    refine g_aload_n (i := 0) X0 hx (hb hby d7_41) (by rfl) rfl rfl ?_
    refine g_iload (i := 10) X0 hx (hb hby d7_42) (by rfl) rfl ?_
    refine g_iconst (v := (3 : Int32)) X0 hx (hb hby d7_44) (by decide) rfl ?_
    refine g_iadd X0 hx (hb hby d7_45) rfl ?_
    rw [show ((4 : Int32) + (3 : Int32)) = (7 : Int32) by decide]
    refine g_laload' X0 hx hZ e0 A (by decide) (by decide) (x := fill) u3 (hb hby d7_46) rfl ?_
    refine g_lload_n (i := 2) X0 hx (hb hby d7_47) (by rfl) rfl ?_
    refine g_lcmp X0 hx (hb hby d7_48) rfl ?_
    refine g_if_ne X0 hx (hb hby d7_49) (by decide) (pt := 56) (by decide) rfl (fun q_ => absurd ((cm_eq _ _).mpr rfl) q_) (fun _ => ?_)
    refine g_iconst (v := (1 : Int32)) X0 hx (hb hby d7_52) (by decide) rfl ?_
    refine g_goto X0 hx (hb hby d7_53) (by decide) (by decide) (pc' := 57) ?_
    exact g_retN X0 hx (t := .boolean) (by simp) hlk hret e0 (by decide) (by decide) (hb hby d7_57) ⟨rfl, rfl, rfl⟩
  · refine g_iconst (v := (4 : Int32)) X0 hx (hb hby d7_0) (by decide) rfl ?_
    refine g_iload_n (i := 1) X0 hx (hb hby d7_1) (by rfl) rfl ?_
    refine g_imul X0 hx (hb hby d7_2) rfl ?_
    rw [show ((4 : Int32) * (2 : Int32)) = (8 : Int32) by decide]
    refine g_istore (i := 10) X0 hx #[.val (.ref ub), .val (.int (2 : Int32)), .val (.long fill), .second, .val (.int (0 : Int32)), .val (.int nrow), .val (.int fr), .val (.int to), .val (.long lv), .second, .val (.int (8 : Int32))] (hb hby d7_3) rfl rfl ?_
    refine g_iload (i := 4) X0 hx (hb hby d7_5) (by rfl) rfl ?_
    refine g_if_ne X0 hx (hb hby d7_7) (by decide) (pt := 58) (by decide) rfl (fun q_ => absurd (by decide) q_) (fun _ => ?_)
    refine g_aload_n (i := 0) X0 hx (hb hby d7_10) (by rfl) rfl rfl ?_
    refine g_iload (i := 10) X0 hx (hb hby d7_11) (by rfl) rfl ?_
    refine g_laload' X0 hx hZ e0 A (by decide) (by decide) (x := fill) u0 (hb hby d7_13) rfl ?_
    refine g_lload_n (i := 2) X0 hx (hb hby d7_14) (by rfl) rfl ?_
    refine g_lcmp X0 hx (hb hby d7_15) rfl ?_
    refine g_if_ne X0 hx (hb hby d7_16) (by decide) (pt := 56) (by decide) rfl (fun q_ => absurd ((cm_eq _ _).mpr rfl) q_) (fun _ => ?_)
    refine g_aload_n (i := 0) X0 hx (hb hby d7_19) (by rfl) rfl rfl ?_
    refine g_iload (i := 10) X0 hx (hb hby d7_20) (by rfl) rfl ?_
    refine g_iconst (v := (1 : Int32)) X0 hx (hb hby d7_22) (by decide) rfl ?_
    refine g_iadd X0 hx (hb hby d7_23) rfl ?_
    rw [show ((8 : Int32) + (1 : Int32)) = (9 : Int32) by decide]
    refine g_laload' X0 hx hZ e0 A (by decide) (by decide) (x := fill) u1 (hb hby d7_24) rfl ?_
    refine g_lload_n (i := 2) X0 hx (hb hby d7_25) (by rfl) rfl ?_
    refine g_lcmp X0 hx (hb hby d7_26) rfl ?_
    refine g_if_ne X0 hx (hb hby d7_27) (by decide) (pt := 56) (by decide) rfl (fun q_ => absurd ((cm_eq _ _).mpr rfl) q_) (fun _ => ?_)
    refine g_aload_n (i := 0) X0 hx (hb hby d7_30) (by rfl) rfl rfl ?_
    refine g_iload (i := 10) X0 hx (hb hby d7_31) (by rfl) rfl ?_
    refine g_iconst (v := (2 : Int32)) X0 hx (hb hby d7_33) (by decide) rfl ?_
    refine g_iadd X0 hx (hb hby d7_34) rfl ?_
    rw [show ((8 : Int32) + (2 : Int32)) = (10 : Int32) by decide]
    refine g_laload' X0 hx hZ e0 A (by decide) (by decide) (x := fill) u2 (hb hby d7_35) rfl ?_
    refine g_lload_n (i := 2) X0 hx (hb hby d7_36) (by rfl) rfl ?_
    refine g_lcmp X0 hx (hb hby d7_37) rfl ?_
    refine g_if_ne X0 hx (hb hby d7_38) (by decide) (pt := 56) (by decide) rfl (fun q_ => absurd ((cm_eq _ _).mpr rfl) q_) (fun _ => ?_)
    refine g_aload_n (i := 0) X0 hx (hb hby d7_41) (by rfl) rfl rfl ?_
    refine g_iload (i := 10) X0 hx (hb hby d7_42) (by rfl) rfl ?_
    refine g_iconst (v := (3 : Int32)) X0 hx (hb hby d7_44) (by decide) rfl ?_
    refine g_iadd X0 hx (hb hby d7_45) rfl ?_
    rw [show ((8 : Int32) + (3 : Int32)) = (11 : Int32) by decide]
    refine g_laload' X0 hx hZ e0 A (by decide) (by decide) (x := fill) u3 (hb hby d7_46) rfl ?_
    refine g_lload_n (i := 2) X0 hx (hb hby d7_47) (by rfl) rfl ?_
    refine g_lcmp X0 hx (hb hby d7_48) rfl ?_
    refine g_if_ne X0 hx (hb hby d7_49) (by decide) (pt := 56) (by decide) rfl (fun q_ => absurd ((cm_eq _ _).mpr rfl) q_) (fun _ => ?_)
    refine g_iconst (v := (1 : Int32)) X0 hx (hb hby d7_52) (by decide) rfl ?_
    refine g_goto X0 hx (hb hby d7_53) (by decide) (by decide) (pc' := 57) ?_
    exact g_retN X0 hx (t := .boolean) (by simp) hlk hret e0 (by decide) (by decide) (hb hby d7_57) ⟨rfl, rfl, rfl⟩
theorem ef_rm_sum1 (m : MethodId) (x0 : Addr) (x1 : Addr) (x2 : Int32) (x3 : Int32) (x4 : Int32) (x5 : Addr) (x6 : Addr)  : entryFrame m #[(.ref x0), (.ref x1), (.int x2), (.int x3), (.int x4), (.ref x5), (.ref x6)] 13 = mkF m 0 #[.val (.ref x0), .val (.ref x1), .val (.int x2), .val (.int x3), .val (.int x4), .val (.ref x5), .val (.ref x6), .unset, .unset, .unset, .unset, .unset, .unset] [] := by first | (simp [entryFrame, mkF, argsToLocals, Value.category]; done) | rfl
theorem pn_22 : plainFor (⟨"com/example/scanstride/scanstride/JpegSurface$Grey", "sumRuns", "([BIII[I[J)Z"⟩ : MethodName) = true := by first | exact plainFor_of_name (by first | (simp [plainName, overriddenIn]; done) | decide +kernel) | decide +kernel
set_option maxRecDepth 65536 in
set_option maxHeartbeats 40000000 in
theorem rm_sum1 (l : Launch) (Z : State) (a0 : Array Value) (hw : ∀ d ∈ tables_1, d.before a0 Z = true) (a sb rb ub : Addr) (ofs strd nrow : Int32) (e0' : Int32) (W : Int) (S R : Nat) (f ge : Nat → Int32) (g : Nat → Int64) (h0 : Heap) (n0 : Nat) (As : ArI Z h0 sb .byte 12 f) (Ag : ArI Z h0 rb .int 1 ge) (Au : ArJ Z h0 ub .long 12 g) (hrb : rb ≠ ub) (hsb : sb ≠ ub) (gu : n0 ≤ ub) (ho : 0 ≤ ofs.toInt) (ho1 : ofs.toInt ≤ 1) (hS : strd.toInt = (S : Int)) (hWS : W ≤ (S : Int)) (hW3 : W ≤ 3) (hS4 : (S : Int) ≤ 4) (hR : nrow.toInt = (R : Int)) (hR3 : R = 1 ∨ R = 2 ∨ R = 3) (hg0 : ge 0 = e0') (he0 : 0 < e0'.toInt) (heW : e0'.toInt ≤ W) :
    Ctr l Z (⟨"com/example/scanstride/scanstride/JpegSurface$Grey", "sumRuns", "([BIII[I[J)Z"⟩ : MethodName) prog_39_method_5_code 13 (Option.some FieldType.boolean) [] ({ frames := 0, cells := 0, slots := 0, locals := 0 } : Room) ({ frames := 0, cells := 0, slots := 0, locals := 0 } : Room).cells ({ frames := 0, cells := 0, slots := 0, locals := 0 } : Room).slots #[(.ref a), (.ref sb), (.int ofs), (.int strd), (.int nrow), (.ref rb), (.ref ub)] h0 (fun v h L => ∃ g', v = some (.int 1) ∧ Fr n0 L ∧ ArJ Z h ub .long 12 g' ∧ (g' 0 = 255 * nrow.toInt64 * (e0' - (0 : Int32)).toInt64 ∧ g' 1 = (own_blk f S (e0'.toInt - 0).toNat (ofs.toInt + 0).toNat R 0) ∧ g' 2 = (own_blk f S (e0'.toInt - 0).toNat (ofs.toInt + 0).toNat R 0) ∧ g' 3 = (own_blk f S (e0'.toInt - 0).toNat (ofs.toInt + 0).toNat R 0)) ∧ (g' 4 = g 4) ∧ (g' 5 = g 5) ∧ (g' 6 = g 6) ∧ (g' 7 = g 7) ∧ (g' 8 = g 8) ∧ (g' 9 = g 9) ∧ (g' 10 = g 10) ∧ (g' 11 = g 11)) := by
  refine Ctr.of pn_22 ?_
  intro p e s m below meth c s₁ hx hby hml hown hnm hret hlk hZ X0 e0
  refine Goes.cast (ef_rm_sum1 m a sb ofs strd nrow rb ub) ?_
  have hRS : (nrow * strd).toInt = ((R * S : Nat) : Int) := own_mul nrow strd R S hR hS (by rcases hR3 with rfl | rfl | rfl <;> omega)
  have hRS2 : R * S ≤ 12 := by rcases hR3 with rfl | rfl | rfl <;> omega
  have hR4 : R ≤ 3 := by omega
  refine g_iconst (v := (0 : Int32)) X0 hx (hb hby d3_0) (by decide) rfl ?_
  refine g_istore (i := 7) X0 hx #[.val (.ref a), .val (.ref sb), .val (.int ofs), .val (.int strd), .val (.int nrow), .val (.ref rb), .val (.ref ub), .val (.int (0 : Int32)), .unset, .unset, .unset, .unset, .unset] (hb hby d3_1) rfl rfl ?_
  refine g_iconst (v := (0 : Int32)) X0 hx (hb hby d3_3) (by decide) rfl ?_
  refine g_istore (i := 8) X0 hx #[.val (.ref a), .val (.ref sb), .val (.int ofs), .val (.int strd), .val (.int nrow), .val (.ref rb), .val (.ref ub), .val (.int (0 : Int32)), .val (.int (0 : Int32)), .unset, .unset, .unset, .unset] (hb hby d3_4) rfl rfl ?_
  refine g_iload (i := 8) X0 hx (hb hby d3_6) (by rfl) rfl ?_
  refine g_aload (i := 5) X0 hx (hb hby d3_8) (by rfl) rfl rfl ?_
  refine g_arraylengthI X0 hx hZ e0 Ag (z := (1 : Int32)) (by decide) (hb hby d3_10) rfl ?_
  refine g_icmp_ge X0 hx (hb hby d3_11) (by decide) (pt := 151) (by decide) rfl (fun q_ => absurd (by decide) q_) (fun _ => ?_)
  refine g_lconst (v := (0 : Int64)) X0 hx (hb hby d3_14) (by decide) rfl ?_
  refine g_lstore (i := 9) X0 hx #[.val (.ref a), .val (.ref sb), .val (.int ofs), .val (.int strd), .val (.int nrow), .val (.ref rb), .val (.ref ub), .val (.int (0 : Int32)), .val (.int (0 : Int32)), .val (.long (0 : Int64)), .second, .unset, .unset] (hb hby d3_15) rfl rfl ?_
  refine g_iload_n (i := 2) X0 hx (hb hby d3_17) (by rfl) rfl ?_
  refine g_iload (i := 7) X0 hx (hb hby d3_18) (by rfl) rfl ?_
  refine g_iadd X0 hx (hb hby d3_20) rfl ?_
  refine g_istore (i := 11) X0 hx #[.val (.ref a), .val (.ref sb), .val (.int ofs), .val (.int strd), .val (.int nrow), .val (.ref rb), .val (.ref ub), .val (.int (0 : Int32)), .val (.int (0 : Int32)), .val (.long (0 : Int64)), .second, .val (.int (ofs + (0 : Int32))), .unset] (hb hby d3_21) rfl rfl ?_
  have q0a : 0 ≤ ((0 : Int32)).toInt := by decide
  have q0b : ((0 : Int32)).toInt < e0'.toInt := by first | omega | (rw [show (0 : Int32).toInt = 0 from rfl]; omega)
  have q0c : e0'.toInt ≤ W := by omega
  have q0d : ((ofs + nrow * strd)).toInt = ofs.toInt + ((R * S : Nat) : Int) := by rw [own_add _ _ ho (by omega) (by omega), hRS]
  have q0e : ((ofs + (0 : Int32))).toInt = ofs.toInt + ((0 : Int32)).toInt := own_add _ _ ho q0a (by omega)
  have inner0 : ∀ (k : Nat) (ii row : Int32) (x : Int64), 0 ≤ row.toInt → row.toInt ≤ ii.toInt → ii.toInt + (k : Int) = row.toInt + (e0'.toInt - ((0 : Int32)).toInt) → ii.toInt + (k : Int) ≤ 12 → (∀ i' : Int32, Goes p e below (KQ s ({ frames := 0, cells := 0, slots := 0, locals := 0 } : Room).cells ({ frames := 0, cells := 0, slots := 0, locals := 0 } : Room).slots (fun v h L => ∃ g', v = some (.int 1) ∧ Fr n0 L ∧ ArJ Z h ub .long 12 g' ∧ (g' 0 = 255 * nrow.toInt64 * (e0' - (0 : Int32)).toInt64 ∧ g' 1 = (own_blk f S (e0'.toInt - 0).toNat (ofs.toInt + 0).toNat R 0) ∧ g' 2 = (own_blk f S (e0'.toInt - 0).toNat (ofs.toInt + 0).toNat R 0) ∧ g' 3 = (own_blk f S (e0'.toInt - 0).toNat (ofs.toInt + 0).toNat R 0)) ∧ (g' 4 = g 4) ∧ (g' 5 = g 5) ∧ (g' 6 = g 6) ∧ (g' 7 = g 7) ∧ (g' 8 = g 8) ∧ (g' 9 = g 9) ∧ (g' 10 = g 10) ∧ (g' 11 = g 11))) s₁ (mkF m 74 #[.val (.ref a), .val (.ref sb), .val (.int ofs), .val (.int strd), .val (.int nrow), .val (.ref rb), .val (.ref ub), .val (.int (0 : Int32)), .val (.int (0 : Int32)), .val (.long (own_row f ii.toInt.toNat k x)), .second, .val (.int row), .val (.int i')] [])) → Goes p e below (KQ s ({ frames := 0, cells := 0, slots := 0, locals := 0 } : Room).cells ({ frames := 0, cells := 0, slots := 0, locals := 0 } : Room).slots (fun v h L => ∃ g', v = some (.int 1) ∧ Fr n0 L ∧ ArJ Z h ub .long 12 g' ∧ (g' 0 = 255 * nrow.toInt64 * (e0' - (0 : Int32)).toInt64 ∧ g' 1 = (own_blk f S (e0'.toInt - 0).toNat (ofs.toInt + 0).toNat R 0) ∧ g' 2 = (own_blk f S (e0'.toInt - 0).toNat (ofs.toInt + 0).toNat R 0) ∧ g' 3 = (own_blk f S (e0'.toInt - 0).toNat (ofs.toInt + 0).toNat R 0)) ∧ (g' 4 = g 4) ∧ (g' 5 = g 5) ∧ (g' 6 = g 6) ∧ (g' 7 = g 7) ∧ (g' 8 = g 8) ∧ (g' 9 = g 9) ∧ (g' 10 = g 10) ∧ (g' 11 = g 11))) s₁ (mkF m 38 #[.val (.ref a), .val (.ref sb), .val (.int ofs), .val (.int strd), .val (.int nrow), .val (.ref rb), .val (.ref ub), .val (.int (0 : Int32)), .val (.int (0 : Int32)), .val (.long x), .second, .val (.int row), .val (.int ii)] []) := by
    intro k
    induction k with
    | zero =>
      intro ii row x g0 g1 g2 g3 k'
      have eb : ((row + e0') - (0 : Int32)).toInt = row.toInt + (e0'.toInt - ((0 : Int32)).toInt) := by rw [own_sub _ _ (by rw [own_add _ _ g0 (by omega) (by omega)]; omega) q0a, own_add _ _ g0 (by omega) (by omega)]; omega
      refine g_iload (i := 12) X0 hx (hb hby d3_38) (by rfl) rfl ?_
      refine g_iload (i := 11) X0 hx (hb hby d3_40) (by rfl) rfl ?_
      refine g_aload (i := 5) X0 hx (hb hby d3_42) (by rfl) rfl rfl ?_
      refine g_iload (i := 8) X0 hx (hb hby d3_44) (by rfl) rfl ?_
      refine g_iaload' X0 hx hZ e0 Ag (by decide) (by decide) (x := e0') ((congrArg ge (by decide)).trans hg0) (hb hby d3_46) rfl ?_
      refine g_iadd X0 hx (hb hby d3_47) rfl ?_
      refine g_iload (i := 7) X0 hx (hb hby d3_48) (by rfl) rfl ?_
      refine g_isub X0 hx (hb hby d3_50) rfl ?_
      refine g_icmp_ge X0 hx (hb hby d3_51) (by decide) (pt := 74) (by decide) rfl (fun _ => ?_) (fun q_ => absurd q_ (by rw [own_ltI, eb]; omega))
      exact k' ii
    | succ k ih =>
      intro ii row x g0 g1 g2 g3 k'
      have eb : ((row + e0') - (0 : Int32)).toInt = row.toInt + (e0'.toInt - ((0 : Int32)).toInt) := by rw [own_sub _ _ (by rw [own_add _ _ g0 (by omega) (by omega)]; omega) q0a, own_add _ _ g0 (by omega) (by omega)]; omega
      refine g_iload (i := 12) X0 hx (hb hby d3_38) (by rfl) rfl ?_
      refine g_iload (i := 11) X0 hx (hb hby d3_40) (by rfl) rfl ?_
      refine g_aload (i := 5) X0 hx (hb hby d3_42) (by rfl) rfl rfl ?_
      refine g_iload (i := 8) X0 hx (hb hby d3_44) (by rfl) rfl ?_
      refine g_iaload' X0 hx hZ e0 Ag (by decide) (by decide) (x := e0') ((congrArg ge (by decide)).trans hg0) (hb hby d3_46) rfl ?_
      refine g_iadd X0 hx (hb hby d3_47) rfl ?_
      refine g_iload (i := 7) X0 hx (hb hby d3_48) (by rfl) rfl ?_
      refine g_isub X0 hx (hb hby d3_50) rfl ?_
      refine g_icmp_ge X0 hx (hb hby d3_51) (by decide) (pt := 74) (by decide) rfl (fun q_ => absurd (by rw [own_ltI, eb]; omega) q_) (fun _ => ?_)
      refine g_lload (i := 9) X0 hx (hb hby d3_54) (by rfl) rfl ?_
      refine g_aload_n (i := 1) X0 hx (hb hby d3_56) (by rfl) rfl rfl ?_
      refine g_iload (i := 12) X0 hx (hb hby d3_57) (by rfl) rfl ?_
      refine g_baload' X0 hx hZ e0 As (own_nneg (by omega)) (by rw [own_tnc]; omega) (x := (f ii.toNatClampNeg)) rfl (hb hby d3_59) rfl ?_
      refine g_sipush (v := (255 : Int32)) X0 hx (hb hby d3_60) (by decide) rfl ?_
      refine g_iand X0 hx (hb hby d3_63) rfl ?_
      refine g_i2l X0 hx (hb hby d3_64) rfl ?_
      refine g_ladd X0 hx (hb hby d3_65) rfl ?_
      refine g_lstore (i := 9) X0 hx #[.val (.ref a), .val (.ref sb), .val (.int ofs), .val (.int strd), .val (.int nrow), .val (.ref rb), .val (.ref ub), .val (.int (0 : Int32)), .val (.int (0 : Int32)), .val (.long (x + ((f ii.toNatClampNeg) &&& (255 : Int32)).toInt64)), .second, .val (.int row), .val (.int ii)] (hb hby d3_66) rfl rfl ?_
      refine g_iinc (i := 12) (x := ii) (y := (ii + (1 : Int32))) X0 hx #[.val (.ref a), .val (.ref sb), .val (.int ofs), .val (.int strd), .val (.int nrow), .val (.ref rb), .val (.ref ub), .val (.int (0 : Int32)), .val (.int (0 : Int32)), .val (.long (x + ((f ii.toNatClampNeg) &&& (255 : Int32)).toInt64)), .second, .val (.int row), .val (.int (ii + (1 : Int32)))] (hb hby d3_68) (by rfl) (by rfl) rfl rfl ?_
      refine g_goto X0 hx (hb hby d3_71) (by decide) (by decide) (pc' := 38) ?_
      have e1 := own_inc (i := ii) (by omega)
      refine ih _ row _ g0 (by omega) (by omega) (by omega) (fun i' => ?_)
      have hk := k' i'
      rw [show own_row f ii.toInt.toNat (k + 1) x = own_row f (ii + 1).toInt.toNat k (x + (f ii.toNatClampNeg &&& 255).toInt64) by
        rw [e1, show (ii.toInt + 1).toNat = ii.toInt.toNat + 1 by omega]; rfl] at hk
      exact hk
  have mid0 : ∀ (k r : Nat) (row : Int32) (x : Int64) (s12 : Slot), One s12 → r + k = R → row.toInt = ofs.toInt + ((0 : Int32)).toInt + ((r * S : Nat) : Int) → (∀ (row' : Int32) (t12 : Slot), One t12 → Goes p e below (KQ s ({ frames := 0, cells := 0, slots := 0, locals := 0 } : Room).cells ({ frames := 0, cells := 0, slots := 0, locals := 0 } : Room).slots (fun v h L => ∃ g', v = some (.int 1) ∧ Fr n0 L ∧ ArJ Z h ub .long 12 g' ∧ (g' 0 = 255 * nrow.toInt64 * (e0' - (0 : Int32)).toInt64 ∧ g' 1 = (own_blk f S (e0'.toInt - 0).toNat (ofs.toInt + 0).toNat R 0) ∧ g' 2 = (own_blk f S (e0'.toInt - 0).toNat (ofs.toInt + 0).toNat R 0) ∧ g' 3 = (own_blk f S (e0'.toInt - 0).toNat (ofs.toInt + 0).toNat R 0)) ∧ (g' 4 = g 4) ∧ (g' 5 = g 5) ∧ (g' 6 = g 6) ∧ (g' 7 = g 7) ∧ (g' 8 = g 8) ∧ (g' 9 = g 9) ∧ (g' 10 = g 10) ∧ (g' 11 = g 11))) s₁ (mkF m 83 #[.val (.ref a), .val (.ref sb), .val (.int ofs), .val (.int strd), .val (.int nrow), .val (.ref rb), .val (.ref ub), .val (.int (0 : Int32)), .val (.int (0 : Int32)), .val (.long (own_blk f S (e0'.toInt - ((0 : Int32)).toInt).toNat row.toInt.toNat k x)), .second, .val (.int row'), t12] [])) → Goes p e below (KQ s ({ frames := 0, cells := 0, slots := 0, locals := 0 } : Room).cells ({ frames := 0, cells := 0, slots := 0, locals := 0 } : Room).slots (fun v h L => ∃ g', v = some (.int 1) ∧ Fr n0 L ∧ ArJ Z h ub .long 12 g' ∧ (g' 0 = 255 * nrow.toInt64 * (e0' - (0 : Int32)).toInt64 ∧ g' 1 = (own_blk f S (e0'.toInt - 0).toNat (ofs.toInt + 0).toNat R 0) ∧ g' 2 = (own_blk f S (e0'.toInt - 0).toNat (ofs.toInt + 0).toNat R 0) ∧ g' 3 = (own_blk f S (e0'.toInt - 0).toNat (ofs.toInt + 0).toNat R 0)) ∧ (g' 4 = g 4) ∧ (g' 5 = g 5) ∧ (g' 6 = g 6) ∧ (g' 7 = g 7) ∧ (g' 8 = g 8) ∧ (g' 9 = g 9) ∧ (g' 10 = g 10) ∧ (g' 11 = g 11))) s₁ (mkF m 23 #[.val (.ref a), .val (.ref sb), .val (.int ofs), .val (.int strd), .val (.int nrow), .val (.ref rb), .val (.ref ub), .val (.int (0 : Int32)), .val (.int (0 : Int32)), .val (.long x), .second, .val (.int row), s12] []) := by
    intro k
    induction k with
    | zero =>
      intro r row x s12 hs g1 g2 k'
      have hrR : r * S = R * S := by rw [show r = R by omega]
      refine g_iload (i := 11) X0 hx (hb hby d3_23) (by rfl) rfl ?_
      refine g_iload_n (i := 2) X0 hx (hb hby d3_25) (by rfl) rfl ?_
      refine g_iload (i := 4) X0 hx (hb hby d3_26) (by rfl) rfl ?_
      refine g_iload_n (i := 3) X0 hx (hb hby d3_28) (by rfl) rfl ?_
      refine g_imul X0 hx (hb hby d3_29) rfl ?_
      refine g_iadd X0 hx (hb hby d3_30) rfl ?_
      refine g_icmp_ge X0 hx (hb hby d3_31) (by decide) (pt := 83) (by decide) rfl (fun _ => ?_) (fun q_ => absurd q_ (by rw [own_ltI, q0d]; omega))
      exact k' row s12 hs
    | succ k ih =>
      intro r row x s12 hs g1 g2 k'
      have hrS : (r + 1) * S = r * S + S := Nat.succ_mul r S
      have hle : (r + 1) * S ≤ R * S := Nat.mul_le_mul_right S (by omega)
      have hr8 : r * S ≤ 8 := by
        have h3 : r = 0 ∨ r = 1 ∨ r = 2 := by omega
        rcases h3 with rfl | rfl | rfl <;> omega
      refine g_iload (i := 11) X0 hx (hb hby d3_23) (by rfl) rfl ?_
      refine g_iload_n (i := 2) X0 hx (hb hby d3_25) (by rfl) rfl ?_
      refine g_iload (i := 4) X0 hx (hb hby d3_26) (by rfl) rfl ?_
      refine g_iload_n (i := 3) X0 hx (hb hby d3_28) (by rfl) rfl ?_
      refine g_imul X0 hx (hb hby d3_29) rfl ?_
      refine g_iadd X0 hx (hb hby d3_30) rfl ?_
      refine g_icmp_ge X0 hx (hb hby d3_31) (by decide) (pt := 83) (by decide) rfl (fun q_ => absurd (by rw [own_ltI, q0d]; omega) q_) (fun _ => ?_)
      refine g_iload (i := 11) X0 hx (hb hby d3_34) (by rfl) rfl ?_
      refine g_istore (i := 12) X0 hx #[.val (.ref a), .val (.ref sb), .val (.int ofs), .val (.int strd), .val (.int nrow), .val (.ref rb), .val (.ref ub), .val (.int (0 : Int32)), .val (.int (0 : Int32)), .val (.long x), .second, .val (.int row), .val (.int row)] (hb hby d3_36) (XS.store1 (o := s12) rfl hs rfl) rfl ?_
      refine inner0 (e0'.toInt - ((0 : Int32)).toInt).toNat row row x (by omega) (by omega) (by omega) (by omega) (fun i' => ?_)
      refine g_iload (i := 11) X0 hx (hb hby d3_74) (by rfl) rfl ?_
      refine g_iload_n (i := 3) X0 hx (hb hby d3_76) (by rfl) rfl ?_
      refine g_iadd X0 hx (hb hby d3_77) rfl ?_
      refine g_istore (i := 11) X0 hx #[.val (.ref a), .val (.ref sb), .val (.int ofs), .val (.int strd), .val (.int nrow), .val (.ref rb), .val (.ref ub), .val (.int (0 : Int32)), .val (.int (0 : Int32)), .val (.long (own_row f row.toInt.toNat (e0'.toInt - ((0 : Int32)).toInt).toNat x)), .second, .val (.int (row + strd)), .val (.int i')] (hb hby d3_78) rfl rfl ?_
      refine g_goto X0 hx (hb hby d3_80) (by decide) (by decide) (pc' := 23) ?_
      have e2 : (row + strd).toInt = row.toInt + (S : Int) := by rw [own_add _ _ (by omega) (by omega) (by omega), hS]
      refine ih (r + 1) _ _ _ (One.val rfl) (by omega) (by omega) (fun row' t12 ht => ?_)
      have hk := k' row' t12 ht
      rw [show own_blk f S (e0'.toInt - ((0 : Int32)).toInt).toNat row.toInt.toNat (k + 1) x = own_blk f S (e0'.toInt - ((0 : Int32)).toInt).toNat (row + strd).toInt.toNat k (own_row f row.toInt.toNat (e0'.toInt - ((0 : Int32)).toInt).toNat x) by
        rw [e2, show (row.toInt + (S : Int)).toNat = row.toInt.toNat + S by omega]; rfl] at hk
      exact hk
  refine mid0 R 0 _ _ _ One.u (by omega) (by rw [q0e, Nat.zero_mul]; omega) (fun row0 t0 ht0 => ?_)
  rw [q0e]
  refine g_iconst (v := (4 : Int32)) X0 hx (hb hby d3_83) (by decide) rfl ?_
  refine g_iload (i := 8) X0 hx (hb hby d3_84) (by rfl) rfl ?_
  refine g_imul X0 hx (hb hby d3_86) rfl ?_
  rw [show ((4 : Int32) * (0 : Int32)) = (0 : Int32) by decide]
  refine g_istore (i := 11) X0 hx #[.val (.ref a), .val (.ref sb), .val (.int ofs), .val (.int strd), .val (.int nrow), .val (.ref rb), .val (.ref ub), .val (.int (0 : Int32)), .val (.int (0 : Int32)), .val (.long (own_blk f S (e0'.toInt - ((0 : Int32)).toInt).toNat (ofs.toInt + ((0 : Int32)).toInt).toNat R (0 : Int64))), .second, .val (.int (0 : Int32)), t0] (hb hby d3_87) rfl rfl ?_
  refine g_aload (i := 6) X0 hx (hb hby d3_89) (by rfl) rfl rfl ?_
  refine g_iload (i := 11) X0 hx (hb hby d3_91) (by rfl) rfl ?_
  refine g_ldc2J X0 hx hZ hown (wd hw 18 rfl) (hb hby d3_93) rfl ?_
  refine g_iload (i := 4) X0 hx (hb hby d3_96) (by rfl) rfl ?_
  refine g_i2l X0 hx (hb hby d3_98) rfl ?_
  refine g_lmul X0 hx (hb hby d3_99) rfl ?_
  refine g_aload (i := 5) X0 hx (hb hby d3_100) (by rfl) rfl rfl ?_
  refine g_iload (i := 8) X0 hx (hb hby d3_102) (by rfl) rfl ?_
  refine g_iaload' X0 hx hZ e0 Ag (by decide) (by decide) (x := e0') ((congrArg ge (by decide)).trans hg0) (hb hby d3_104) rfl ?_
  refine g_iload (i := 7) X0 hx (hb hby d3_105) (by rfl) rfl ?_
  refine g_isub X0 hx (hb hby d3_107) rfl ?_
  refine g_i2l X0 hx (hb hby d3_108) rfl ?_
  refine g_lmul X0 hx (hb hby d3_109) rfl ?_
  refine g_lastoreN X0 hx hZ e0 Au 0 (by decide) (by decide) (by decide) (hb hby d3_110) rfl ?_
  intro T23 h23 X23 e23 W23 Ar23
  have N23 := Fr.snoc X23 (Fr.nil n0) gu
  have As23 := As.other W23 hsb
  have Ag23 := Ag.other W23 hrb
  refine g_aload (i := 6) X23 hx (hb hby d3_111) (by rfl) rfl rfl ?_
  refine g_iload (i := 11) X23 hx (hb hby d3_113) (by rfl) rfl ?_
  refine g_iconst (v := (1 : Int32)) X23 hx (hb hby d3_115) (by decide) rfl ?_
  refine g_iadd X23 hx (hb hby d3_116) rfl ?_
  rw [show ((0 : Int32) + (1 : Int32)) = (1 : Int32) by decide]
  refine g_lload (i := 9) X23 hx (hb hby d3_117) (by rfl) rfl ?_
  refine g_lastoreN X23 hx hZ e23 Ar23 1 (by decide) (by decide) (by decide) (hb hby d3_119) rfl ?_
  intro T24 h24 X24 e24 W24 Ar24
  have N24 := Fr.snoc X24 N23 gu
  have As24 := As23.other W24 hsb
  have Ag24 := Ag23.other W24 hrb
  refine g_aload (i := 6) X24 hx (hb hby d3_120) (by rfl) rfl rfl ?_
  refine g_iload (i := 11) X24 hx (hb hby d3_122) (by rfl) rfl ?_
  refine g_iconst (v := (2 : Int32)) X24 hx (hb hby d3_124) (by decide) rfl ?_
  refine g_iadd X24 hx (hb hby d3_125) rfl ?_
  rw [show ((0 : Int32) + (2 : Int32)) = (2 : Int32) by decide]
  refine g_lload (i := 9) X24 hx (hb hby d3_126) (by rfl) rfl ?_
  refine g_lastoreN X24 hx hZ e24 Ar24 2 (by decide) (by decide) (by decide) (hb hby d3_128) rfl ?_
  intro T25 h25 X25 e25 W25 Ar25
  have N25 := Fr.snoc X25 N24 gu
  have As25 := As24.other W25 hsb
  have Ag25 := Ag24.other W25 hrb
  refine g_aload (i := 6) X25 hx (hb hby d3_129) (by rfl) rfl rfl ?_
  refine g_iload (i := 11) X25 hx (hb hby d3_131) (by rfl) rfl ?_
  refine g_iconst (v := (3 : Int32)) X25 hx (hb hby d3_133) (by decide) rfl ?_
  refine g_iadd X25 hx (hb hby d3_134) rfl ?_
  rw [show ((0 : Int32) + (3 : Int32)) = (3 : Int32) by decide]
  refine g_lload (i := 9) X25 hx (hb hby d3_135) (by rfl) rfl ?_
  refine g_lastoreN X25 hx hZ e25 Ar25 3 (by decide) (by decide) (by decide) (hb hby d3_137) rfl ?_
  intro T26 h26 X26 e26 W26 Ar26
  have N26 := Fr.snoc X26 N25 gu
  have As26 := As25.other W26 hsb
  have Ag26 := Ag25.other W26 hrb
  refine g_aload (i := 5) X26 hx (hb hby d3_138) (by rfl) rfl rfl ?_
  refine g_iload (i := 8) X26 hx (hb hby d3_140) (by rfl) rfl ?_
  refine g_iaload' X26 hx hZ e26 Ag26 (by decide) (by decide) (x := e0') ((congrArg ge (by decide)).trans hg0) (hb hby d3_142) rfl ?_
  refine g_istore (i := 7) X26 hx #[.val (.ref a), .val (.ref sb), .val (.int ofs), .val (.int strd), .val (.int nrow), .val (.ref rb), .val (.ref ub), .val (.int e0'), .val (.int (0 : Int32)), .val (.long (own_blk f S (e0'.toInt - ((0 : Int32)).toInt).toNat (ofs.toInt + ((0 : Int32)).toInt).toNat R (0 : Int64))), .second, .val (.int (0 : Int32)), t0] (hb hby d3_143) rfl rfl ?_
  refine g_iinc (i := 8) (x := (0 : Int32)) (y := (1 : Int32)) X26 hx #[.val (.ref a), .val (.ref sb), .val (.int ofs), .val (.int strd), .val (.int nrow), .val (.ref rb), .val (.ref ub), .val (.int e0'), .val (.int (1 : Int32)), .val (.long (own_blk f S (e0'.toInt - ((0 : Int32)).toInt).toNat (ofs.toInt + ((0 : Int32)).toInt).toNat R (0 : Int64))), .second, .val (.int (0 : Int32)), t0] (hb hby d3_145) (by rfl) (by decide) rfl rfl ?_
  refine g_goto X26 hx (hb hby d3_148) (by decide) (by decide) (pc' := 6) ?_
  refine g_iload (i := 8) X26 hx (hb hby d3_6) (by rfl) rfl ?_
  refine g_aload (i := 5) X26 hx (hb hby d3_8) (by rfl) rfl rfl ?_
  refine g_arraylengthI X26 hx hZ e26 Ag26 (z := (1 : Int32)) (by decide) (hb hby d3_10) rfl ?_
  refine g_icmp_ge X26 hx (hb hby d3_11) (by decide) (pt := 151) (by decide) rfl (fun _ => ?_) (fun q_ => absurd q_ (by decide))
  refine g_iconst (v := (1 : Int32)) X26 hx (hb hby d3_151) (by decide) rfl ?_
  exact g_retN X26 hx (t := .boolean) (by simp) hlk hret e26 (by decide) (by decide) (hb hby d3_152) ⟨_, rfl, N26, Ar26, ⟨rfl, rfl, rfl, rfl⟩, rfl, rfl, rfl, rfl, rfl, rfl, rfl, rfl⟩
theorem ef_rm_sum2 (m : MethodId) (x0 : Addr) (x1 : Addr) (x2 : Int32) (x3 : Int32) (x4 : Int32) (x5 : Addr) (x6 : Addr)  : entryFrame m #[(.ref x0), (.ref x1), (.int x2), (.int x3), (.int x4), (.ref x5), (.ref x6)] 13 = mkF m 0 #[.val (.ref x0), .val (.ref x1), .val (.int x2), .val (.int x3), .val (.int x4), .val (.ref x5), .val (.ref x6), .unset, .unset, .unset, .unset, .unset, .unset] [] := by first | (simp [entryFrame, mkF, argsToLocals, Value.category]; done) | rfl
set_option maxRecDepth 65536 in
set_option maxHeartbeats 40000000 in
theorem rm_sum2 (l : Launch) (Z : State) (a0 : Array Value) (hw : ∀ d ∈ tables_1, d.before a0 Z = true) (a sb rb ub : Addr) (ofs strd nrow : Int32) (e0' e1' : Int32) (W : Int) (S R : Nat) (f ge : Nat → Int32) (g : Nat → Int64) (h0 : Heap) (n0 : Nat) (As : ArI Z h0 sb .byte 12 f) (Ag : ArI Z h0 rb .int 2 ge) (Au : ArJ Z h0 ub .long 12 g) (hrb : rb ≠ ub) (hsb : sb ≠ ub) (gu : n0 ≤ ub) (ho : 0 ≤ ofs.toInt) (ho1 : ofs.toInt ≤ 1) (hS : strd.toInt = (S : Int)) (hWS : W ≤ (S : Int)) (hW3 : W ≤ 3) (hS4 : (S : Int) ≤ 4) (hR : nrow.toInt = (R : Int)) (hR3 : R = 1 ∨ R = 2 ∨ R = 3) (hg0 : ge 0 = e0') (he0 : 0 < e0'.toInt) (hg1 : ge 1 = e1') (he1 : e0'.toInt < e1'.toInt) (heW : e1'.toInt ≤ W) :
    Ctr l Z (⟨"com/example/scanstride/scanstride/JpegSurface$Grey", "sumRuns", "([BIII[I[J)Z"⟩ : MethodName) prog_39_method_5_code 13 (Option.some FieldType.boolean) [] ({ frames := 0, cells := 0, slots := 0, locals := 0 } : Room) ({ frames := 0, cells := 0, slots := 0, locals := 0 } : Room).cells ({ frames := 0, cells := 0, slots := 0, locals := 0 } : Room).slots #[(.ref a), (.ref sb), (.int ofs), (.int strd), (.int nrow), (.ref rb), (.ref ub)] h0 (fun v h L => ∃ g', v = some (.int 1) ∧ Fr n0 L ∧ ArJ Z h ub .long 12 g' ∧ (g' 0 = 255 * nrow.toInt64 * (e0' - (0 : Int32)).toInt64 ∧ g' 1 = (own_blk f S (e0'.toInt - 0).toNat (ofs.toInt + 0).toNat R 0) ∧ g' 2 = (own_blk f S (e0'.toInt - 0).toNat (ofs.toInt + 0).toNat R 0) ∧ g' 3 = (own_blk f S (e0'.toInt - 0).toNat (ofs.toInt + 0).toNat R 0)) ∧ (g' 4 = 255 * nrow.toInt64 * (e1' - e0').toInt64 ∧ g' 5 = (own_blk f S (e1'.toInt - e0'.toInt).toNat (ofs.toInt + e0'.toInt).toNat R 0) ∧ g' 6 = (own_blk f S (e1'.toInt - e0'.toInt).toNat (ofs.toInt + e0'.toInt).toNat R 0) ∧ g' 7 = (own_blk f S (e1'.toInt - e0'.toInt).toNat (ofs.toInt + e0'.toInt).toNat R 0)) ∧ (g' 8 = g 8) ∧ (g' 9 = g 9) ∧ (g' 10 = g 10) ∧ (g' 11 = g 11)) := by
  refine Ctr.of pn_22 ?_
  intro p e s m below meth c s₁ hx hby hml hown hnm hret hlk hZ X0 e0
  refine Goes.cast (ef_rm_sum2 m a sb ofs strd nrow rb ub) ?_
  have hRS : (nrow * strd).toInt = ((R * S : Nat) : Int) := own_mul nrow strd R S hR hS (by rcases hR3 with rfl | rfl | rfl <;> omega)
  have hRS2 : R * S ≤ 12 := by rcases hR3 with rfl | rfl | rfl <;> omega
  have hR4 : R ≤ 3 := by omega
  refine g_iconst (v := (0 : Int32)) X0 hx (hb hby d3_0) (by decide) rfl ?_
  refine g_istore (i := 7) X0 hx #[.val (.ref a), .val (.ref sb), .val (.int ofs), .val (.int strd), .val (.int nrow), .val (.ref rb), .val (.ref ub), .val (.int (0 : Int32)), .unset, .unset, .unset, .unset, .unset] (hb hby d3_1) rfl rfl ?_
  refine g_iconst (v := (0 : Int32)) X0 hx (hb hby d3_3) (by decide) rfl ?_
  refine g_istore (i := 8) X0 hx #[.val (.ref a), .val (.ref sb), .val (.int ofs), .val (.int strd), .val (.int nrow), .val (.ref rb), .val (.ref ub), .val (.int (0 : Int32)), .val (.int (0 : Int32)), .unset, .unset, .unset, .unset] (hb hby d3_4) rfl rfl ?_
  refine g_iload (i := 8) X0 hx (hb hby d3_6) (by rfl) rfl ?_
  refine g_aload (i := 5) X0 hx (hb hby d3_8) (by rfl) rfl rfl ?_
  refine g_arraylengthI X0 hx hZ e0 Ag (z := (2 : Int32)) (by decide) (hb hby d3_10) rfl ?_
  refine g_icmp_ge X0 hx (hb hby d3_11) (by decide) (pt := 151) (by decide) rfl (fun q_ => absurd (by decide) q_) (fun _ => ?_)
  refine g_lconst (v := (0 : Int64)) X0 hx (hb hby d3_14) (by decide) rfl ?_
  refine g_lstore (i := 9) X0 hx #[.val (.ref a), .val (.ref sb), .val (.int ofs), .val (.int strd), .val (.int nrow), .val (.ref rb), .val (.ref ub), .val (.int (0 : Int32)), .val (.int (0 : Int32)), .val (.long (0 : Int64)), .second, .unset, .unset] (hb hby d3_15) rfl rfl ?_
  refine g_iload_n (i := 2) X0 hx (hb hby d3_17) (by rfl) rfl ?_
  refine g_iload (i := 7) X0 hx (hb hby d3_18) (by rfl) rfl ?_
  refine g_iadd X0 hx (hb hby d3_20) rfl ?_
  refine g_istore (i := 11) X0 hx #[.val (.ref a), .val (.ref sb), .val (.int ofs), .val (.int strd), .val (.int nrow), .val (.ref rb), .val (.ref ub), .val (.int (0 : Int32)), .val (.int (0 : Int32)), .val (.long (0 : Int64)), .second, .val (.int (ofs + (0 : Int32))), .unset] (hb hby d3_21) rfl rfl ?_
  have q0a : 0 ≤ ((0 : Int32)).toInt := by decide
  have q0b : ((0 : Int32)).toInt < e0'.toInt := by first | omega | (rw [show (0 : Int32).toInt = 0 from rfl]; omega)
  have q0c : e0'.toInt ≤ W := by omega
  have q0d : ((ofs + nrow * strd)).toInt = ofs.toInt + ((R * S : Nat) : Int) := by rw [own_add _ _ ho (by omega) (by omega), hRS]
  have q0e : ((ofs + (0 : Int32))).toInt = ofs.toInt + ((0 : Int32)).toInt := own_add _ _ ho q0a (by omega)
  have inner0 : ∀ (k : Nat) (ii row : Int32) (x : Int64), 0 ≤ row.toInt → row.toInt ≤ ii.toInt → ii.toInt + (k : Int) = row.toInt + (e0'.toInt - ((0 : Int32)).toInt) → ii.toInt + (k : Int) ≤ 12 → (∀ i' : Int32, Goes p e below (KQ s ({ frames := 0, cells := 0, slots := 0, locals := 0 } : Room).cells ({ frames := 0, cells := 0, slots := 0, locals := 0 } : Room).slots (fun v h L => ∃ g', v = some (.int 1) ∧ Fr n0 L ∧ ArJ Z h ub .long 12 g' ∧ (g' 0 = 255 * nrow.toInt64 * (e0' - (0 : Int32)).toInt64 ∧ g' 1 = (own_blk f S (e0'.toInt - 0).toNat (ofs.toInt + 0).toNat R 0) ∧ g' 2 = (own_blk f S (e0'.toInt - 0).toNat (ofs.toInt + 0).toNat R 0) ∧ g' 3 = (own_blk f S (e0'.toInt - 0).toNat (ofs.toInt + 0).toNat R 0)) ∧ (g' 4 = 255 * nrow.toInt64 * (e1' - e0').toInt64 ∧ g' 5 = (own_blk f S (e1'.toInt - e0'.toInt).toNat (ofs.toInt + e0'.toInt).toNat R 0) ∧ g' 6 = (own_blk f S (e1'.toInt - e0'.toInt).toNat (ofs.toInt + e0'.toInt).toNat R 0) ∧ g' 7 = (own_blk f S (e1'.toInt - e0'.toInt).toNat (ofs.toInt + e0'.toInt).toNat R 0)) ∧ (g' 8 = g 8) ∧ (g' 9 = g 9) ∧ (g' 10 = g 10) ∧ (g' 11 = g 11))) s₁ (mkF m 74 #[.val (.ref a), .val (.ref sb), .val (.int ofs), .val (.int strd), .val (.int nrow), .val (.ref rb), .val (.ref ub), .val (.int (0 : Int32)), .val (.int (0 : Int32)), .val (.long (own_row f ii.toInt.toNat k x)), .second, .val (.int row), .val (.int i')] [])) → Goes p e below (KQ s ({ frames := 0, cells := 0, slots := 0, locals := 0 } : Room).cells ({ frames := 0, cells := 0, slots := 0, locals := 0 } : Room).slots (fun v h L => ∃ g', v = some (.int 1) ∧ Fr n0 L ∧ ArJ Z h ub .long 12 g' ∧ (g' 0 = 255 * nrow.toInt64 * (e0' - (0 : Int32)).toInt64 ∧ g' 1 = (own_blk f S (e0'.toInt - 0).toNat (ofs.toInt + 0).toNat R 0) ∧ g' 2 = (own_blk f S (e0'.toInt - 0).toNat (ofs.toInt + 0).toNat R 0) ∧ g' 3 = (own_blk f S (e0'.toInt - 0).toNat (ofs.toInt + 0).toNat R 0)) ∧ (g' 4 = 255 * nrow.toInt64 * (e1' - e0').toInt64 ∧ g' 5 = (own_blk f S (e1'.toInt - e0'.toInt).toNat (ofs.toInt + e0'.toInt).toNat R 0) ∧ g' 6 = (own_blk f S (e1'.toInt - e0'.toInt).toNat (ofs.toInt + e0'.toInt).toNat R 0) ∧ g' 7 = (own_blk f S (e1'.toInt - e0'.toInt).toNat (ofs.toInt + e0'.toInt).toNat R 0)) ∧ (g' 8 = g 8) ∧ (g' 9 = g 9) ∧ (g' 10 = g 10) ∧ (g' 11 = g 11))) s₁ (mkF m 38 #[.val (.ref a), .val (.ref sb), .val (.int ofs), .val (.int strd), .val (.int nrow), .val (.ref rb), .val (.ref ub), .val (.int (0 : Int32)), .val (.int (0 : Int32)), .val (.long x), .second, .val (.int row), .val (.int ii)] []) := by
    intro k
    induction k with
    | zero =>
      intro ii row x g0 g1 g2 g3 k'
      have eb : ((row + e0') - (0 : Int32)).toInt = row.toInt + (e0'.toInt - ((0 : Int32)).toInt) := by rw [own_sub _ _ (by rw [own_add _ _ g0 (by omega) (by omega)]; omega) q0a, own_add _ _ g0 (by omega) (by omega)]; omega
      refine g_iload (i := 12) X0 hx (hb hby d3_38) (by rfl) rfl ?_
      refine g_iload (i := 11) X0 hx (hb hby d3_40) (by rfl) rfl ?_
      refine g_aload (i := 5) X0 hx (hb hby d3_42) (by rfl) rfl rfl ?_
      refine g_iload (i := 8) X0 hx (hb hby d3_44) (by rfl) rfl ?_
      refine g_iaload' X0 hx hZ e0 Ag (by decide) (by decide) (x := e0') ((congrArg ge (by decide)).trans hg0) (hb hby d3_46) rfl ?_
      refine g_iadd X0 hx (hb hby d3_47) rfl ?_
      refine g_iload (i := 7) X0 hx (hb hby d3_48) (by rfl) rfl ?_
      refine g_isub X0 hx (hb hby d3_50) rfl ?_
      refine g_icmp_ge X0 hx (hb hby d3_51) (by decide) (pt := 74) (by decide) rfl (fun _ => ?_) (fun q_ => absurd q_ (by rw [own_ltI, eb]; omega))
      exact k' ii
    | succ k ih =>
      intro ii row x g0 g1 g2 g3 k'
      have eb : ((row + e0') - (0 : Int32)).toInt = row.toInt + (e0'.toInt - ((0 : Int32)).toInt) := by rw [own_sub _ _ (by rw [own_add _ _ g0 (by omega) (by omega)]; omega) q0a, own_add _ _ g0 (by omega) (by omega)]; omega
      refine g_iload (i := 12) X0 hx (hb hby d3_38) (by rfl) rfl ?_
      refine g_iload (i := 11) X0 hx (hb hby d3_40) (by rfl) rfl ?_
      refine g_aload (i := 5) X0 hx (hb hby d3_42) (by rfl) rfl rfl ?_
      refine g_iload (i := 8) X0 hx (hb hby d3_44) (by rfl) rfl ?_
      refine g_iaload' X0 hx hZ e0 Ag (by decide) (by decide) (x := e0') ((congrArg ge (by decide)).trans hg0) (hb hby d3_46) rfl ?_
      refine g_iadd X0 hx (hb hby d3_47) rfl ?_
      refine g_iload (i := 7) X0 hx (hb hby d3_48) (by rfl) rfl ?_
      refine g_isub X0 hx (hb hby d3_50) rfl ?_
      refine g_icmp_ge X0 hx (hb hby d3_51) (by decide) (pt := 74) (by decide) rfl (fun q_ => absurd (by rw [own_ltI, eb]; omega) q_) (fun _ => ?_)
      refine g_lload (i := 9) X0 hx (hb hby d3_54) (by rfl) rfl ?_
      refine g_aload_n (i := 1) X0 hx (hb hby d3_56) (by rfl) rfl rfl ?_
      refine g_iload (i := 12) X0 hx (hb hby d3_57) (by rfl) rfl ?_
      refine g_baload' X0 hx hZ e0 As (own_nneg (by omega)) (by rw [own_tnc]; omega) (x := (f ii.toNatClampNeg)) rfl (hb hby d3_59) rfl ?_
      refine g_sipush (v := (255 : Int32)) X0 hx (hb hby d3_60) (by decide) rfl ?_
      refine g_iand X0 hx (hb hby d3_63) rfl ?_
      refine g_i2l X0 hx (hb hby d3_64) rfl ?_
      refine g_ladd X0 hx (hb hby d3_65) rfl ?_
      refine g_lstore (i := 9) X0 hx #[.val (.ref a), .val (.ref sb), .val (.int ofs), .val (.int strd), .val (.int nrow), .val (.ref rb), .val (.ref ub), .val (.int (0 : Int32)), .val (.int (0 : Int32)), .val (.long (x + ((f ii.toNatClampNeg) &&& (255 : Int32)).toInt64)), .second, .val (.int row), .val (.int ii)] (hb hby d3_66) rfl rfl ?_
      refine g_iinc (i := 12) (x := ii) (y := (ii + (1 : Int32))) X0 hx #[.val (.ref a), .val (.ref sb), .val (.int ofs), .val (.int strd), .val (.int nrow), .val (.ref rb), .val (.ref ub), .val (.int (0 : Int32)), .val (.int (0 : Int32)), .val (.long (x + ((f ii.toNatClampNeg) &&& (255 : Int32)).toInt64)), .second, .val (.int row), .val (.int (ii + (1 : Int32)))] (hb hby d3_68) (by rfl) (by rfl) rfl rfl ?_
      refine g_goto X0 hx (hb hby d3_71) (by decide) (by decide) (pc' := 38) ?_
      have e1 := own_inc (i := ii) (by omega)
      refine ih _ row _ g0 (by omega) (by omega) (by omega) (fun i' => ?_)
      have hk := k' i'
      rw [show own_row f ii.toInt.toNat (k + 1) x = own_row f (ii + 1).toInt.toNat k (x + (f ii.toNatClampNeg &&& 255).toInt64) by
        rw [e1, show (ii.toInt + 1).toNat = ii.toInt.toNat + 1 by omega]; rfl] at hk
      exact hk
  have mid0 : ∀ (k r : Nat) (row : Int32) (x : Int64) (s12 : Slot), One s12 → r + k = R → row.toInt = ofs.toInt + ((0 : Int32)).toInt + ((r * S : Nat) : Int) → (∀ (row' : Int32) (t12 : Slot), One t12 → Goes p e below (KQ s ({ frames := 0, cells := 0, slots := 0, locals := 0 } : Room).cells ({ frames := 0, cells := 0, slots := 0, locals := 0 } : Room).slots (fun v h L => ∃ g', v = some (.int 1) ∧ Fr n0 L ∧ ArJ Z h ub .long 12 g' ∧ (g' 0 = 255 * nrow.toInt64 * (e0' - (0 : Int32)).toInt64 ∧ g' 1 = (own_blk f S (e0'.toInt - 0).toNat (ofs.toInt + 0).toNat R 0) ∧ g' 2 = (own_blk f S (e0'.toInt - 0).toNat (ofs.toInt + 0).toNat R 0) ∧ g' 3 = (own_blk f S (e0'.toInt - 0).toNat (ofs.toInt + 0).toNat R 0)) ∧ (g' 4 = 255 * nrow.toInt64 * (e1' - e0').toInt64 ∧ g' 5 = (own_blk f S (e1'.toInt - e0'.toInt).toNat (ofs.toInt + e0'.toInt).toNat R 0) ∧ g' 6 = (own_blk f S (e1'.toInt - e0'.toInt).toNat (ofs.toInt + e0'.toInt).toNat R 0) ∧ g' 7 = (own_blk f S (e1'.toInt - e0'.toInt).toNat (ofs.toInt + e0'.toInt).toNat R 0)) ∧ (g' 8 = g 8) ∧ (g' 9 = g 9) ∧ (g' 10 = g 10) ∧ (g' 11 = g 11))) s₁ (mkF m 83 #[.val (.ref a), .val (.ref sb), .val (.int ofs), .val (.int strd), .val (.int nrow), .val (.ref rb), .val (.ref ub), .val (.int (0 : Int32)), .val (.int (0 : Int32)), .val (.long (own_blk f S (e0'.toInt - ((0 : Int32)).toInt).toNat row.toInt.toNat k x)), .second, .val (.int row'), t12] [])) → Goes p e below (KQ s ({ frames := 0, cells := 0, slots := 0, locals := 0 } : Room).cells ({ frames := 0, cells := 0, slots := 0, locals := 0 } : Room).slots (fun v h L => ∃ g', v = some (.int 1) ∧ Fr n0 L ∧ ArJ Z h ub .long 12 g' ∧ (g' 0 = 255 * nrow.toInt64 * (e0' - (0 : Int32)).toInt64 ∧ g' 1 = (own_blk f S (e0'.toInt - 0).toNat (ofs.toInt + 0).toNat R 0) ∧ g' 2 = (own_blk f S (e0'.toInt - 0).toNat (ofs.toInt + 0).toNat R 0) ∧ g' 3 = (own_blk f S (e0'.toInt - 0).toNat (ofs.toInt + 0).toNat R 0)) ∧ (g' 4 = 255 * nrow.toInt64 * (e1' - e0').toInt64 ∧ g' 5 = (own_blk f S (e1'.toInt - e0'.toInt).toNat (ofs.toInt + e0'.toInt).toNat R 0) ∧ g' 6 = (own_blk f S (e1'.toInt - e0'.toInt).toNat (ofs.toInt + e0'.toInt).toNat R 0) ∧ g' 7 = (own_blk f S (e1'.toInt - e0'.toInt).toNat (ofs.toInt + e0'.toInt).toNat R 0)) ∧ (g' 8 = g 8) ∧ (g' 9 = g 9) ∧ (g' 10 = g 10) ∧ (g' 11 = g 11))) s₁ (mkF m 23 #[.val (.ref a), .val (.ref sb), .val (.int ofs), .val (.int strd), .val (.int nrow), .val (.ref rb), .val (.ref ub), .val (.int (0 : Int32)), .val (.int (0 : Int32)), .val (.long x), .second, .val (.int row), s12] []) := by
    intro k
    induction k with
    | zero =>
      intro r row x s12 hs g1 g2 k'
      have hrR : r * S = R * S := by rw [show r = R by omega]
      refine g_iload (i := 11) X0 hx (hb hby d3_23) (by rfl) rfl ?_
      refine g_iload_n (i := 2) X0 hx (hb hby d3_25) (by rfl) rfl ?_
      refine g_iload (i := 4) X0 hx (hb hby d3_26) (by rfl) rfl ?_
      refine g_iload_n (i := 3) X0 hx (hb hby d3_28) (by rfl) rfl ?_
      refine g_imul X0 hx (hb hby d3_29) rfl ?_
      refine g_iadd X0 hx (hb hby d3_30) rfl ?_
      refine g_icmp_ge X0 hx (hb hby d3_31) (by decide) (pt := 83) (by decide) rfl (fun _ => ?_) (fun q_ => absurd q_ (by rw [own_ltI, q0d]; omega))
      exact k' row s12 hs
    | succ k ih =>
      intro r row x s12 hs g1 g2 k'
      have hrS : (r + 1) * S = r * S + S := Nat.succ_mul r S
      have hle : (r + 1) * S ≤ R * S := Nat.mul_le_mul_right S (by omega)
      have hr8 : r * S ≤ 8 := by
        have h3 : r = 0 ∨ r = 1 ∨ r = 2 := by omega
        rcases h3 with rfl | rfl | rfl <;> omega
      refine g_iload (i := 11) X0 hx (hb hby d3_23) (by rfl) rfl ?_
      refine g_iload_n (i := 2) X0 hx (hb hby d3_25) (by rfl) rfl ?_
      refine g_iload (i := 4) X0 hx (hb hby d3_26) (by rfl) rfl ?_
      refine g_iload_n (i := 3) X0 hx (hb hby d3_28) (by rfl) rfl ?_
      refine g_imul X0 hx (hb hby d3_29) rfl ?_
      refine g_iadd X0 hx (hb hby d3_30) rfl ?_
      refine g_icmp_ge X0 hx (hb hby d3_31) (by decide) (pt := 83) (by decide) rfl (fun q_ => absurd (by rw [own_ltI, q0d]; omega) q_) (fun _ => ?_)
      refine g_iload (i := 11) X0 hx (hb hby d3_34) (by rfl) rfl ?_
      refine g_istore (i := 12) X0 hx #[.val (.ref a), .val (.ref sb), .val (.int ofs), .val (.int strd), .val (.int nrow), .val (.ref rb), .val (.ref ub), .val (.int (0 : Int32)), .val (.int (0 : Int32)), .val (.long x), .second, .val (.int row), .val (.int row)] (hb hby d3_36) (XS.store1 (o := s12) rfl hs rfl) rfl ?_
      refine inner0 (e0'.toInt - ((0 : Int32)).toInt).toNat row row x (by omega) (by omega) (by omega) (by omega) (fun i' => ?_)
      refine g_iload (i := 11) X0 hx (hb hby d3_74) (by rfl) rfl ?_
      refine g_iload_n (i := 3) X0 hx (hb hby d3_76) (by rfl) rfl ?_
      refine g_iadd X0 hx (hb hby d3_77) rfl ?_
      refine g_istore (i := 11) X0 hx #[.val (.ref a), .val (.ref sb), .val (.int ofs), .val (.int strd), .val (.int nrow), .val (.ref rb), .val (.ref ub), .val (.int (0 : Int32)), .val (.int (0 : Int32)), .val (.long (own_row f row.toInt.toNat (e0'.toInt - ((0 : Int32)).toInt).toNat x)), .second, .val (.int (row + strd)), .val (.int i')] (hb hby d3_78) rfl rfl ?_
      refine g_goto X0 hx (hb hby d3_80) (by decide) (by decide) (pc' := 23) ?_
      have e2 : (row + strd).toInt = row.toInt + (S : Int) := by rw [own_add _ _ (by omega) (by omega) (by omega), hS]
      refine ih (r + 1) _ _ _ (One.val rfl) (by omega) (by omega) (fun row' t12 ht => ?_)
      have hk := k' row' t12 ht
      rw [show own_blk f S (e0'.toInt - ((0 : Int32)).toInt).toNat row.toInt.toNat (k + 1) x = own_blk f S (e0'.toInt - ((0 : Int32)).toInt).toNat (row + strd).toInt.toNat k (own_row f row.toInt.toNat (e0'.toInt - ((0 : Int32)).toInt).toNat x) by
        rw [e2, show (row.toInt + (S : Int)).toNat = row.toInt.toNat + S by omega]; rfl] at hk
      exact hk
  refine mid0 R 0 _ _ _ One.u (by omega) (by rw [q0e, Nat.zero_mul]; omega) (fun row0 t0 ht0 => ?_)
  rw [q0e]
  refine g_iconst (v := (4 : Int32)) X0 hx (hb hby d3_83) (by decide) rfl ?_
  refine g_iload (i := 8) X0 hx (hb hby d3_84) (by rfl) rfl ?_
  refine g_imul X0 hx (hb hby d3_86) rfl ?_
  rw [show ((4 : Int32) * (0 : Int32)) = (0 : Int32) by decide]
  refine g_istore (i := 11) X0 hx #[.val (.ref a), .val (.ref sb), .val (.int ofs), .val (.int strd), .val (.int nrow), .val (.ref rb), .val (.ref ub), .val (.int (0 : Int32)), .val (.int (0 : Int32)), .val (.long (own_blk f S (e0'.toInt - ((0 : Int32)).toInt).toNat (ofs.toInt + ((0 : Int32)).toInt).toNat R (0 : Int64))), .second, .val (.int (0 : Int32)), t0] (hb hby d3_87) rfl rfl ?_
  refine g_aload (i := 6) X0 hx (hb hby d3_89) (by rfl) rfl rfl ?_
  refine g_iload (i := 11) X0 hx (hb hby d3_91) (by rfl) rfl ?_
  refine g_ldc2J X0 hx hZ hown (wd hw 18 rfl) (hb hby d3_93) rfl ?_
  refine g_iload (i := 4) X0 hx (hb hby d3_96) (by rfl) rfl ?_
  refine g_i2l X0 hx (hb hby d3_98) rfl ?_
  refine g_lmul X0 hx (hb hby d3_99) rfl ?_
  refine g_aload (i := 5) X0 hx (hb hby d3_100) (by rfl) rfl rfl ?_
  refine g_iload (i := 8) X0 hx (hb hby d3_102) (by rfl) rfl ?_
  refine g_iaload' X0 hx hZ e0 Ag (by decide) (by decide) (x := e0') ((congrArg ge (by decide)).trans hg0) (hb hby d3_104) rfl ?_
  refine g_iload (i := 7) X0 hx (hb hby d3_105) (by rfl) rfl ?_
  refine g_isub X0 hx (hb hby d3_107) rfl ?_
  refine g_i2l X0 hx (hb hby d3_108) rfl ?_
  refine g_lmul X0 hx (hb hby d3_109) rfl ?_
  refine g_lastoreN X0 hx hZ e0 Au 0 (by decide) (by decide) (by decide) (hb hby d3_110) rfl ?_
  intro T28 h28 X28 e28 W28 Ar28
  have N28 := Fr.snoc X28 (Fr.nil n0) gu
  have As28 := As.other W28 hsb
  have Ag28 := Ag.other W28 hrb
  refine g_aload (i := 6) X28 hx (hb hby d3_111) (by rfl) rfl rfl ?_
  refine g_iload (i := 11) X28 hx (hb hby d3_113) (by rfl) rfl ?_
  refine g_iconst (v := (1 : Int32)) X28 hx (hb hby d3_115) (by decide) rfl ?_
  refine g_iadd X28 hx (hb hby d3_116) rfl ?_
  rw [show ((0 : Int32) + (1 : Int32)) = (1 : Int32) by decide]
  refine g_lload (i := 9) X28 hx (hb hby d3_117) (by rfl) rfl ?_
  refine g_lastoreN X28 hx hZ e28 Ar28 1 (by decide) (by decide) (by decide) (hb hby d3_119) rfl ?_
  intro T29 h29 X29 e29 W29 Ar29
  have N29 := Fr.snoc X29 N28 gu
  have As29 := As28.other W29 hsb
  have Ag29 := Ag28.other W29 hrb
  refine g_aload (i := 6) X29 hx (hb hby d3_120) (by rfl) rfl rfl ?_
  refine g_iload (i := 11) X29 hx (hb hby d3_122) (by rfl) rfl ?_
  refine g_iconst (v := (2 : Int32)) X29 hx (hb hby d3_124) (by decide) rfl ?_
  refine g_iadd X29 hx (hb hby d3_125) rfl ?_
  rw [show ((0 : Int32) + (2 : Int32)) = (2 : Int32) by decide]
  refine g_lload (i := 9) X29 hx (hb hby d3_126) (by rfl) rfl ?_
  refine g_lastoreN X29 hx hZ e29 Ar29 2 (by decide) (by decide) (by decide) (hb hby d3_128) rfl ?_
  intro T30 h30 X30 e30 W30 Ar30
  have N30 := Fr.snoc X30 N29 gu
  have As30 := As29.other W30 hsb
  have Ag30 := Ag29.other W30 hrb
  refine g_aload (i := 6) X30 hx (hb hby d3_129) (by rfl) rfl rfl ?_
  refine g_iload (i := 11) X30 hx (hb hby d3_131) (by rfl) rfl ?_
  refine g_iconst (v := (3 : Int32)) X30 hx (hb hby d3_133) (by decide) rfl ?_
  refine g_iadd X30 hx (hb hby d3_134) rfl ?_
  rw [show ((0 : Int32) + (3 : Int32)) = (3 : Int32) by decide]
  refine g_lload (i := 9) X30 hx (hb hby d3_135) (by rfl) rfl ?_
  refine g_lastoreN X30 hx hZ e30 Ar30 3 (by decide) (by decide) (by decide) (hb hby d3_137) rfl ?_
  intro T31 h31 X31 e31 W31 Ar31
  have N31 := Fr.snoc X31 N30 gu
  have As31 := As30.other W31 hsb
  have Ag31 := Ag30.other W31 hrb
  refine g_aload (i := 5) X31 hx (hb hby d3_138) (by rfl) rfl rfl ?_
  refine g_iload (i := 8) X31 hx (hb hby d3_140) (by rfl) rfl ?_
  refine g_iaload' X31 hx hZ e31 Ag31 (by decide) (by decide) (x := e0') ((congrArg ge (by decide)).trans hg0) (hb hby d3_142) rfl ?_
  refine g_istore (i := 7) X31 hx #[.val (.ref a), .val (.ref sb), .val (.int ofs), .val (.int strd), .val (.int nrow), .val (.ref rb), .val (.ref ub), .val (.int e0'), .val (.int (0 : Int32)), .val (.long (own_blk f S (e0'.toInt - ((0 : Int32)).toInt).toNat (ofs.toInt + ((0 : Int32)).toInt).toNat R (0 : Int64))), .second, .val (.int (0 : Int32)), t0] (hb hby d3_143) rfl rfl ?_
  refine g_iinc (i := 8) (x := (0 : Int32)) (y := (1 : Int32)) X31 hx #[.val (.ref a), .val (.ref sb), .val (.int ofs), .val (.int strd), .val (.int nrow), .val (.ref rb), .val (.ref ub), .val (.int e0'), .val (.int (1 : Int32)), .val (.long (own_blk f S (e0'.toInt - ((0 : Int32)).toInt).toNat (ofs.toInt + ((0 : Int32)).toInt).toNat R (0 : Int64))), .second, .val (.int (0 : Int32)), t0] (hb hby d3_145) (by rfl) (by decide) rfl rfl ?_
  refine g_goto X31 hx (hb hby d3_148) (by decide) (by decide) (pc' := 6) ?_
  refine g_iload (i := 8) X31 hx (hb hby d3_6) (by rfl) rfl ?_
  refine g_aload (i := 5) X31 hx (hb hby d3_8) (by rfl) rfl rfl ?_
  refine g_arraylengthI X31 hx hZ e31 Ag31 (z := (2 : Int32)) (by decide) (hb hby d3_10) rfl ?_
  refine g_icmp_ge X31 hx (hb hby d3_11) (by decide) (pt := 151) (by decide) rfl (fun q_ => absurd (by decide) q_) (fun _ => ?_)
  refine g_lconst (v := (0 : Int64)) X31 hx (hb hby d3_14) (by decide) rfl ?_
  refine g_lstore (i := 9) X31 hx #[.val (.ref a), .val (.ref sb), .val (.int ofs), .val (.int strd), .val (.int nrow), .val (.ref rb), .val (.ref ub), .val (.int e0'), .val (.int (1 : Int32)), .val (.long (0 : Int64)), .second, .val (.int (0 : Int32)), t0] (hb hby d3_15) rfl rfl ?_
  refine g_iload_n (i := 2) X31 hx (hb hby d3_17) (by rfl) rfl ?_
  refine g_iload (i := 7) X31 hx (hb hby d3_18) (by rfl) rfl ?_
  refine g_iadd X31 hx (hb hby d3_20) rfl ?_
  refine g_istore (i := 11) X31 hx #[.val (.ref a), .val (.ref sb), .val (.int ofs), .val (.int strd), .val (.int nrow), .val (.ref rb), .val (.ref ub), .val (.int e0'), .val (.int (1 : Int32)), .val (.long (0 : Int64)), .second, .val (.int (ofs + e0')), t0] (hb hby d3_21) rfl rfl ?_
  have q1a : 0 ≤ (e0').toInt := by omega
  have q1b : (e0').toInt < e1'.toInt := by first | omega | (rw [show (0 : Int32).toInt = 0 from rfl]; omega)
  have q1c : e1'.toInt ≤ W := by omega
  have q1d : ((ofs + nrow * strd)).toInt = ofs.toInt + ((R * S : Nat) : Int) := by rw [own_add _ _ ho (by omega) (by omega), hRS]
  have q1e : ((ofs + e0')).toInt = ofs.toInt + (e0').toInt := own_add _ _ ho q1a (by omega)
  have inner1 : ∀ (k : Nat) (ii row : Int32) (x : Int64), 0 ≤ row.toInt → row.toInt ≤ ii.toInt → ii.toInt + (k : Int) = row.toInt + (e1'.toInt - (e0').toInt) → ii.toInt + (k : Int) ≤ 12 → (∀ i' : Int32, Goes p e below (KQ s ({ frames := 0, cells := 0, slots := 0, locals := 0 } : Room).cells ({ frames := 0, cells := 0, slots := 0, locals := 0 } : Room).slots (fun v h L => ∃ g', v = some (.int 1) ∧ Fr n0 L ∧ ArJ Z h ub .long 12 g' ∧ (g' 0 = 255 * nrow.toInt64 * (e0' - (0 : Int32)).toInt64 ∧ g' 1 = (own_blk f S (e0'.toInt - 0).toNat (ofs.toInt + 0).toNat R 0) ∧ g' 2 = (own_blk f S (e0'.toInt - 0).toNat (ofs.toInt + 0).toNat R 0) ∧ g' 3 = (own_blk f S (e0'.toInt - 0).toNat (ofs.toInt + 0).toNat R 0)) ∧ (g' 4 = 255 * nrow.toInt64 * (e1' - e0').toInt64 ∧ g' 5 = (own_blk f S (e1'.toInt - e0'.toInt).toNat (ofs.toInt + e0'.toInt).toNat R 0) ∧ g' 6 = (own_blk f S (e1'.toInt - e0'.toInt).toNat (ofs.toInt + e0'.toInt).toNat R 0) ∧ g' 7 = (own_blk f S (e1'.toInt - e0'.toInt).toNat (ofs.toInt + e0'.toInt).toNat R 0)) ∧ (g' 8 = g 8) ∧ (g' 9 = g 9) ∧ (g' 10 = g 10) ∧ (g' 11 = g 11))) T31 (mkF m 74 #[.val (.ref a), .val (.ref sb), .val (.int ofs), .val (.int strd), .val (.int nrow), .val (.ref rb), .val (.ref ub), .val (.int e0'), .val (.int (1 : Int32)), .val (.long (own_row f ii.toInt.toNat k x)), .second, .val (.int row), .val (.int i')] [])) → Goes p e below (KQ s ({ frames := 0, cells := 0, slots := 0, locals := 0 } : Room).cells ({ frames := 0, cells := 0, slots := 0, locals := 0 } : Room).slots (fun v h L => ∃ g', v = some (.int 1) ∧ Fr n0 L ∧ ArJ Z h ub .long 12 g' ∧ (g' 0 = 255 * nrow.toInt64 * (e0' - (0 : Int32)).toInt64 ∧ g' 1 = (own_blk f S (e0'.toInt - 0).toNat (ofs.toInt + 0).toNat R 0) ∧ g' 2 = (own_blk f S (e0'.toInt - 0).toNat (ofs.toInt + 0).toNat R 0) ∧ g' 3 = (own_blk f S (e0'.toInt - 0).toNat (ofs.toInt + 0).toNat R 0)) ∧ (g' 4 = 255 * nrow.toInt64 * (e1' - e0').toInt64 ∧ g' 5 = (own_blk f S (e1'.toInt - e0'.toInt).toNat (ofs.toInt + e0'.toInt).toNat R 0) ∧ g' 6 = (own_blk f S (e1'.toInt - e0'.toInt).toNat (ofs.toInt + e0'.toInt).toNat R 0) ∧ g' 7 = (own_blk f S (e1'.toInt - e0'.toInt).toNat (ofs.toInt + e0'.toInt).toNat R 0)) ∧ (g' 8 = g 8) ∧ (g' 9 = g 9) ∧ (g' 10 = g 10) ∧ (g' 11 = g 11))) T31 (mkF m 38 #[.val (.ref a), .val (.ref sb), .val (.int ofs), .val (.int strd), .val (.int nrow), .val (.ref rb), .val (.ref ub), .val (.int e0'), .val (.int (1 : Int32)), .val (.long x), .second, .val (.int row), .val (.int ii)] []) := by
    intro k
    induction k with
    | zero =>
      intro ii row x g0 g1 g2 g3 k'
      have eb : ((row + e1') - e0').toInt = row.toInt + (e1'.toInt - (e0').toInt) := by rw [own_sub _ _ (by rw [own_add _ _ g0 (by omega) (by omega)]; omega) q1a, own_add _ _ g0 (by omega) (by omega)]; omega
      refine g_iload (i := 12) X31 hx (hb hby d3_38) (by rfl) rfl ?_
      refine g_iload (i := 11) X31 hx (hb hby d3_40) (by rfl) rfl ?_
      refine g_aload (i := 5) X31 hx (hb hby d3_42) (by rfl) rfl rfl ?_
      refine g_iload (i := 8) X31 hx (hb hby d3_44) (by rfl) rfl ?_
      refine g_iaload' X31 hx hZ e31 Ag31 (by decide) (by decide) (x := e1') ((congrArg ge (by decide)).trans hg1) (hb hby d3_46) rfl ?_
      refine g_iadd X31 hx (hb hby d3_47) rfl ?_
      refine g_iload (i := 7) X31 hx (hb hby d3_48) (by rfl) rfl ?_
      refine g_isub X31 hx (hb hby d3_50) rfl ?_
      refine g_icmp_ge X31 hx (hb hby d3_51) (by decide) (pt := 74) (by decide) rfl (fun _ => ?_) (fun q_ => absurd q_ (by rw [own_ltI, eb]; omega))
      exact k' ii
    | succ k ih =>
      intro ii row x g0 g1 g2 g3 k'
      have eb : ((row + e1') - e0').toInt = row.toInt + (e1'.toInt - (e0').toInt) := by rw [own_sub _ _ (by rw [own_add _ _ g0 (by omega) (by omega)]; omega) q1a, own_add _ _ g0 (by omega) (by omega)]; omega
      refine g_iload (i := 12) X31 hx (hb hby d3_38) (by rfl) rfl ?_
      refine g_iload (i := 11) X31 hx (hb hby d3_40) (by rfl) rfl ?_
      refine g_aload (i := 5) X31 hx (hb hby d3_42) (by rfl) rfl rfl ?_
      refine g_iload (i := 8) X31 hx (hb hby d3_44) (by rfl) rfl ?_
      refine g_iaload' X31 hx hZ e31 Ag31 (by decide) (by decide) (x := e1') ((congrArg ge (by decide)).trans hg1) (hb hby d3_46) rfl ?_
      refine g_iadd X31 hx (hb hby d3_47) rfl ?_
      refine g_iload (i := 7) X31 hx (hb hby d3_48) (by rfl) rfl ?_
      refine g_isub X31 hx (hb hby d3_50) rfl ?_
      refine g_icmp_ge X31 hx (hb hby d3_51) (by decide) (pt := 74) (by decide) rfl (fun q_ => absurd (by rw [own_ltI, eb]; omega) q_) (fun _ => ?_)
      refine g_lload (i := 9) X31 hx (hb hby d3_54) (by rfl) rfl ?_
      refine g_aload_n (i := 1) X31 hx (hb hby d3_56) (by rfl) rfl rfl ?_
      refine g_iload (i := 12) X31 hx (hb hby d3_57) (by rfl) rfl ?_
      refine g_baload' X31 hx hZ e31 As31 (own_nneg (by omega)) (by rw [own_tnc]; omega) (x := (f ii.toNatClampNeg)) rfl (hb hby d3_59) rfl ?_
      refine g_sipush (v := (255 : Int32)) X31 hx (hb hby d3_60) (by decide) rfl ?_
      refine g_iand X31 hx (hb hby d3_63) rfl ?_
      refine g_i2l X31 hx (hb hby d3_64) rfl ?_
      refine g_ladd X31 hx (hb hby d3_65) rfl ?_
      refine g_lstore (i := 9) X31 hx #[.val (.ref a), .val (.ref sb), .val (.int ofs), .val (.int strd), .val (.int nrow), .val (.ref rb), .val (.ref ub), .val (.int e0'), .val (.int (1 : Int32)), .val (.long (x + ((f ii.toNatClampNeg) &&& (255 : Int32)).toInt64)), .second, .val (.int row), .val (.int ii)] (hb hby d3_66) rfl rfl ?_
      refine g_iinc (i := 12) (x := ii) (y := (ii + (1 : Int32))) X31 hx #[.val (.ref a), .val (.ref sb), .val (.int ofs), .val (.int strd), .val (.int nrow), .val (.ref rb), .val (.ref ub), .val (.int e0'), .val (.int (1 : Int32)), .val (.long (x + ((f ii.toNatClampNeg) &&& (255 : Int32)).toInt64)), .second, .val (.int row), .val (.int (ii + (1 : Int32)))] (hb hby d3_68) (by rfl) (by rfl) rfl rfl ?_
      refine g_goto X31 hx (hb hby d3_71) (by decide) (by decide) (pc' := 38) ?_
      have e1 := own_inc (i := ii) (by omega)
      refine ih _ row _ g0 (by omega) (by omega) (by omega) (fun i' => ?_)
      have hk := k' i'
      rw [show own_row f ii.toInt.toNat (k + 1) x = own_row f (ii + 1).toInt.toNat k (x + (f ii.toNatClampNeg &&& 255).toInt64) by
        rw [e1, show (ii.toInt + 1).toNat = ii.toInt.toNat + 1 by omega]; rfl] at hk
      exact hk
  have mid1 : ∀ (k r : Nat) (row : Int32) (x : Int64) (s12 : Slot), One s12 → r + k = R → row.toInt = ofs.toInt + (e0').toInt + ((r * S : Nat) : Int) → (∀ (row' : Int32) (t12 : Slot), One t12 → Goes p e below (KQ s ({ frames := 0, cells := 0, slots := 0, locals := 0 } : Room).cells ({ frames := 0, cells := 0, slots := 0, locals := 0 } : Room).slots (fun v h L => ∃ g', v = some (.int 1) ∧ Fr n0 L ∧ ArJ Z h ub .long 12 g' ∧ (g' 0 = 255 * nrow.toInt64 * (e0' - (0 : Int32)).toInt64 ∧ g' 1 = (own_blk f S (e0'.toInt - 0).toNat (ofs.toInt + 0).toNat R 0) ∧ g' 2 = (own_blk f S (e0'.toInt - 0).toNat (ofs.toInt + 0).toNat R 0) ∧ g' 3 = (own_blk f S (e0'.toInt - 0).toNat (ofs.toInt + 0).toNat R 0)) ∧ (g' 4 = 255 * nrow.toInt64 * (e1' - e0').toInt64 ∧ g' 5 = (own_blk f S (e1'.toInt - e0'.toInt).toNat (ofs.toInt + e0'.toInt).toNat R 0) ∧ g' 6 = (own_blk f S (e1'.toInt - e0'.toInt).toNat (ofs.toInt + e0'.toInt).toNat R 0) ∧ g' 7 = (own_blk f S (e1'.toInt - e0'.toInt).toNat (ofs.toInt + e0'.toInt).toNat R 0)) ∧ (g' 8 = g 8) ∧ (g' 9 = g 9) ∧ (g' 10 = g 10) ∧ (g' 11 = g 11))) T31 (mkF m 83 #[.val (.ref a), .val (.ref sb), .val (.int ofs), .val (.int strd), .val (.int nrow), .val (.ref rb), .val (.ref ub), .val (.int e0'), .val (.int (1 : Int32)), .val (.long (own_blk f S (e1'.toInt - (e0').toInt).toNat row.toInt.toNat k x)), .second, .val (.int row'), t12] [])) → Goes p e below (KQ s ({ frames := 0, cells := 0, slots := 0, locals := 0 } : Room).cells ({ frames := 0, cells := 0, slots := 0, locals := 0 } : Room).slots (fun v h L => ∃ g', v = some (.int 1) ∧ Fr n0 L ∧ ArJ Z h ub .long 12 g' ∧ (g' 0 = 255 * nrow.toInt64 * (e0' - (0 : Int32)).toInt64 ∧ g' 1 = (own_blk f S (e0'.toInt - 0).toNat (ofs.toInt + 0).toNat R 0) ∧ g' 2 = (own_blk f S (e0'.toInt - 0).toNat (ofs.toInt + 0).toNat R 0) ∧ g' 3 = (own_blk f S (e0'.toInt - 0).toNat (ofs.toInt + 0).toNat R 0)) ∧ (g' 4 = 255 * nrow.toInt64 * (e1' - e0').toInt64 ∧ g' 5 = (own_blk f S (e1'.toInt - e0'.toInt).toNat (ofs.toInt + e0'.toInt).toNat R 0) ∧ g' 6 = (own_blk f S (e1'.toInt - e0'.toInt).toNat (ofs.toInt + e0'.toInt).toNat R 0) ∧ g' 7 = (own_blk f S (e1'.toInt - e0'.toInt).toNat (ofs.toInt + e0'.toInt).toNat R 0)) ∧ (g' 8 = g 8) ∧ (g' 9 = g 9) ∧ (g' 10 = g 10) ∧ (g' 11 = g 11))) T31 (mkF m 23 #[.val (.ref a), .val (.ref sb), .val (.int ofs), .val (.int strd), .val (.int nrow), .val (.ref rb), .val (.ref ub), .val (.int e0'), .val (.int (1 : Int32)), .val (.long x), .second, .val (.int row), s12] []) := by
    intro k
    induction k with
    | zero =>
      intro r row x s12 hs g1 g2 k'
      have hrR : r * S = R * S := by rw [show r = R by omega]
      refine g_iload (i := 11) X31 hx (hb hby d3_23) (by rfl) rfl ?_
      refine g_iload_n (i := 2) X31 hx (hb hby d3_25) (by rfl) rfl ?_
      refine g_iload (i := 4) X31 hx (hb hby d3_26) (by rfl) rfl ?_
      refine g_iload_n (i := 3) X31 hx (hb hby d3_28) (by rfl) rfl ?_
      refine g_imul X31 hx (hb hby d3_29) rfl ?_
      refine g_iadd X31 hx (hb hby d3_30) rfl ?_
      refine g_icmp_ge X31 hx (hb hby d3_31) (by decide) (pt := 83) (by decide) rfl (fun _ => ?_) (fun q_ => absurd q_ (by rw [own_ltI, q1d]; omega))
      exact k' row s12 hs
    | succ k ih =>
      intro r row x s12 hs g1 g2 k'
      have hrS : (r + 1) * S = r * S + S := Nat.succ_mul r S
      have hle : (r + 1) * S ≤ R * S := Nat.mul_le_mul_right S (by omega)
      have hr8 : r * S ≤ 8 := by
        have h3 : r = 0 ∨ r = 1 ∨ r = 2 := by omega
        rcases h3 with rfl | rfl | rfl <;> omega
      refine g_iload (i := 11) X31 hx (hb hby d3_23) (by rfl) rfl ?_
      refine g_iload_n (i := 2) X31 hx (hb hby d3_25) (by rfl) rfl ?_
      refine g_iload (i := 4) X31 hx (hb hby d3_26) (by rfl) rfl ?_
      refine g_iload_n (i := 3) X31 hx (hb hby d3_28) (by rfl) rfl ?_
      refine g_imul X31 hx (hb hby d3_29) rfl ?_
      refine g_iadd X31 hx (hb hby d3_30) rfl ?_
      refine g_icmp_ge X31 hx (hb hby d3_31) (by decide) (pt := 83) (by decide) rfl (fun q_ => absurd (by rw [own_ltI, q1d]; omega) q_) (fun _ => ?_)
      refine g_iload (i := 11) X31 hx (hb hby d3_34) (by rfl) rfl ?_
      refine g_istore (i := 12) X31 hx #[.val (.ref a), .val (.ref sb), .val (.int ofs), .val (.int strd), .val (.int nrow), .val (.ref rb), .val (.ref ub), .val (.int e0'), .val (.int (1 : Int32)), .val (.long x), .second, .val (.int row), .val (.int row)] (hb hby d3_36) (XS.store1 (o := s12) rfl hs rfl) rfl ?_
      refine inner1 (e1'.toInt - (e0').toInt).toNat row row x (by omega) (by omega) (by omega) (by omega) (fun i' => ?_)
      refine g_iload (i := 11) X31 hx (hb hby d3_74) (by rfl) rfl ?_
      refine g_iload_n (i := 3) X31 hx (hb hby d3_76) (by rfl) rfl ?_
      refine g_iadd X31 hx (hb hby d3_77) rfl ?_
      refine g_istore (i := 11) X31 hx #[.val (.ref a), .val (.ref sb), .val (.int ofs), .val (.int strd), .val (.int nrow), .val (.ref rb), .val (.ref ub), .val (.int e0'), .val (.int (1 : Int32)), .val (.long (own_row f row.toInt.toNat (e1'.toInt - (e0').toInt).toNat x)), .second, .val (.int (row + strd)), .val (.int i')] (hb hby d3_78) rfl rfl ?_
      refine g_goto X31 hx (hb hby d3_80) (by decide) (by decide) (pc' := 23) ?_
      have e2 : (row + strd).toInt = row.toInt + (S : Int) := by rw [own_add _ _ (by omega) (by omega) (by omega), hS]
      refine ih (r + 1) _ _ _ (One.val rfl) (by omega) (by omega) (fun row' t12 ht => ?_)
      have hk := k' row' t12 ht
      rw [show own_blk f S (e1'.toInt - (e0').toInt).toNat row.toInt.toNat (k + 1) x = own_blk f S (e1'.toInt - (e0').toInt).toNat (row + strd).toInt.toNat k (own_row f row.toInt.toNat (e1'.toInt - (e0').toInt).toNat x) by
        rw [e2, show (row.toInt + (S : Int)).toNat = row.toInt.toNat + S by omega]; rfl] at hk
      exact hk
  refine mid1 R 0 _ _ _ ht0 (by omega) (by rw [q1e, Nat.zero_mul]; omega) (fun row1 t1 ht1 => ?_)
  rw [q1e]
  refine g_iconst (v := (4 : Int32)) X31 hx (hb hby d3_83) (by decide) rfl ?_
  refine g_iload (i := 8) X31 hx (hb hby d3_84) (by rfl) rfl ?_
  refine g_imul X31 hx (hb hby d3_86) rfl ?_
  rw [show ((4 : Int32) * (1 : Int32)) = (4 : Int32) by decide]
  refine g_istore (i := 11) X31 hx #[.val (.ref a), .val (.ref sb), .val (.int ofs), .val (.int strd), .val (.int nrow), .val (.ref rb), .val (.ref ub), .val (.int e0'), .val (.int (1 : Int32)), .val (.long (own_blk f S (e1'.toInt - (e0').toInt).toNat (ofs.toInt + (e0').toInt).toNat R (0 : Int64))), .second, .val (.int (4 : Int32)), t1] (hb hby d3_87) rfl rfl ?_
  refine g_aload (i := 6) X31 hx (hb hby d3_89) (by rfl) rfl rfl ?_
  refine g_iload (i := 11) X31 hx (hb hby d3_91) (by rfl) rfl ?_
  refine g_ldc2J X31 hx hZ hown (wd hw 18 rfl) (hb hby d3_93) rfl ?_
  refine g_iload (i := 4) X31 hx (hb hby d3_96) (by rfl) rfl ?_
  refine g_i2l X31 hx (hb hby d3_98) rfl ?_
  refine g_lmul X31 hx (hb hby d3_99) rfl ?_
  refine g_aload (i := 5) X31 hx (hb hby d3_100) (by rfl) rfl rfl ?_
  refine g_iload (i := 8) X31 hx (hb hby d3_102) (by rfl) rfl ?_
  refine g_iaload' X31 hx hZ e31 Ag31 (by decide) (by decide) (x := e1') ((congrArg ge (by decide)).trans hg1) (hb hby d3_104) rfl ?_
  refine g_iload (i := 7) X31 hx (hb hby d3_105) (by rfl) rfl ?_
  refine g_isub X31 hx (hb hby d3_107) rfl ?_
  refine g_i2l X31 hx (hb hby d3_108) rfl ?_
  refine g_lmul X31 hx (hb hby d3_109) rfl ?_
  refine g_lastoreN X31 hx hZ e31 Ar31 4 (by decide) (by decide) (by decide) (hb hby d3_110) rfl ?_
  intro T32 h32 X32 e32 W32 Ar32
  have N32 := Fr.snoc X32 N31 gu
  have As32 := As31.other W32 hsb
  have Ag32 := Ag31.other W32 hrb
  refine g_aload (i := 6) X32 hx (hb hby d3_111) (by rfl) rfl rfl ?_
  refine g_iload (i := 11) X32 hx (hb hby d3_113) (by rfl) rfl ?_
  refine g_iconst (v := (1 : Int32)) X32 hx (hb hby d3_115) (by decide) rfl ?_
  refine g_iadd X32 hx (hb hby d3_116) rfl ?_
  rw [show ((4 : Int32) + (1 : Int32)) = (5 : Int32) by decide]
  refine g_lload (i := 9) X32 hx (hb hby d3_117) (by rfl) rfl ?_
  refine g_lastoreN X32 hx hZ e32 Ar32 5 (by decide) (by decide) (by decide) (hb hby d3_119) rfl ?_
  intro T33 h33 X33 e33 W33 Ar33
  have N33 := Fr.snoc X33 N32 gu
  have As33 := As32.other W33 hsb
  have Ag33 := Ag32.other W33 hrb
  refine g_aload (i := 6) X33 hx (hb hby d3_120) (by rfl) rfl rfl ?_
  refine g_iload (i := 11) X33 hx (hb hby d3_122) (by rfl) rfl ?_
  refine g_iconst (v := (2 : Int32)) X33 hx (hb hby d3_124) (by decide) rfl ?_
  refine g_iadd X33 hx (hb hby d3_125) rfl ?_
  rw [show ((4 : Int32) + (2 : Int32)) = (6 : Int32) by decide]
  refine g_lload (i := 9) X33 hx (hb hby d3_126) (by rfl) rfl ?_
  refine g_lastoreN X33 hx hZ e33 Ar33 6 (by decide) (by decide) (by decide) (hb hby d3_128) rfl ?_
  intro T34 h34 X34 e34 W34 Ar34
  have N34 := Fr.snoc X34 N33 gu
  have As34 := As33.other W34 hsb
  have Ag34 := Ag33.other W34 hrb
  refine g_aload (i := 6) X34 hx (hb hby d3_129) (by rfl) rfl rfl ?_
  refine g_iload (i := 11) X34 hx (hb hby d3_131) (by rfl) rfl ?_
  refine g_iconst (v := (3 : Int32)) X34 hx (hb hby d3_133) (by decide) rfl ?_
  refine g_iadd X34 hx (hb hby d3_134) rfl ?_
  rw [show ((4 : Int32) + (3 : Int32)) = (7 : Int32) by decide]
  refine g_lload (i := 9) X34 hx (hb hby d3_135) (by rfl) rfl ?_
  refine g_lastoreN X34 hx hZ e34 Ar34 7 (by decide) (by decide) (by decide) (hb hby d3_137) rfl ?_
  intro T35 h35 X35 e35 W35 Ar35
  have N35 := Fr.snoc X35 N34 gu
  have As35 := As34.other W35 hsb
  have Ag35 := Ag34.other W35 hrb
  refine g_aload (i := 5) X35 hx (hb hby d3_138) (by rfl) rfl rfl ?_
  refine g_iload (i := 8) X35 hx (hb hby d3_140) (by rfl) rfl ?_
  refine g_iaload' X35 hx hZ e35 Ag35 (by decide) (by decide) (x := e1') ((congrArg ge (by decide)).trans hg1) (hb hby d3_142) rfl ?_
  refine g_istore (i := 7) X35 hx #[.val (.ref a), .val (.ref sb), .val (.int ofs), .val (.int strd), .val (.int nrow), .val (.ref rb), .val (.ref ub), .val (.int e1'), .val (.int (1 : Int32)), .val (.long (own_blk f S (e1'.toInt - (e0').toInt).toNat (ofs.toInt + (e0').toInt).toNat R (0 : Int64))), .second, .val (.int (4 : Int32)), t1] (hb hby d3_143) rfl rfl ?_
  refine g_iinc (i := 8) (x := (1 : Int32)) (y := (2 : Int32)) X35 hx #[.val (.ref a), .val (.ref sb), .val (.int ofs), .val (.int strd), .val (.int nrow), .val (.ref rb), .val (.ref ub), .val (.int e1'), .val (.int (2 : Int32)), .val (.long (own_blk f S (e1'.toInt - (e0').toInt).toNat (ofs.toInt + (e0').toInt).toNat R (0 : Int64))), .second, .val (.int (4 : Int32)), t1] (hb hby d3_145) (by rfl) (by decide) rfl rfl ?_
  refine g_goto X35 hx (hb hby d3_148) (by decide) (by decide) (pc' := 6) ?_
  refine g_iload (i := 8) X35 hx (hb hby d3_6) (by rfl) rfl ?_
  refine g_aload (i := 5) X35 hx (hb hby d3_8) (by rfl) rfl rfl ?_
  refine g_arraylengthI X35 hx hZ e35 Ag35 (z := (2 : Int32)) (by decide) (hb hby d3_10) rfl ?_
  refine g_icmp_ge X35 hx (hb hby d3_11) (by decide) (pt := 151) (by decide) rfl (fun _ => ?_) (fun q_ => absurd q_ (by decide))
  refine g_iconst (v := (1 : Int32)) X35 hx (hb hby d3_151) (by decide) rfl ?_
  exact g_retN X35 hx (t := .boolean) (by simp) hlk hret e35 (by decide) (by decide) (hb hby d3_152) ⟨_, rfl, N35, Ar35, ⟨rfl, rfl, rfl, rfl⟩, ⟨rfl, rfl, rfl, rfl⟩, rfl, rfl, rfl, rfl⟩
theorem ef_rm_sum3 (m : MethodId) (x0 : Addr) (x1 : Addr) (x2 : Int32) (x3 : Int32) (x4 : Int32) (x5 : Addr) (x6 : Addr)  : entryFrame m #[(.ref x0), (.ref x1), (.int x2), (.int x3), (.int x4), (.ref x5), (.ref x6)] 13 = mkF m 0 #[.val (.ref x0), .val (.ref x1), .val (.int x2), .val (.int x3), .val (.int x4), .val (.ref x5), .val (.ref x6), .unset, .unset, .unset, .unset, .unset, .unset] [] := by first | (simp [entryFrame, mkF, argsToLocals, Value.category]; done) | rfl
set_option maxRecDepth 65536 in
set_option maxHeartbeats 40000000 in
theorem rm_sum3 (l : Launch) (Z : State) (a0 : Array Value) (hw : ∀ d ∈ tables_1, d.before a0 Z = true) (a sb rb ub : Addr) (ofs strd nrow : Int32) (e0' e1' e2' : Int32) (W : Int) (S R : Nat) (f ge : Nat → Int32) (g : Nat → Int64) (h0 : Heap) (n0 : Nat) (As : ArI Z h0 sb .byte 12 f) (Ag : ArI Z h0 rb .int 3 ge) (Au : ArJ Z h0 ub .long 12 g) (hrb : rb ≠ ub) (hsb : sb ≠ ub) (gu : n0 ≤ ub) (ho : 0 ≤ ofs.toInt) (ho1 : ofs.toInt ≤ 1) (hS : strd.toInt = (S : Int)) (hWS : W ≤ (S : Int)) (hW3 : W ≤ 3) (hS4 : (S : Int) ≤ 4) (hR : nrow.toInt = (R : Int)) (hR3 : R = 1 ∨ R = 2 ∨ R = 3) (hg0 : ge 0 = e0') (he0 : 0 < e0'.toInt) (hg1 : ge 1 = e1') (he1 : e0'.toInt < e1'.toInt) (hg2 : ge 2 = e2') (he2 : e1'.toInt < e2'.toInt) (heW : e2'.toInt ≤ W) :
    Ctr l Z (⟨"com/example/scanstride/scanstride/JpegSurface$Grey", "sumRuns", "([BIII[I[J)Z"⟩ : MethodName) prog_39_method_5_code 13 (Option.some FieldType.boolean) [] ({ frames := 0, cells := 0, slots := 0, locals := 0 } : Room) ({ frames := 0, cells := 0, slots := 0, locals := 0 } : Room).cells ({ frames := 0, cells := 0, slots := 0, locals := 0 } : Room).slots #[(.ref a), (.ref sb), (.int ofs), (.int strd), (.int nrow), (.ref rb), (.ref ub)] h0 (fun v h L => ∃ g', v = some (.int 1) ∧ Fr n0 L ∧ ArJ Z h ub .long 12 g' ∧ (g' 0 = 255 * nrow.toInt64 * (e0' - (0 : Int32)).toInt64 ∧ g' 1 = (own_blk f S (e0'.toInt - 0).toNat (ofs.toInt + 0).toNat R 0) ∧ g' 2 = (own_blk f S (e0'.toInt - 0).toNat (ofs.toInt + 0).toNat R 0) ∧ g' 3 = (own_blk f S (e0'.toInt - 0).toNat (ofs.toInt + 0).toNat R 0)) ∧ (g' 4 = 255 * nrow.toInt64 * (e1' - e0').toInt64 ∧ g' 5 = (own_blk f S (e1'.toInt - e0'.toInt).toNat (ofs.toInt + e0'.toInt).toNat R 0) ∧ g' 6 = (own_blk f S (e1'.toInt - e0'.toInt).toNat (ofs.toInt + e0'.toInt).toNat R 0) ∧ g' 7 = (own_blk f S (e1'.toInt - e0'.toInt).toNat (ofs.toInt + e0'.toInt).toNat R 0)) ∧ (g' 8 = 255 * nrow.toInt64 * (e2' - e1').toInt64 ∧ g' 9 = (own_blk f S (e2'.toInt - e1'.toInt).toNat (ofs.toInt + e1'.toInt).toNat R 0) ∧ g' 10 = (own_blk f S (e2'.toInt - e1'.toInt).toNat (ofs.toInt + e1'.toInt).toNat R 0) ∧ g' 11 = (own_blk f S (e2'.toInt - e1'.toInt).toNat (ofs.toInt + e1'.toInt).toNat R 0))) := by
  refine Ctr.of pn_22 ?_
  intro p e s m below meth c s₁ hx hby hml hown hnm hret hlk hZ X0 e0
  refine Goes.cast (ef_rm_sum3 m a sb ofs strd nrow rb ub) ?_
  have hRS : (nrow * strd).toInt = ((R * S : Nat) : Int) := own_mul nrow strd R S hR hS (by rcases hR3 with rfl | rfl | rfl <;> omega)
  have hRS2 : R * S ≤ 12 := by rcases hR3 with rfl | rfl | rfl <;> omega
  have hR4 : R ≤ 3 := by omega
  refine g_iconst (v := (0 : Int32)) X0 hx (hb hby d3_0) (by decide) rfl ?_
  refine g_istore (i := 7) X0 hx #[.val (.ref a), .val (.ref sb), .val (.int ofs), .val (.int strd), .val (.int nrow), .val (.ref rb), .val (.ref ub), .val (.int (0 : Int32)), .unset, .unset, .unset, .unset, .unset] (hb hby d3_1) rfl rfl ?_
  refine g_iconst (v := (0 : Int32)) X0 hx (hb hby d3_3) (by decide) rfl ?_
  refine g_istore (i := 8) X0 hx #[.val (.ref a), .val (.ref sb), .val (.int ofs), .val (.int strd), .val (.int nrow), .val (.ref rb), .val (.ref ub), .val (.int (0 : Int32)), .val (.int (0 : Int32)), .unset, .unset, .unset, .unset] (hb hby d3_4) rfl rfl ?_
  refine g_iload (i := 8) X0 hx (hb hby d3_6) (by rfl) rfl ?_
  refine g_aload (i := 5) X0 hx (hb hby d3_8) (by rfl) rfl rfl ?_
  refine g_arraylengthI X0 hx hZ e0 Ag (z := (3 : Int32)) (by decide) (hb hby d3_10) rfl ?_
  refine g_icmp_ge X0 hx (hb hby d3_11) (by decide) (pt := 151) (by decide) rfl (fun q_ => absurd (by decide) q_) (fun _ => ?_)
  refine g_lconst (v := (0 : Int64)) X0 hx (hb hby d3_14) (by decide) rfl ?_
  refine g_lstore (i := 9) X0 hx #[.val (.ref a), .val (.ref sb), .val (.int ofs), .val (.int strd), .val (.int nrow), .val (.ref rb), .val (.ref ub), .val (.int (0 : Int32)), .val (.int (0 : Int32)), .val (.long (0 : Int64)), .second, .unset, .unset] (hb hby d3_15) rfl rfl ?_
  refine g_iload_n (i := 2) X0 hx (hb hby d3_17) (by rfl) rfl ?_
  refine g_iload (i := 7) X0 hx (hb hby d3_18) (by rfl) rfl ?_
  refine g_iadd X0 hx (hb hby d3_20) rfl ?_
  refine g_istore (i := 11) X0 hx #[.val (.ref a), .val (.ref sb), .val (.int ofs), .val (.int strd), .val (.int nrow), .val (.ref rb), .val (.ref ub), .val (.int (0 : Int32)), .val (.int (0 : Int32)), .val (.long (0 : Int64)), .second, .val (.int (ofs + (0 : Int32))), .unset] (hb hby d3_21) rfl rfl ?_
  have q0a : 0 ≤ ((0 : Int32)).toInt := by decide
  have q0b : ((0 : Int32)).toInt < e0'.toInt := by first | omega | (rw [show (0 : Int32).toInt = 0 from rfl]; omega)
  have q0c : e0'.toInt ≤ W := by omega
  have q0d : ((ofs + nrow * strd)).toInt = ofs.toInt + ((R * S : Nat) : Int) := by rw [own_add _ _ ho (by omega) (by omega), hRS]
  have q0e : ((ofs + (0 : Int32))).toInt = ofs.toInt + ((0 : Int32)).toInt := own_add _ _ ho q0a (by omega)
  have inner0 : ∀ (k : Nat) (ii row : Int32) (x : Int64), 0 ≤ row.toInt → row.toInt ≤ ii.toInt → ii.toInt + (k : Int) = row.toInt + (e0'.toInt - ((0 : Int32)).toInt) → ii.toInt + (k : Int) ≤ 12 → (∀ i' : Int32, Goes p e below (KQ s ({ frames := 0, cells := 0, slots := 0, locals := 0 } : Room).cells ({ frames := 0, cells := 0, slots := 0, locals := 0 } : Room).slots (fun v h L => ∃ g', v = some (.int 1) ∧ Fr n0 L ∧ ArJ Z h ub .long 12 g' ∧ (g' 0 = 255 * nrow.toInt64 * (e0' - (0 : Int32)).toInt64 ∧ g' 1 = (own_blk f S (e0'.toInt - 0).toNat (ofs.toInt + 0).toNat R 0) ∧ g' 2 = (own_blk f S (e0'.toInt - 0).toNat (ofs.toInt + 0).toNat R 0) ∧ g' 3 = (own_blk f S (e0'.toInt - 0).toNat (ofs.toInt + 0).toNat R 0)) ∧ (g' 4 = 255 * nrow.toInt64 * (e1' - e0').toInt64 ∧ g' 5 = (own_blk f S (e1'.toInt - e0'.toInt).toNat (ofs.toInt + e0'.toInt).toNat R 0) ∧ g' 6 = (own_blk f S (e1'.toInt - e0'.toInt).toNat (ofs.toInt + e0'.toInt).toNat R 0) ∧ g' 7 = (own_blk f S (e1'.toInt - e0'.toInt).toNat (ofs.toInt + e0'.toInt).toNat R 0)) ∧ (g' 8 = 255 * nrow.toInt64 * (e2' - e1').toInt64 ∧ g' 9 = (own_blk f S (e2'.toInt - e1'.toInt).toNat (ofs.toInt + e1'.toInt).toNat R 0) ∧ g' 10 = (own_blk f S (e2'.toInt - e1'.toInt).toNat (ofs.toInt + e1'.toInt).toNat R 0) ∧ g' 11 = (own_blk f S (e2'.toInt - e1'.toInt).toNat (ofs.toInt + e1'.toInt).toNat R 0)))) s₁ (mkF m 74 #[.val (.ref a), .val (.ref sb), .val (.int ofs), .val (.int strd), .val (.int nrow), .val (.ref rb), .val (.ref ub), .val (.int (0 : Int32)), .val (.int (0 : Int32)), .val (.long (own_row f ii.toInt.toNat k x)), .second, .val (.int row), .val (.int i')] [])) → Goes p e below (KQ s ({ frames := 0, cells := 0, slots := 0, locals := 0 } : Room).cells ({ frames := 0, cells := 0, slots := 0, locals := 0 } : Room).slots (fun v h L => ∃ g', v = some (.int 1) ∧ Fr n0 L ∧ ArJ Z h ub .long 12 g' ∧ (g' 0 = 255 * nrow.toInt64 * (e0' - (0 : Int32)).toInt64 ∧ g' 1 = (own_blk f S (e0'.toInt - 0).toNat (ofs.toInt + 0).toNat R 0) ∧ g' 2 = (own_blk f S (e0'.toInt - 0).toNat (ofs.toInt + 0).toNat R 0) ∧ g' 3 = (own_blk f S (e0'.toInt - 0).toNat (ofs.toInt + 0).toNat R 0)) ∧ (g' 4 = 255 * nrow.toInt64 * (e1' - e0').toInt64 ∧ g' 5 = (own_blk f S (e1'.toInt - e0'.toInt).toNat (ofs.toInt + e0'.toInt).toNat R 0) ∧ g' 6 = (own_blk f S (e1'.toInt - e0'.toInt).toNat (ofs.toInt + e0'.toInt).toNat R 0) ∧ g' 7 = (own_blk f S (e1'.toInt - e0'.toInt).toNat (ofs.toInt + e0'.toInt).toNat R 0)) ∧ (g' 8 = 255 * nrow.toInt64 * (e2' - e1').toInt64 ∧ g' 9 = (own_blk f S (e2'.toInt - e1'.toInt).toNat (ofs.toInt + e1'.toInt).toNat R 0) ∧ g' 10 = (own_blk f S (e2'.toInt - e1'.toInt).toNat (ofs.toInt + e1'.toInt).toNat R 0) ∧ g' 11 = (own_blk f S (e2'.toInt - e1'.toInt).toNat (ofs.toInt + e1'.toInt).toNat R 0)))) s₁ (mkF m 38 #[.val (.ref a), .val (.ref sb), .val (.int ofs), .val (.int strd), .val (.int nrow), .val (.ref rb), .val (.ref ub), .val (.int (0 : Int32)), .val (.int (0 : Int32)), .val (.long x), .second, .val (.int row), .val (.int ii)] []) := by
    intro k
    induction k with
    | zero =>
      intro ii row x g0 g1 g2 g3 k'
      have eb : ((row + e0') - (0 : Int32)).toInt = row.toInt + (e0'.toInt - ((0 : Int32)).toInt) := by rw [own_sub _ _ (by rw [own_add _ _ g0 (by omega) (by omega)]; omega) q0a, own_add _ _ g0 (by omega) (by omega)]; omega
      refine g_iload (i := 12) X0 hx (hb hby d3_38) (by rfl) rfl ?_
      refine g_iload (i := 11) X0 hx (hb hby d3_40) (by rfl) rfl ?_
      refine g_aload (i := 5) X0 hx (hb hby d3_42) (by rfl) rfl rfl ?_
      refine g_iload (i := 8) X0 hx (hb hby d3_44) (by rfl) rfl ?_
      refine g_iaload' X0 hx hZ e0 Ag (by decide) (by decide) (x := e0') ((congrArg ge (by decide)).trans hg0) (hb hby d3_46) rfl ?_
      refine g_iadd X0 hx (hb hby d3_47) rfl ?_
      refine g_iload (i := 7) X0 hx (hb hby d3_48) (by rfl) rfl ?_
      refine g_isub X0 hx (hb hby d3_50) rfl ?_
      refine g_icmp_ge X0 hx (hb hby d3_51) (by decide) (pt := 74) (by decide) rfl (fun _ => ?_) (fun q_ => absurd q_ (by rw [own_ltI, eb]; omega))
      exact k' ii
    | succ k ih =>
      intro ii row x g0 g1 g2 g3 k'
      have eb : ((row + e0') - (0 : Int32)).toInt = row.toInt + (e0'.toInt - ((0 : Int32)).toInt) := by rw [own_sub _ _ (by rw [own_add _ _ g0 (by omega) (by omega)]; omega) q0a, own_add _ _ g0 (by omega) (by omega)]; omega
      refine g_iload (i := 12) X0 hx (hb hby d3_38) (by rfl) rfl ?_
      refine g_iload (i := 11) X0 hx (hb hby d3_40) (by rfl) rfl ?_
      refine g_aload (i := 5) X0 hx (hb hby d3_42) (by rfl) rfl rfl ?_
      refine g_iload (i := 8) X0 hx (hb hby d3_44) (by rfl) rfl ?_
      refine g_iaload' X0 hx hZ e0 Ag (by decide) (by decide) (x := e0') ((congrArg ge (by decide)).trans hg0) (hb hby d3_46) rfl ?_
      refine g_iadd X0 hx (hb hby d3_47) rfl ?_
      refine g_iload (i := 7) X0 hx (hb hby d3_48) (by rfl) rfl ?_
      refine g_isub X0 hx (hb hby d3_50) rfl ?_
      refine g_icmp_ge X0 hx (hb hby d3_51) (by decide) (pt := 74) (by decide) rfl (fun q_ => absurd (by rw [own_ltI, eb]; omega) q_) (fun _ => ?_)
      refine g_lload (i := 9) X0 hx (hb hby d3_54) (by rfl) rfl ?_
      refine g_aload_n (i := 1) X0 hx (hb hby d3_56) (by rfl) rfl rfl ?_
      refine g_iload (i := 12) X0 hx (hb hby d3_57) (by rfl) rfl ?_
      refine g_baload' X0 hx hZ e0 As (own_nneg (by omega)) (by rw [own_tnc]; omega) (x := (f ii.toNatClampNeg)) rfl (hb hby d3_59) rfl ?_
      refine g_sipush (v := (255 : Int32)) X0 hx (hb hby d3_60) (by decide) rfl ?_
      refine g_iand X0 hx (hb hby d3_63) rfl ?_
      refine g_i2l X0 hx (hb hby d3_64) rfl ?_
      refine g_ladd X0 hx (hb hby d3_65) rfl ?_
      refine g_lstore (i := 9) X0 hx #[.val (.ref a), .val (.ref sb), .val (.int ofs), .val (.int strd), .val (.int nrow), .val (.ref rb), .val (.ref ub), .val (.int (0 : Int32)), .val (.int (0 : Int32)), .val (.long (x + ((f ii.toNatClampNeg) &&& (255 : Int32)).toInt64)), .second, .val (.int row), .val (.int ii)] (hb hby d3_66) rfl rfl ?_
      refine g_iinc (i := 12) (x := ii) (y := (ii + (1 : Int32))) X0 hx #[.val (.ref a), .val (.ref sb), .val (.int ofs), .val (.int strd), .val (.int nrow), .val (.ref rb), .val (.ref ub), .val (.int (0 : Int32)), .val (.int (0 : Int32)), .val (.long (x + ((f ii.toNatClampNeg) &&& (255 : Int32)).toInt64)), .second, .val (.int row), .val (.int (ii + (1 : Int32)))] (hb hby d3_68) (by rfl) (by rfl) rfl rfl ?_
      refine g_goto X0 hx (hb hby d3_71) (by decide) (by decide) (pc' := 38) ?_
      have e1 := own_inc (i := ii) (by omega)
      refine ih _ row _ g0 (by omega) (by omega) (by omega) (fun i' => ?_)
      have hk := k' i'
      rw [show own_row f ii.toInt.toNat (k + 1) x = own_row f (ii + 1).toInt.toNat k (x + (f ii.toNatClampNeg &&& 255).toInt64) by
        rw [e1, show (ii.toInt + 1).toNat = ii.toInt.toNat + 1 by omega]; rfl] at hk
      exact hk
  have mid0 : ∀ (k r : Nat) (row : Int32) (x : Int64) (s12 : Slot), One s12 → r + k = R → row.toInt = ofs.toInt + ((0 : Int32)).toInt + ((r * S : Nat) : Int) → (∀ (row' : Int32) (t12 : Slot), One t12 → Goes p e below (KQ s ({ frames := 0, cells := 0, slots := 0, locals := 0 } : Room).cells ({ frames := 0, cells := 0, slots := 0, locals := 0 } : Room).slots (fun v h L => ∃ g', v = some (.int 1) ∧ Fr n0 L ∧ ArJ Z h ub .long 12 g' ∧ (g' 0 = 255 * nrow.toInt64 * (e0' - (0 : Int32)).toInt64 ∧ g' 1 = (own_blk f S (e0'.toInt - 0).toNat (ofs.toInt + 0).toNat R 0) ∧ g' 2 = (own_blk f S (e0'.toInt - 0).toNat (ofs.toInt + 0).toNat R 0) ∧ g' 3 = (own_blk f S (e0'.toInt - 0).toNat (ofs.toInt + 0).toNat R 0)) ∧ (g' 4 = 255 * nrow.toInt64 * (e1' - e0').toInt64 ∧ g' 5 = (own_blk f S (e1'.toInt - e0'.toInt).toNat (ofs.toInt + e0'.toInt).toNat R 0) ∧ g' 6 = (own_blk f S (e1'.toInt - e0'.toInt).toNat (ofs.toInt + e0'.toInt).toNat R 0) ∧ g' 7 = (own_blk f S (e1'.toInt - e0'.toInt).toNat (ofs.toInt + e0'.toInt).toNat R 0)) ∧ (g' 8 = 255 * nrow.toInt64 * (e2' - e1').toInt64 ∧ g' 9 = (own_blk f S (e2'.toInt - e1'.toInt).toNat (ofs.toInt + e1'.toInt).toNat R 0) ∧ g' 10 = (own_blk f S (e2'.toInt - e1'.toInt).toNat (ofs.toInt + e1'.toInt).toNat R 0) ∧ g' 11 = (own_blk f S (e2'.toInt - e1'.toInt).toNat (ofs.toInt + e1'.toInt).toNat R 0)))) s₁ (mkF m 83 #[.val (.ref a), .val (.ref sb), .val (.int ofs), .val (.int strd), .val (.int nrow), .val (.ref rb), .val (.ref ub), .val (.int (0 : Int32)), .val (.int (0 : Int32)), .val (.long (own_blk f S (e0'.toInt - ((0 : Int32)).toInt).toNat row.toInt.toNat k x)), .second, .val (.int row'), t12] [])) → Goes p e below (KQ s ({ frames := 0, cells := 0, slots := 0, locals := 0 } : Room).cells ({ frames := 0, cells := 0, slots := 0, locals := 0 } : Room).slots (fun v h L => ∃ g', v = some (.int 1) ∧ Fr n0 L ∧ ArJ Z h ub .long 12 g' ∧ (g' 0 = 255 * nrow.toInt64 * (e0' - (0 : Int32)).toInt64 ∧ g' 1 = (own_blk f S (e0'.toInt - 0).toNat (ofs.toInt + 0).toNat R 0) ∧ g' 2 = (own_blk f S (e0'.toInt - 0).toNat (ofs.toInt + 0).toNat R 0) ∧ g' 3 = (own_blk f S (e0'.toInt - 0).toNat (ofs.toInt + 0).toNat R 0)) ∧ (g' 4 = 255 * nrow.toInt64 * (e1' - e0').toInt64 ∧ g' 5 = (own_blk f S (e1'.toInt - e0'.toInt).toNat (ofs.toInt + e0'.toInt).toNat R 0) ∧ g' 6 = (own_blk f S (e1'.toInt - e0'.toInt).toNat (ofs.toInt + e0'.toInt).toNat R 0) ∧ g' 7 = (own_blk f S (e1'.toInt - e0'.toInt).toNat (ofs.toInt + e0'.toInt).toNat R 0)) ∧ (g' 8 = 255 * nrow.toInt64 * (e2' - e1').toInt64 ∧ g' 9 = (own_blk f S (e2'.toInt - e1'.toInt).toNat (ofs.toInt + e1'.toInt).toNat R 0) ∧ g' 10 = (own_blk f S (e2'.toInt - e1'.toInt).toNat (ofs.toInt + e1'.toInt).toNat R 0) ∧ g' 11 = (own_blk f S (e2'.toInt - e1'.toInt).toNat (ofs.toInt + e1'.toInt).toNat R 0)))) s₁ (mkF m 23 #[.val (.ref a), .val (.ref sb), .val (.int ofs), .val (.int strd), .val (.int nrow), .val (.ref rb), .val (.ref ub), .val (.int (0 : Int32)), .val (.int (0 : Int32)), .val (.long x), .second, .val (.int row), s12] []) := by
    intro k
    induction k with
    | zero =>
      intro r row x s12 hs g1 g2 k'
      have hrR : r * S = R * S := by rw [show r = R by omega]
      refine g_iload (i := 11) X0 hx (hb hby d3_23) (by rfl) rfl ?_
      refine g_iload_n (i := 2) X0 hx (hb hby d3_25) (by rfl) rfl ?_
      refine g_iload (i := 4) X0 hx (hb hby d3_26) (by rfl) rfl ?_
      refine g_iload_n (i := 3) X0 hx (hb hby d3_28) (by rfl) rfl ?_
      refine g_imul X0 hx (hb hby d3_29) rfl ?_
      refine g_iadd X0 hx (hb hby d3_30) rfl ?_
      refine g_icmp_ge X0 hx (hb hby d3_31) (by decide) (pt := 83) (by decide) rfl (fun _ => ?_) (fun q_ => absurd q_ (by rw [own_ltI, q0d]; omega))
      exact k' row s12 hs
    | succ k ih =>
      intro r row x s12 hs g1 g2 k'
      have hrS : (r + 1) * S = r * S + S := Nat.succ_mul r S
      have hle : (r + 1) * S ≤ R * S := Nat.mul_le_mul_right S (by omega)
      have hr8 : r * S ≤ 8 := by
        have h3 : r = 0 ∨ r = 1 ∨ r = 2 := by omega
        rcases h3 with rfl | rfl | rfl <;> omega
      refine g_iload (i := 11) X0 hx (hb hby d3_23) (by rfl) rfl ?_
      refine g_iload_n (i := 2) X0 hx (hb hby d3_25) (by rfl) rfl ?_
      refine g_iload (i := 4) X0 hx (hb hby d3_26) (by rfl) rfl ?_
      refine g_iload_n (i := 3) X0 hx (hb hby d3_28) (by rfl) rfl ?_
      refine g_imul X0 hx (hb hby d3_29) rfl ?_
      refine g_iadd X0 hx (hb hby d3_30) rfl ?_
      refine g_icmp_ge X0 hx (hb hby d3_31) (by decide) (pt := 83) (by decide) rfl (fun q_ => absurd (by rw [own_ltI, q0d]; omega) q_) (fun _ => ?_)
      refine g_iload (i := 11) X0 hx (hb hby d3_34) (by rfl) rfl ?_
      refine g_istore (i := 12) X0 hx #[.val (.ref a), .val (.ref sb), .val (.int ofs), .val (.int strd), .val (.int nrow), .val (.ref rb), .val (.ref ub), .val (.int (0 : Int32)), .val (.int (0 : Int32)), .val (.long x), .second, .val (.int row), .val (.int row)] (hb hby d3_36) (XS.store1 (o := s12) rfl hs rfl) rfl ?_
      refine inner0 (e0'.toInt - ((0 : Int32)).toInt).toNat row row x (by omega) (by omega) (by omega) (by omega) (fun i' => ?_)
      refine g_iload (i := 11) X0 hx (hb hby d3_74) (by rfl) rfl ?_
      refine g_iload_n (i := 3) X0 hx (hb hby d3_76) (by rfl) rfl ?_
      refine g_iadd X0 hx (hb hby d3_77) rfl ?_
      refine g_istore (i := 11) X0 hx #[.val (.ref a), .val (.ref sb), .val (.int ofs), .val (.int strd), .val (.int nrow), .val (.ref rb), .val (.ref ub), .val (.int (0 : Int32)), .val (.int (0 : Int32)), .val (.long (own_row f row.toInt.toNat (e0'.toInt - ((0 : Int32)).toInt).toNat x)), .second, .val (.int (row + strd)), .val (.int i')] (hb hby d3_78) rfl rfl ?_
      refine g_goto X0 hx (hb hby d3_80) (by decide) (by decide) (pc' := 23) ?_
      have e2 : (row + strd).toInt = row.toInt + (S : Int) := by rw [own_add _ _ (by omega) (by omega) (by omega), hS]
      refine ih (r + 1) _ _ _ (One.val rfl) (by omega) (by omega) (fun row' t12 ht => ?_)
      have hk := k' row' t12 ht
      rw [show own_blk f S (e0'.toInt - ((0 : Int32)).toInt).toNat row.toInt.toNat (k + 1) x = own_blk f S (e0'.toInt - ((0 : Int32)).toInt).toNat (row + strd).toInt.toNat k (own_row f row.toInt.toNat (e0'.toInt - ((0 : Int32)).toInt).toNat x) by
        rw [e2, show (row.toInt + (S : Int)).toNat = row.toInt.toNat + S by omega]; rfl] at hk
      exact hk
  refine mid0 R 0 _ _ _ One.u (by omega) (by rw [q0e, Nat.zero_mul]; omega) (fun row0 t0 ht0 => ?_)
  rw [q0e]
  refine g_iconst (v := (4 : Int32)) X0 hx (hb hby d3_83) (by decide) rfl ?_
  refine g_iload (i := 8) X0 hx (hb hby d3_84) (by rfl) rfl ?_
  refine g_imul X0 hx (hb hby d3_86) rfl ?_
  rw [show ((4 : Int32) * (0 : Int32)) = (0 : Int32) by decide]
  refine g_istore (i := 11) X0 hx #[.val (.ref a), .val (.ref sb), .val (.int ofs), .val (.int strd), .val (.int nrow), .val (.ref rb), .val (.ref ub), .val (.int (0 : Int32)), .val (.int (0 : Int32)), .val (.long (own_blk f S (e0'.toInt - ((0 : Int32)).toInt).toNat (ofs.toInt + ((0 : Int32)).toInt).toNat R (0 : Int64))), .second, .val (.int (0 : Int32)), t0] (hb hby d3_87) rfl rfl ?_
  refine g_aload (i := 6) X0 hx (hb hby d3_89) (by rfl) rfl rfl ?_
  refine g_iload (i := 11) X0 hx (hb hby d3_91) (by rfl) rfl ?_
  refine g_ldc2J X0 hx hZ hown (wd hw 18 rfl) (hb hby d3_93) rfl ?_
  refine g_iload (i := 4) X0 hx (hb hby d3_96) (by rfl) rfl ?_
  refine g_i2l X0 hx (hb hby d3_98) rfl ?_
  refine g_lmul X0 hx (hb hby d3_99) rfl ?_
  refine g_aload (i := 5) X0 hx (hb hby d3_100) (by rfl) rfl rfl ?_
  refine g_iload (i := 8) X0 hx (hb hby d3_102) (by rfl) rfl ?_
  refine g_iaload' X0 hx hZ e0 Ag (by decide) (by decide) (x := e0') ((congrArg ge (by decide)).trans hg0) (hb hby d3_104) rfl ?_
  refine g_iload (i := 7) X0 hx (hb hby d3_105) (by rfl) rfl ?_
  refine g_isub X0 hx (hb hby d3_107) rfl ?_
  refine g_i2l X0 hx (hb hby d3_108) rfl ?_
  refine g_lmul X0 hx (hb hby d3_109) rfl ?_
  refine g_lastoreN X0 hx hZ e0 Au 0 (by decide) (by decide) (by decide) (hb hby d3_110) rfl ?_
  intro T37 h37 X37 e37 W37 Ar37
  have N37 := Fr.snoc X37 (Fr.nil n0) gu
  have As37 := As.other W37 hsb
  have Ag37 := Ag.other W37 hrb
  refine g_aload (i := 6) X37 hx (hb hby d3_111) (by rfl) rfl rfl ?_
  refine g_iload (i := 11) X37 hx (hb hby d3_113) (by rfl) rfl ?_
  refine g_iconst (v := (1 : Int32)) X37 hx (hb hby d3_115) (by decide) rfl ?_
  refine g_iadd X37 hx (hb hby d3_116) rfl ?_
  rw [show ((0 : Int32) + (1 : Int32)) = (1 : Int32) by decide]
  refine g_lload (i := 9) X37 hx (hb hby d3_117) (by rfl) rfl ?_
  refine g_lastoreN X37 hx hZ e37 Ar37 1 (by decide) (by decide) (by decide) (hb hby d3_119) rfl ?_
  intro T38 h38 X38 e38 W38 Ar38
  have N38 := Fr.snoc X38 N37 gu
  have As38 := As37.other W38 hsb
  have Ag38 := Ag37.other W38 hrb
  refine g_aload (i := 6) X38 hx (hb hby d3_120) (by rfl) rfl rfl ?_
  refine g_iload (i := 11) X38 hx (hb hby d3_122) (by rfl) rfl ?_
  refine g_iconst (v := (2 : Int32)) X38 hx (hb hby d3_124) (by decide) rfl ?_
  refine g_iadd X38 hx (hb hby d3_125) rfl ?_
  rw [show ((0 : Int32) + (2 : Int32)) = (2 : Int32) by decide]
  refine g_lload (i := 9) X38 hx (hb hby d3_126) (by rfl) rfl ?_
  refine g_lastoreN X38 hx hZ e38 Ar38 2 (by decide) (by decide) (by decide) (hb hby d3_128) rfl ?_
  intro T39 h39 X39 e39 W39 Ar39
  have N39 := Fr.snoc X39 N38 gu
  have As39 := As38.other W39 hsb
  have Ag39 := Ag38.other W39 hrb
  refine g_aload (i := 6) X39 hx (hb hby d3_129) (by rfl) rfl rfl ?_
  refine g_iload (i := 11) X39 hx (hb hby d3_131) (by rfl) rfl ?_
  refine g_iconst (v := (3 : Int32)) X39 hx (hb hby d3_133) (by decide) rfl ?_
  refine g_iadd X39 hx (hb hby d3_134) rfl ?_
  rw [show ((0 : Int32) + (3 : Int32)) = (3 : Int32) by decide]
  refine g_lload (i := 9) X39 hx (hb hby d3_135) (by rfl) rfl ?_
  refine g_lastoreN X39 hx hZ e39 Ar39 3 (by decide) (by decide) (by decide) (hb hby d3_137) rfl ?_
  intro T40 h40 X40 e40 W40 Ar40
  have N40 := Fr.snoc X40 N39 gu
  have As40 := As39.other W40 hsb
  have Ag40 := Ag39.other W40 hrb
  refine g_aload (i := 5) X40 hx (hb hby d3_138) (by rfl) rfl rfl ?_
  refine g_iload (i := 8) X40 hx (hb hby d3_140) (by rfl) rfl ?_
  refine g_iaload' X40 hx hZ e40 Ag40 (by decide) (by decide) (x := e0') ((congrArg ge (by decide)).trans hg0) (hb hby d3_142) rfl ?_
  refine g_istore (i := 7) X40 hx #[.val (.ref a), .val (.ref sb), .val (.int ofs), .val (.int strd), .val (.int nrow), .val (.ref rb), .val (.ref ub), .val (.int e0'), .val (.int (0 : Int32)), .val (.long (own_blk f S (e0'.toInt - ((0 : Int32)).toInt).toNat (ofs.toInt + ((0 : Int32)).toInt).toNat R (0 : Int64))), .second, .val (.int (0 : Int32)), t0] (hb hby d3_143) rfl rfl ?_
  refine g_iinc (i := 8) (x := (0 : Int32)) (y := (1 : Int32)) X40 hx #[.val (.ref a), .val (.ref sb), .val (.int ofs), .val (.int strd), .val (.int nrow), .val (.ref rb), .val (.ref ub), .val (.int e0'), .val (.int (1 : Int32)), .val (.long (own_blk f S (e0'.toInt - ((0 : Int32)).toInt).toNat (ofs.toInt + ((0 : Int32)).toInt).toNat R (0 : Int64))), .second, .val (.int (0 : Int32)), t0] (hb hby d3_145) (by rfl) (by decide) rfl rfl ?_
  refine g_goto X40 hx (hb hby d3_148) (by decide) (by decide) (pc' := 6) ?_
  refine g_iload (i := 8) X40 hx (hb hby d3_6) (by rfl) rfl ?_
  refine g_aload (i := 5) X40 hx (hb hby d3_8) (by rfl) rfl rfl ?_
  refine g_arraylengthI X40 hx hZ e40 Ag40 (z := (3 : Int32)) (by decide) (hb hby d3_10) rfl ?_
  refine g_icmp_ge X40 hx (hb hby d3_11) (by decide) (pt := 151) (by decide) rfl (fun q_ => absurd (by decide) q_) (fun _ => ?_)
  refine g_lconst (v := (0 : Int64)) X40 hx (hb hby d3_14) (by decide) rfl ?_
  refine g_lstore (i := 9) X40 hx #[.val (.ref a), .val (.ref sb), .val (.int ofs), .val (.int strd), .val (.int nrow), .val (.ref rb), .val (.ref ub), .val (.int e0'), .val (.int (1 : Int32)), .val (.long (0 : Int64)), .second, .val (.int (0 : Int32)), t0] (hb hby d3_15) rfl rfl ?_
  refine g_iload_n (i := 2) X40 hx (hb hby d3_17) (by rfl) rfl ?_
  refine g_iload (i := 7) X40 hx (hb hby d3_18) (by rfl) rfl ?_
  refine g_iadd X40 hx (hb hby d3_20) rfl ?_
  refine g_istore (i := 11) X40 hx #[.val (.ref a), .val (.ref sb), .val (.int ofs), .val (.int strd), .val (.int nrow), .val (.ref rb), .val (.ref ub), .val (.int e0'), .val (.int (1 : Int32)), .val (.long (0 : Int64)), .second, .val (.int (ofs + e0')), t0] (hb hby d3_21) rfl rfl ?_
  have q1a : 0 ≤ (e0').toInt := by omega
  have q1b : (e0').toInt < e1'.toInt := by first | omega | (rw [show (0 : Int32).toInt = 0 from rfl]; omega)
  have q1c : e1'.toInt ≤ W := by omega
  have q1d : ((ofs + nrow * strd)).toInt = ofs.toInt + ((R * S : Nat) : Int) := by rw [own_add _ _ ho (by omega) (by omega), hRS]
  have q1e : ((ofs + e0')).toInt = ofs.toInt + (e0').toInt := own_add _ _ ho q1a (by omega)
  have inner1 : ∀ (k : Nat) (ii row : Int32) (x : Int64), 0 ≤ row.toInt → row.toInt ≤ ii.toInt → ii.toInt + (k : Int) = row.toInt + (e1'.toInt - (e0').toInt) → ii.toInt + (k : Int) ≤ 12 → (∀ i' : Int32, Goes p e below (KQ s ({ frames := 0, cells := 0, slots := 0, locals := 0 } : Room).cells ({ frames := 0, cells := 0, slots := 0, locals := 0 } : Room).slots (fun v h L => ∃ g', v = some (.int 1) ∧ Fr n0 L ∧ ArJ Z h ub .long 12 g' ∧ (g' 0 = 255 * nrow.toInt64 * (e0' - (0 : Int32)).toInt64 ∧ g' 1 = (own_blk f S (e0'.toInt - 0).toNat (ofs.toInt + 0).toNat R 0) ∧ g' 2 = (own_blk f S (e0'.toInt - 0).toNat (ofs.toInt + 0).toNat R 0) ∧ g' 3 = (own_blk f S (e0'.toInt - 0).toNat (ofs.toInt + 0).toNat R 0)) ∧ (g' 4 = 255 * nrow.toInt64 * (e1' - e0').toInt64 ∧ g' 5 = (own_blk f S (e1'.toInt - e0'.toInt).toNat (ofs.toInt + e0'.toInt).toNat R 0) ∧ g' 6 = (own_blk f S (e1'.toInt - e0'.toInt).toNat (ofs.toInt + e0'.toInt).toNat R 0) ∧ g' 7 = (own_blk f S (e1'.toInt - e0'.toInt).toNat (ofs.toInt + e0'.toInt).toNat R 0)) ∧ (g' 8 = 255 * nrow.toInt64 * (e2' - e1').toInt64 ∧ g' 9 = (own_blk f S (e2'.toInt - e1'.toInt).toNat (ofs.toInt + e1'.toInt).toNat R 0) ∧ g' 10 = (own_blk f S (e2'.toInt - e1'.toInt).toNat (ofs.toInt + e1'.toInt).toNat R 0) ∧ g' 11 = (own_blk f S (e2'.toInt - e1'.toInt).toNat (ofs.toInt + e1'.toInt).toNat R 0)))) T40 (mkF m 74 #[.val (.ref a), .val (.ref sb), .val (.int ofs), .val (.int strd), .val (.int nrow), .val (.ref rb), .val (.ref ub), .val (.int e0'), .val (.int (1 : Int32)), .val (.long (own_row f ii.toInt.toNat k x)), .second, .val (.int row), .val (.int i')] [])) → Goes p e below (KQ s ({ frames := 0, cells := 0, slots := 0, locals := 0 } : Room).cells ({ frames := 0, cells := 0, slots := 0, locals := 0 } : Room).slots (fun v h L => ∃ g', v = some (.int 1) ∧ Fr n0 L ∧ ArJ Z h ub .long 12 g' ∧ (g' 0 = 255 * nrow.toInt64 * (e0' - (0 : Int32)).toInt64 ∧ g' 1 = (own_blk f S (e0'.toInt - 0).toNat (ofs.toInt + 0).toNat R 0) ∧ g' 2 = (own_blk f S (e0'.toInt - 0).toNat (ofs.toInt + 0).toNat R 0) ∧ g' 3 = (own_blk f S (e0'.toInt - 0).toNat (ofs.toInt + 0).toNat R 0)) ∧ (g' 4 = 255 * nrow.toInt64 * (e1' - e0').toInt64 ∧ g' 5 = (own_blk f S (e1'.toInt - e0'.toInt).toNat (ofs.toInt + e0'.toInt).toNat R 0) ∧ g' 6 = (own_blk f S (e1'.toInt - e0'.toInt).toNat (ofs.toInt + e0'.toInt).toNat R 0) ∧ g' 7 = (own_blk f S (e1'.toInt - e0'.toInt).toNat (ofs.toInt + e0'.toInt).toNat R 0)) ∧ (g' 8 = 255 * nrow.toInt64 * (e2' - e1').toInt64 ∧ g' 9 = (own_blk f S (e2'.toInt - e1'.toInt).toNat (ofs.toInt + e1'.toInt).toNat R 0) ∧ g' 10 = (own_blk f S (e2'.toInt - e1'.toInt).toNat (ofs.toInt + e1'.toInt).toNat R 0) ∧ g' 11 = (own_blk f S (e2'.toInt - e1'.toInt).toNat (ofs.toInt + e1'.toInt).toNat R 0)))) T40 (mkF m 38 #[.val (.ref a), .val (.ref sb), .val (.int ofs), .val (.int strd), .val (.int nrow), .val (.ref rb), .val (.ref ub), .val (.int e0'), .val (.int (1 : Int32)), .val (.long x), .second, .val (.int row), .val (.int ii)] []) := by
    intro k
    induction k with
    | zero =>
      intro ii row x g0 g1 g2 g3 k'
      have eb : ((row + e1') - e0').toInt = row.toInt + (e1'.toInt - (e0').toInt) := by rw [own_sub _ _ (by rw [own_add _ _ g0 (by omega) (by omega)]; omega) q1a, own_add _ _ g0 (by omega) (by omega)]; omega
      refine g_iload (i := 12) X40 hx (hb hby d3_38) (by rfl) rfl ?_
      refine g_iload (i := 11) X40 hx (hb hby d3_40) (by rfl) rfl ?_
      refine g_aload (i := 5) X40 hx (hb hby d3_42) (by rfl) rfl rfl ?_
      refine g_iload (i := 8) X40 hx (hb hby d3_44) (by rfl) rfl ?_
      refine g_iaload' X40 hx hZ e40 Ag40 (by decide) (by decide) (x := e1') ((congrArg ge (by decide)).trans hg1) (hb hby d3_46) rfl ?_
      refine g_iadd X40 hx (hb hby d3_47) rfl ?_
      refine g_iload (i := 7) X40 hx (hb hby d3_48) (by rfl) rfl ?_
      refine g_isub X40 hx (hb hby d3_50) rfl ?_
      refine g_icmp_ge X40 hx (hb hby d3_51) (by decide) (pt := 74) (by decide) rfl (fun _ => ?_) (fun q_ => absurd q_ (by rw [own_ltI, eb]; omega))
      exact k' ii
    | succ k ih =>
      intro ii row x g0 g1 g2 g3 k'
      have eb : ((row + e1') - e0').toInt = row.toInt + (e1'.toInt - (e0').toInt) := by rw [own_sub _ _ (by rw [own_add _ _ g0 (by omega) (by omega)]; omega) q1a, own_add _ _ g0 (by omega) (by omega)]; omega
      refine g_iload (i := 12) X40 hx (hb hby d3_38) (by rfl) rfl ?_
      refine g_iload (i := 11) X40 hx (hb hby d3_40) (by rfl) rfl ?_
      refine g_aload (i := 5) X40 hx (hb hby d3_42) (by rfl) rfl rfl ?_
      refine g_iload (i := 8) X40 hx (hb hby d3_44) (by rfl) rfl ?_
      refine g_iaload' X40 hx hZ e40 Ag40 (by decide) (by decide) (x := e1') ((congrArg ge (by decide)).trans hg1) (hb hby d3_46) rfl ?_
      refine g_iadd X40 hx (hb hby d3_47) rfl ?_
      refine g_iload (i := 7) X40 hx (hb hby d3_48) (by rfl) rfl ?_
      refine g_isub X40 hx (hb hby d3_50) rfl ?_
      refine g_icmp_ge X40 hx (hb hby d3_51) (by decide) (pt := 74) (by decide) rfl (fun q_ => absurd (by rw [own_ltI, eb]; omega) q_) (fun _ => ?_)
      refine g_lload (i := 9) X40 hx (hb hby d3_54) (by rfl) rfl ?_
      refine g_aload_n (i := 1) X40 hx (hb hby d3_56) (by rfl) rfl rfl ?_
      refine g_iload (i := 12) X40 hx (hb hby d3_57) (by rfl) rfl ?_
      refine g_baload' X40 hx hZ e40 As40 (own_nneg (by omega)) (by rw [own_tnc]; omega) (x := (f ii.toNatClampNeg)) rfl (hb hby d3_59) rfl ?_
      refine g_sipush (v := (255 : Int32)) X40 hx (hb hby d3_60) (by decide) rfl ?_
      refine g_iand X40 hx (hb hby d3_63) rfl ?_
      refine g_i2l X40 hx (hb hby d3_64) rfl ?_
      refine g_ladd X40 hx (hb hby d3_65) rfl ?_
      refine g_lstore (i := 9) X40 hx #[.val (.ref a), .val (.ref sb), .val (.int ofs), .val (.int strd), .val (.int nrow), .val (.ref rb), .val (.ref ub), .val (.int e0'), .val (.int (1 : Int32)), .val (.long (x + ((f ii.toNatClampNeg) &&& (255 : Int32)).toInt64)), .second, .val (.int row), .val (.int ii)] (hb hby d3_66) rfl rfl ?_
      refine g_iinc (i := 12) (x := ii) (y := (ii + (1 : Int32))) X40 hx #[.val (.ref a), .val (.ref sb), .val (.int ofs), .val (.int strd), .val (.int nrow), .val (.ref rb), .val (.ref ub), .val (.int e0'), .val (.int (1 : Int32)), .val (.long (x + ((f ii.toNatClampNeg) &&& (255 : Int32)).toInt64)), .second, .val (.int row), .val (.int (ii + (1 : Int32)))] (hb hby d3_68) (by rfl) (by rfl) rfl rfl ?_
      refine g_goto X40 hx (hb hby d3_71) (by decide) (by decide) (pc' := 38) ?_
      have e1 := own_inc (i := ii) (by omega)
      refine ih _ row _ g0 (by omega) (by omega) (by omega) (fun i' => ?_)
      have hk := k' i'
      rw [show own_row f ii.toInt.toNat (k + 1) x = own_row f (ii + 1).toInt.toNat k (x + (f ii.toNatClampNeg &&& 255).toInt64) by
        rw [e1, show (ii.toInt + 1).toNat = ii.toInt.toNat + 1 by omega]; rfl] at hk
      exact hk
  have mid1 : ∀ (k r : Nat) (row : Int32) (x : Int64) (s12 : Slot), One s12 → r + k = R → row.toInt = ofs.toInt + (e0').toInt + ((r * S : Nat) : Int) → (∀ (row' : Int32) (t12 : Slot), One t12 → Goes p e below (KQ s ({ frames := 0, cells := 0, slots := 0, locals := 0 } : Room).cells ({ frames := 0, cells := 0, slots := 0, locals := 0 } : Room).slots (fun v h L => ∃ g', v = some (.int 1) ∧ Fr n0 L ∧ ArJ Z h ub .long 12 g' ∧ (g' 0 = 255 * nrow.toInt64 * (e0' - (0 : Int32)).toInt64 ∧ g' 1 = (own_blk f S (e0'.toInt - 0).toNat (ofs.toInt + 0).toNat R 0) ∧ g' 2 = (own_blk f S (e0'.toInt - 0).toNat (ofs.toInt + 0).toNat R 0) ∧ g' 3 = (own_blk f S (e0'.toInt - 0).toNat (ofs.toInt + 0).toNat R 0)) ∧ (g' 4 = 255 * nrow.toInt64 * (e1' - e0').toInt64 ∧ g' 5 = (own_blk f S (e1'.toInt - e0'.toInt).toNat (ofs.toInt + e0'.toInt).toNat R 0) ∧ g' 6 = (own_blk f S (e1'.toInt - e0'.toInt).toNat (ofs.toInt + e0'.toInt).toNat R 0) ∧ g' 7 = (own_blk f S (e1'.toInt - e0'.toInt).toNat (ofs.toInt + e0'.toInt).toNat R 0)) ∧ (g' 8 = 255 * nrow.toInt64 * (e2' - e1').toInt64 ∧ g' 9 = (own_blk f S (e2'.toInt - e1'.toInt).toNat (ofs.toInt + e1'.toInt).toNat R 0) ∧ g' 10 = (own_blk f S (e2'.toInt - e1'.toInt).toNat (ofs.toInt + e1'.toInt).toNat R 0) ∧ g' 11 = (own_blk f S (e2'.toInt - e1'.toInt).toNat (ofs.toInt + e1'.toInt).toNat R 0)))) T40 (mkF m 83 #[.val (.ref a), .val (.ref sb), .val (.int ofs), .val (.int strd), .val (.int nrow), .val (.ref rb), .val (.ref ub), .val (.int e0'), .val (.int (1 : Int32)), .val (.long (own_blk f S (e1'.toInt - (e0').toInt).toNat row.toInt.toNat k x)), .second, .val (.int row'), t12] [])) → Goes p e below (KQ s ({ frames := 0, cells := 0, slots := 0, locals := 0 } : Room).cells ({ frames := 0, cells := 0, slots := 0, locals := 0 } : Room).slots (fun v h L => ∃ g', v = some (.int 1) ∧ Fr n0 L ∧ ArJ Z h ub .long 12 g' ∧ (g' 0 = 255 * nrow.toInt64 * (e0' - (0 : Int32)).toInt64 ∧ g' 1 = (own_blk f S (e0'.toInt - 0).toNat (ofs.toInt + 0).toNat R 0) ∧ g' 2 = (own_blk f S (e0'.toInt - 0).toNat (ofs.toInt + 0).toNat R 0) ∧ g' 3 = (own_blk f S (e0'.toInt - 0).toNat (ofs.toInt + 0).toNat R 0)) ∧ (g' 4 = 255 * nrow.toInt64 * (e1' - e0').toInt64 ∧ g' 5 = (own_blk f S (e1'.toInt - e0'.toInt).toNat (ofs.toInt + e0'.toInt).toNat R 0) ∧ g' 6 = (own_blk f S (e1'.toInt - e0'.toInt).toNat (ofs.toInt + e0'.toInt).toNat R 0) ∧ g' 7 = (own_blk f S (e1'.toInt - e0'.toInt).toNat (ofs.toInt + e0'.toInt).toNat R 0)) ∧ (g' 8 = 255 * nrow.toInt64 * (e2' - e1').toInt64 ∧ g' 9 = (own_blk f S (e2'.toInt - e1'.toInt).toNat (ofs.toInt + e1'.toInt).toNat R 0) ∧ g' 10 = (own_blk f S (e2'.toInt - e1'.toInt).toNat (ofs.toInt + e1'.toInt).toNat R 0) ∧ g' 11 = (own_blk f S (e2'.toInt - e1'.toInt).toNat (ofs.toInt + e1'.toInt).toNat R 0)))) T40 (mkF m 23 #[.val (.ref a), .val (.ref sb), .val (.int ofs), .val (.int strd), .val (.int nrow), .val (.ref rb), .val (.ref ub), .val (.int e0'), .val (.int (1 : Int32)), .val (.long x), .second, .val (.int row), s12] []) := by
    intro k
    induction k with
    | zero =>
      intro r row x s12 hs g1 g2 k'
      have hrR : r * S = R * S := by rw [show r = R by omega]
      refine g_iload (i := 11) X40 hx (hb hby d3_23) (by rfl) rfl ?_
      refine g_iload_n (i := 2) X40 hx (hb hby d3_25) (by rfl) rfl ?_
      refine g_iload (i := 4) X40 hx (hb hby d3_26) (by rfl) rfl ?_
      refine g_iload_n (i := 3) X40 hx (hb hby d3_28) (by rfl) rfl ?_
      refine g_imul X40 hx (hb hby d3_29) rfl ?_
      refine g_iadd X40 hx (hb hby d3_30) rfl ?_
      refine g_icmp_ge X40 hx (hb hby d3_31) (by decide) (pt := 83) (by decide) rfl (fun _ => ?_) (fun q_ => absurd q_ (by rw [own_ltI, q1d]; omega))
      exact k' row s12 hs
    | succ k ih =>
      intro r row x s12 hs g1 g2 k'
      have hrS : (r + 1) * S = r * S + S := Nat.succ_mul r S
      have hle : (r + 1) * S ≤ R * S := Nat.mul_le_mul_right S (by omega)
      have hr8 : r * S ≤ 8 := by
        have h3 : r = 0 ∨ r = 1 ∨ r = 2 := by omega
        rcases h3 with rfl | rfl | rfl <;> omega
      refine g_iload (i := 11) X40 hx (hb hby d3_23) (by rfl) rfl ?_
      refine g_iload_n (i := 2) X40 hx (hb hby d3_25) (by rfl) rfl ?_
      refine g_iload (i := 4) X40 hx (hb hby d3_26) (by rfl) rfl ?_
      refine g_iload_n (i := 3) X40 hx (hb hby d3_28) (by rfl) rfl ?_
      refine g_imul X40 hx (hb hby d3_29) rfl ?_
      refine g_iadd X40 hx (hb hby d3_30) rfl ?_
      refine g_icmp_ge X40 hx (hb hby d3_31) (by decide) (pt := 83) (by decide) rfl (fun q_ => absurd (by rw [own_ltI, q1d]; omega) q_) (fun _ => ?_)
      refine g_iload (i := 11) X40 hx (hb hby d3_34) (by rfl) rfl ?_
      refine g_istore (i := 12) X40 hx #[.val (.ref a), .val (.ref sb), .val (.int ofs), .val (.int strd), .val (.int nrow), .val (.ref rb), .val (.ref ub), .val (.int e0'), .val (.int (1 : Int32)), .val (.long x), .second, .val (.int row), .val (.int row)] (hb hby d3_36) (XS.store1 (o := s12) rfl hs rfl) rfl ?_
      refine inner1 (e1'.toInt - (e0').toInt).toNat row row x (by omega) (by omega) (by omega) (by omega) (fun i' => ?_)
      refine g_iload (i := 11) X40 hx (hb hby d3_74) (by rfl) rfl ?_
      refine g_iload_n (i := 3) X40 hx (hb hby d3_76) (by rfl) rfl ?_
      refine g_iadd X40 hx (hb hby d3_77) rfl ?_
      refine g_istore (i := 11) X40 hx #[.val (.ref a), .val (.ref sb), .val (.int ofs), .val (.int strd), .val (.int nrow), .val (.ref rb), .val (.ref ub), .val (.int e0'), .val (.int (1 : Int32)), .val (.long (own_row f row.toInt.toNat (e1'.toInt - (e0').toInt).toNat x)), .second, .val (.int (row + strd)), .val (.int i')] (hb hby d3_78) rfl rfl ?_
      refine g_goto X40 hx (hb hby d3_80) (by decide) (by decide) (pc' := 23) ?_
      have e2 : (row + strd).toInt = row.toInt + (S : Int) := by rw [own_add _ _ (by omega) (by omega) (by omega), hS]
      refine ih (r + 1) _ _ _ (One.val rfl) (by omega) (by omega) (fun row' t12 ht => ?_)
      have hk := k' row' t12 ht
      rw [show own_blk f S (e1'.toInt - (e0').toInt).toNat row.toInt.toNat (k + 1) x = own_blk f S (e1'.toInt - (e0').toInt).toNat (row + strd).toInt.toNat k (own_row f row.toInt.toNat (e1'.toInt - (e0').toInt).toNat x) by
        rw [e2, show (row.toInt + (S : Int)).toNat = row.toInt.toNat + S by omega]; rfl] at hk
      exact hk
  refine mid1 R 0 _ _ _ ht0 (by omega) (by rw [q1e, Nat.zero_mul]; omega) (fun row1 t1 ht1 => ?_)
  rw [q1e]
  refine g_iconst (v := (4 : Int32)) X40 hx (hb hby d3_83) (by decide) rfl ?_
  refine g_iload (i := 8) X40 hx (hb hby d3_84) (by rfl) rfl ?_
  refine g_imul X40 hx (hb hby d3_86) rfl ?_
  rw [show ((4 : Int32) * (1 : Int32)) = (4 : Int32) by decide]
  refine g_istore (i := 11) X40 hx #[.val (.ref a), .val (.ref sb), .val (.int ofs), .val (.int strd), .val (.int nrow), .val (.ref rb), .val (.ref ub), .val (.int e0'), .val (.int (1 : Int32)), .val (.long (own_blk f S (e1'.toInt - (e0').toInt).toNat (ofs.toInt + (e0').toInt).toNat R (0 : Int64))), .second, .val (.int (4 : Int32)), t1] (hb hby d3_87) rfl rfl ?_
  refine g_aload (i := 6) X40 hx (hb hby d3_89) (by rfl) rfl rfl ?_
  refine g_iload (i := 11) X40 hx (hb hby d3_91) (by rfl) rfl ?_
  refine g_ldc2J X40 hx hZ hown (wd hw 18 rfl) (hb hby d3_93) rfl ?_
  refine g_iload (i := 4) X40 hx (hb hby d3_96) (by rfl) rfl ?_
  refine g_i2l X40 hx (hb hby d3_98) rfl ?_
  refine g_lmul X40 hx (hb hby d3_99) rfl ?_
  refine g_aload (i := 5) X40 hx (hb hby d3_100) (by rfl) rfl rfl ?_
  refine g_iload (i := 8) X40 hx (hb hby d3_102) (by rfl) rfl ?_
  refine g_iaload' X40 hx hZ e40 Ag40 (by decide) (by decide) (x := e1') ((congrArg ge (by decide)).trans hg1) (hb hby d3_104) rfl ?_
  refine g_iload (i := 7) X40 hx (hb hby d3_105) (by rfl) rfl ?_
  refine g_isub X40 hx (hb hby d3_107) rfl ?_
  refine g_i2l X40 hx (hb hby d3_108) rfl ?_
  refine g_lmul X40 hx (hb hby d3_109) rfl ?_
  refine g_lastoreN X40 hx hZ e40 Ar40 4 (by decide) (by decide) (by decide) (hb hby d3_110) rfl ?_
  intro T41 h41 X41 e41 W41 Ar41
  have N41 := Fr.snoc X41 N40 gu
  have As41 := As40.other W41 hsb
  have Ag41 := Ag40.other W41 hrb
  refine g_aload (i := 6) X41 hx (hb hby d3_111) (by rfl) rfl rfl ?_
  refine g_iload (i := 11) X41 hx (hb hby d3_113) (by rfl) rfl ?_
  refine g_iconst (v := (1 : Int32)) X41 hx (hb hby d3_115) (by decide) rfl ?_
  refine g_iadd X41 hx (hb hby d3_116) rfl ?_
  rw [show ((4 : Int32) + (1 : Int32)) = (5 : Int32) by decide]
  refine g_lload (i := 9) X41 hx (hb hby d3_117) (by rfl) rfl ?_
  refine g_lastoreN X41 hx hZ e41 Ar41 5 (by decide) (by decide) (by decide) (hb hby d3_119) rfl ?_
  intro T42 h42 X42 e42 W42 Ar42
  have N42 := Fr.snoc X42 N41 gu
  have As42 := As41.other W42 hsb
  have Ag42 := Ag41.other W42 hrb
  refine g_aload (i := 6) X42 hx (hb hby d3_120) (by rfl) rfl rfl ?_
  refine g_iload (i := 11) X42 hx (hb hby d3_122) (by rfl) rfl ?_
  refine g_iconst (v := (2 : Int32)) X42 hx (hb hby d3_124) (by decide) rfl ?_
  refine g_iadd X42 hx (hb hby d3_125) rfl ?_
  rw [show ((4 : Int32) + (2 : Int32)) = (6 : Int32) by decide]
  refine g_lload (i := 9) X42 hx (hb hby d3_126) (by rfl) rfl ?_
  refine g_lastoreN X42 hx hZ e42 Ar42 6 (by decide) (by decide) (by decide) (hb hby d3_128) rfl ?_
  intro T43 h43 X43 e43 W43 Ar43
  have N43 := Fr.snoc X43 N42 gu
  have As43 := As42.other W43 hsb
  have Ag43 := Ag42.other W43 hrb
  refine g_aload (i := 6) X43 hx (hb hby d3_129) (by rfl) rfl rfl ?_
  refine g_iload (i := 11) X43 hx (hb hby d3_131) (by rfl) rfl ?_
  refine g_iconst (v := (3 : Int32)) X43 hx (hb hby d3_133) (by decide) rfl ?_
  refine g_iadd X43 hx (hb hby d3_134) rfl ?_
  rw [show ((4 : Int32) + (3 : Int32)) = (7 : Int32) by decide]
  refine g_lload (i := 9) X43 hx (hb hby d3_135) (by rfl) rfl ?_
  refine g_lastoreN X43 hx hZ e43 Ar43 7 (by decide) (by decide) (by decide) (hb hby d3_137) rfl ?_
  intro T44 h44 X44 e44 W44 Ar44
  have N44 := Fr.snoc X44 N43 gu
  have As44 := As43.other W44 hsb
  have Ag44 := Ag43.other W44 hrb
  refine g_aload (i := 5) X44 hx (hb hby d3_138) (by rfl) rfl rfl ?_
  refine g_iload (i := 8) X44 hx (hb hby d3_140) (by rfl) rfl ?_
  refine g_iaload' X44 hx hZ e44 Ag44 (by decide) (by decide) (x := e1') ((congrArg ge (by decide)).trans hg1) (hb hby d3_142) rfl ?_
  refine g_istore (i := 7) X44 hx #[.val (.ref a), .val (.ref sb), .val (.int ofs), .val (.int strd), .val (.int nrow), .val (.ref rb), .val (.ref ub), .val (.int e1'), .val (.int (1 : Int32)), .val (.long (own_blk f S (e1'.toInt - (e0').toInt).toNat (ofs.toInt + (e0').toInt).toNat R (0 : Int64))), .second, .val (.int (4 : Int32)), t1] (hb hby d3_143) rfl rfl ?_
  refine g_iinc (i := 8) (x := (1 : Int32)) (y := (2 : Int32)) X44 hx #[.val (.ref a), .val (.ref sb), .val (.int ofs), .val (.int strd), .val (.int nrow), .val (.ref rb), .val (.ref ub), .val (.int e1'), .val (.int (2 : Int32)), .val (.long (own_blk f S (e1'.toInt - (e0').toInt).toNat (ofs.toInt + (e0').toInt).toNat R (0 : Int64))), .second, .val (.int (4 : Int32)), t1] (hb hby d3_145) (by rfl) (by decide) rfl rfl ?_
  refine g_goto X44 hx (hb hby d3_148) (by decide) (by decide) (pc' := 6) ?_
  refine g_iload (i := 8) X44 hx (hb hby d3_6) (by rfl) rfl ?_
  refine g_aload (i := 5) X44 hx (hb hby d3_8) (by rfl) rfl rfl ?_
  refine g_arraylengthI X44 hx hZ e44 Ag44 (z := (3 : Int32)) (by decide) (hb hby d3_10) rfl ?_
  refine g_icmp_ge X44 hx (hb hby d3_11) (by decide) (pt := 151) (by decide) rfl (fun q_ => absurd (by decide) q_) (fun _ => ?_)
  refine g_lconst (v := (0 : Int64)) X44 hx (hb hby d3_14) (by decide) rfl ?_
  refine g_lstore (i := 9) X44 hx #[.val (.ref a), .val (.ref sb), .val (.int ofs), .val (.int strd), .val (.int nrow), .val (.ref rb), .val (.ref ub), .val (.int e1'), .val (.int (2 : Int32)), .val (.long (0 : Int64)), .second, .val (.int (4 : Int32)), t1] (hb hby d3_15) rfl rfl ?_
  refine g_iload_n (i := 2) X44 hx (hb hby d3_17) (by rfl) rfl ?_
  refine g_iload (i := 7) X44 hx (hb hby d3_18) (by rfl) rfl ?_
  refine g_iadd X44 hx (hb hby d3_20) rfl ?_
  refine g_istore (i := 11) X44 hx #[.val (.ref a), .val (.ref sb), .val (.int ofs), .val (.int strd), .val (.int nrow), .val (.ref rb), .val (.ref ub), .val (.int e1'), .val (.int (2 : Int32)), .val (.long (0 : Int64)), .second, .val (.int (ofs + e1')), t1] (hb hby d3_21) rfl rfl ?_
  have q2a : 0 ≤ (e1').toInt := by omega
  have q2b : (e1').toInt < e2'.toInt := by first | omega | (rw [show (0 : Int32).toInt = 0 from rfl]; omega)
  have q2c : e2'.toInt ≤ W := by omega
  have q2d : ((ofs + nrow * strd)).toInt = ofs.toInt + ((R * S : Nat) : Int) := by rw [own_add _ _ ho (by omega) (by omega), hRS]
  have q2e : ((ofs + e1')).toInt = ofs.toInt + (e1').toInt := own_add _ _ ho q2a (by omega)
  have inner2 : ∀ (k : Nat) (ii row : Int32) (x : Int64), 0 ≤ row.toInt → row.toInt ≤ ii.toInt → ii.toInt + (k : Int) = row.toInt + (e2'.toInt - (e1').toInt) → ii.toInt + (k : Int) ≤ 12 → (∀ i' : Int32, Goes p e below (KQ s ({ frames := 0, cells := 0, slots := 0, locals := 0 } : Room).cells ({ frames := 0, cells := 0, slots := 0, locals := 0 } : Room).slots (fun v h L => ∃ g', v = some (.int 1) ∧ Fr n0 L ∧ ArJ Z h ub .long 12 g' ∧ (g' 0 = 255 * nrow.toInt64 * (e0' - (0 : Int32)).toInt64 ∧ g' 1 = (own_blk f S (e0'.toInt - 0).toNat (ofs.toInt + 0).toNat R 0) ∧ g' 2 = (own_blk f S (e0'.toInt - 0).toNat (ofs.toInt + 0).toNat R 0) ∧ g' 3 = (own_blk f S (e0'.toInt - 0).toNat (ofs.toInt + 0).toNat R 0)) ∧ (g' 4 = 255 * nrow.toInt64 * (e1' - e0').toInt64 ∧ g' 5 = (own_blk f S (e1'.toInt - e0'.toInt).toNat (ofs.toInt + e0'.toInt).toNat R 0) ∧ g' 6 = (own_blk f S (e1'.toInt - e0'.toInt).toNat (ofs.toInt + e0'.toInt).toNat R 0) ∧ g' 7 = (own_blk f S (e1'.toInt - e0'.toInt).toNat (ofs.toInt + e0'.toInt).toNat R 0)) ∧ (g' 8 = 255 * nrow.toInt64 * (e2' - e1').toInt64 ∧ g' 9 = (own_blk f S (e2'.toInt - e1'.toInt).toNat (ofs.toInt + e1'.toInt).toNat R 0) ∧ g' 10 = (own_blk f S (e2'.toInt - e1'.toInt).toNat (ofs.toInt + e1'.toInt).toNat R 0) ∧ g' 11 = (own_blk f S (e2'.toInt - e1'.toInt).toNat (ofs.toInt + e1'.toInt).toNat R 0)))) T44 (mkF m 74 #[.val (.ref a), .val (.ref sb), .val (.int ofs), .val (.int strd), .val (.int nrow), .val (.ref rb), .val (.ref ub), .val (.int e1'), .val (.int (2 : Int32)), .val (.long (own_row f ii.toInt.toNat k x)), .second, .val (.int row), .val (.int i')] [])) → Goes p e below (KQ s ({ frames := 0, cells := 0, slots := 0, locals := 0 } : Room).cells ({ frames := 0, cells := 0, slots := 0, locals := 0 } : Room).slots (fun v h L => ∃ g', v = some (.int 1) ∧ Fr n0 L ∧ ArJ Z h ub .long 12 g' ∧ (g' 0 = 255 * nrow.toInt64 * (e0' - (0 : Int32)).toInt64 ∧ g' 1 = (own_blk f S (e0'.toInt - 0).toNat (ofs.toInt + 0).toNat R 0) ∧ g' 2 = (own_blk f S (e0'.toInt - 0).toNat (ofs.toInt + 0).toNat R 0) ∧ g' 3 = (own_blk f S (e0'.toInt - 0).toNat (ofs.toInt + 0).toNat R 0)) ∧ (g' 4 = 255 * nrow.toInt64 * (e1' - e0').toInt64 ∧ g' 5 = (own_blk f S (e1'.toInt - e0'.toInt).toNat (ofs.toInt + e0'.toInt).toNat R 0) ∧ g' 6 = (own_blk f S (e1'.toInt - e0'.toInt).toNat (ofs.toInt + e0'.toInt).toNat R 0) ∧ g' 7 = (own_blk f S (e1'.toInt - e0'.toInt).toNat (ofs.toInt + e0'.toInt).toNat R 0)) ∧ (g' 8 = 255 * nrow.toInt64 * (e2' - e1').toInt64 ∧ g' 9 = (own_blk f S (e2'.toInt - e1'.toInt).toNat (ofs.toInt + e1'.toInt).toNat R 0) ∧ g' 10 = (own_blk f S (e2'.toInt - e1'.toInt).toNat (ofs.toInt + e1'.toInt).toNat R 0) ∧ g' 11 = (own_blk f S (e2'.toInt - e1'.toInt).toNat (ofs.toInt + e1'.toInt).toNat R 0)))) T44 (mkF m 38 #[.val (.ref a), .val (.ref sb), .val (.int ofs), .val (.int strd), .val (.int nrow), .val (.ref rb), .val (.ref ub), .val (.int e1'), .val (.int (2 : Int32)), .val (.long x), .second, .val (.int row), .val (.int ii)] []) := by
    intro k
    induction k with
    | zero =>
      intro ii row x g0 g1 g2 g3 k'
      have eb : ((row + e2') - e1').toInt = row.toInt + (e2'.toInt - (e1').toInt) := by rw [own_sub _ _ (by rw [own_add _ _ g0 (by omega) (by omega)]; omega) q2a, own_add _ _ g0 (by omega) (by omega)]; omega
      refine g_iload (i := 12) X44 hx (hb hby d3_38) (by rfl) rfl ?_
      refine g_iload (i := 11) X44 hx (hb hby d3_40) (by rfl) rfl ?_
      refine g_aload (i := 5) X44 hx (hb hby d3_42) (by rfl) rfl rfl ?_
      refine g_iload (i := 8) X44 hx (hb hby d3_44) (by rfl) rfl ?_
      refine g_iaload' X44 hx hZ e44 Ag44 (by decide) (by decide) (x := e2') ((congrArg ge (by decide)).trans hg2) (hb hby d3_46) rfl ?_
      refine g_iadd X44 hx (hb hby d3_47) rfl ?_
      refine g_iload (i := 7) X44 hx (hb hby d3_48) (by rfl) rfl ?_
      refine g_isub X44 hx (hb hby d3_50) rfl ?_
      refine g_icmp_ge X44 hx (hb hby d3_51) (by decide) (pt := 74) (by decide) rfl (fun _ => ?_) (fun q_ => absurd q_ (by rw [own_ltI, eb]; omega))
      exact k' ii
    | succ k ih =>
      intro ii row x g0 g1 g2 g3 k'
      have eb : ((row + e2') - e1').toInt = row.toInt + (e2'.toInt - (e1').toInt) := by rw [own_sub _ _ (by rw [own_add _ _ g0 (by omega) (by omega)]; omega) q2a, own_add _ _ g0 (by omega) (by omega)]; omega
      refine g_iload (i := 12) X44 hx (hb hby d3_38) (by rfl) rfl ?_
      refine g_iload (i := 11) X44 hx (hb hby d3_40) (by rfl) rfl ?_
      refine g_aload (i := 5) X44 hx (hb hby d3_42) (by rfl) rfl rfl ?_
      refine g_iload (i := 8) X44 hx (hb hby d3_44) (by rfl) rfl ?_
      refine g_iaload' X44 hx hZ e44 Ag44 (by decide) (by decide) (x := e2') ((congrArg ge (by decide)).trans hg2) (hb hby d3_46) rfl ?_
      refine g_iadd X44 hx (hb hby d3_47) rfl ?_
      refine g_iload (i := 7) X44 hx (hb hby d3_48) (by rfl) rfl ?_
      refine g_isub X44 hx (hb hby d3_50) rfl ?_
      refine g_icmp_ge X44 hx (hb hby d3_51) (by decide) (pt := 74) (by decide) rfl (fun q_ => absurd (by rw [own_ltI, eb]; omega) q_) (fun _ => ?_)
      refine g_lload (i := 9) X44 hx (hb hby d3_54) (by rfl) rfl ?_
      refine g_aload_n (i := 1) X44 hx (hb hby d3_56) (by rfl) rfl rfl ?_
      refine g_iload (i := 12) X44 hx (hb hby d3_57) (by rfl) rfl ?_
      refine g_baload' X44 hx hZ e44 As44 (own_nneg (by omega)) (by rw [own_tnc]; omega) (x := (f ii.toNatClampNeg)) rfl (hb hby d3_59) rfl ?_
      refine g_sipush (v := (255 : Int32)) X44 hx (hb hby d3_60) (by decide) rfl ?_
      refine g_iand X44 hx (hb hby d3_63) rfl ?_
      refine g_i2l X44 hx (hb hby d3_64) rfl ?_
      refine g_ladd X44 hx (hb hby d3_65) rfl ?_
      refine g_lstore (i := 9) X44 hx #[.val (.ref a), .val (.ref sb), .val (.int ofs), .val (.int strd), .val (.int nrow), .val (.ref rb), .val (.ref ub), .val (.int e1'), .val (.int (2 : Int32)), .val (.long (x + ((f ii.toNatClampNeg) &&& (255 : Int32)).toInt64)), .second, .val (.int row), .val (.int ii)] (hb hby d3_66) rfl rfl ?_
      refine g_iinc (i := 12) (x := ii) (y := (ii + (1 : Int32))) X44 hx #[.val (.ref a), .val (.ref sb), .val (.int ofs), .val (.int strd), .val (.int nrow), .val (.ref rb), .val (.ref ub), .val (.int e1'), .val (.int (2 : Int32)), .val (.long (x + ((f ii.toNatClampNeg) &&& (255 : Int32)).toInt64)), .second, .val (.int row), .val (.int (ii + (1 : Int32)))] (hb hby d3_68) (by rfl) (by rfl) rfl rfl ?_
      refine g_goto X44 hx (hb hby d3_71) (by decide) (by decide) (pc' := 38) ?_
      have e1 := own_inc (i := ii) (by omega)
      refine ih _ row _ g0 (by omega) (by omega) (by omega) (fun i' => ?_)
      have hk := k' i'
      rw [show own_row f ii.toInt.toNat (k + 1) x = own_row f (ii + 1).toInt.toNat k (x + (f ii.toNatClampNeg &&& 255).toInt64) by
        rw [e1, show (ii.toInt + 1).toNat = ii.toInt.toNat + 1 by omega]; rfl] at hk
      exact hk
  have mid2 : ∀ (k r : Nat) (row : Int32) (x : Int64) (s12 : Slot), One s12 → r + k = R → row.toInt = ofs.toInt + (e1').toInt + ((r * S : Nat) : Int) → (∀ (row' : Int32) (t12 : Slot), One t12 → Goes p e below (KQ s ({ frames := 0, cells := 0, slots := 0, locals := 0 } : Room).cells ({ frames := 0, cells := 0, slots := 0, locals := 0 } : Room).slots (fun v h L => ∃ g', v = some (.int 1) ∧ Fr n0 L ∧ ArJ Z h ub .long 12 g' ∧ (g' 0 = 255 * nrow.toInt64 * (e0' - (0 : Int32)).toInt64 ∧ g' 1 = (own_blk f S (e0'.toInt - 0).toNat (ofs.toInt + 0).toNat R 0) ∧ g' 2 = (own_blk f S (e0'.toInt - 0).toNat (ofs.toInt + 0).toNat R 0) ∧ g' 3 = (own_blk f S (e0'.toInt - 0).toNat (ofs.toInt + 0).toNat R 0)) ∧ (g' 4 = 255 * nrow.toInt64 * (e1' - e0').toInt64 ∧ g' 5 = (own_blk f S (e1'.toInt - e0'.toInt).toNat (ofs.toInt + e0'.toInt).toNat R 0) ∧ g' 6 = (own_blk f S (e1'.toInt - e0'.toInt).toNat (ofs.toInt + e0'.toInt).toNat R 0) ∧ g' 7 = (own_blk f S (e1'.toInt - e0'.toInt).toNat (ofs.toInt + e0'.toInt).toNat R 0)) ∧ (g' 8 = 255 * nrow.toInt64 * (e2' - e1').toInt64 ∧ g' 9 = (own_blk f S (e2'.toInt - e1'.toInt).toNat (ofs.toInt + e1'.toInt).toNat R 0) ∧ g' 10 = (own_blk f S (e2'.toInt - e1'.toInt).toNat (ofs.toInt + e1'.toInt).toNat R 0) ∧ g' 11 = (own_blk f S (e2'.toInt - e1'.toInt).toNat (ofs.toInt + e1'.toInt).toNat R 0)))) T44 (mkF m 83 #[.val (.ref a), .val (.ref sb), .val (.int ofs), .val (.int strd), .val (.int nrow), .val (.ref rb), .val (.ref ub), .val (.int e1'), .val (.int (2 : Int32)), .val (.long (own_blk f S (e2'.toInt - (e1').toInt).toNat row.toInt.toNat k x)), .second, .val (.int row'), t12] [])) → Goes p e below (KQ s ({ frames := 0, cells := 0, slots := 0, locals := 0 } : Room).cells ({ frames := 0, cells := 0, slots := 0, locals := 0 } : Room).slots (fun v h L => ∃ g', v = some (.int 1) ∧ Fr n0 L ∧ ArJ Z h ub .long 12 g' ∧ (g' 0 = 255 * nrow.toInt64 * (e0' - (0 : Int32)).toInt64 ∧ g' 1 = (own_blk f S (e0'.toInt - 0).toNat (ofs.toInt + 0).toNat R 0) ∧ g' 2 = (own_blk f S (e0'.toInt - 0).toNat (ofs.toInt + 0).toNat R 0) ∧ g' 3 = (own_blk f S (e0'.toInt - 0).toNat (ofs.toInt + 0).toNat R 0)) ∧ (g' 4 = 255 * nrow.toInt64 * (e1' - e0').toInt64 ∧ g' 5 = (own_blk f S (e1'.toInt - e0'.toInt).toNat (ofs.toInt + e0'.toInt).toNat R 0) ∧ g' 6 = (own_blk f S (e1'.toInt - e0'.toInt).toNat (ofs.toInt + e0'.toInt).toNat R 0) ∧ g' 7 = (own_blk f S (e1'.toInt - e0'.toInt).toNat (ofs.toInt + e0'.toInt).toNat R 0)) ∧ (g' 8 = 255 * nrow.toInt64 * (e2' - e1').toInt64 ∧ g' 9 = (own_blk f S (e2'.toInt - e1'.toInt).toNat (ofs.toInt + e1'.toInt).toNat R 0) ∧ g' 10 = (own_blk f S (e2'.toInt - e1'.toInt).toNat (ofs.toInt + e1'.toInt).toNat R 0) ∧ g' 11 = (own_blk f S (e2'.toInt - e1'.toInt).toNat (ofs.toInt + e1'.toInt).toNat R 0)))) T44 (mkF m 23 #[.val (.ref a), .val (.ref sb), .val (.int ofs), .val (.int strd), .val (.int nrow), .val (.ref rb), .val (.ref ub), .val (.int e1'), .val (.int (2 : Int32)), .val (.long x), .second, .val (.int row), s12] []) := by
    intro k
    induction k with
    | zero =>
      intro r row x s12 hs g1 g2 k'
      have hrR : r * S = R * S := by rw [show r = R by omega]
      refine g_iload (i := 11) X44 hx (hb hby d3_23) (by rfl) rfl ?_
      refine g_iload_n (i := 2) X44 hx (hb hby d3_25) (by rfl) rfl ?_
      refine g_iload (i := 4) X44 hx (hb hby d3_26) (by rfl) rfl ?_
      refine g_iload_n (i := 3) X44 hx (hb hby d3_28) (by rfl) rfl ?_
      refine g_imul X44 hx (hb hby d3_29) rfl ?_
      refine g_iadd X44 hx (hb hby d3_30) rfl ?_
      refine g_icmp_ge X44 hx (hb hby d3_31) (by decide) (pt := 83) (by decide) rfl (fun _ => ?_) (fun q_ => absurd q_ (by rw [own_ltI, q2d]; omega))
      exact k' row s12 hs
    | succ k ih =>
      intro r row x s12 hs g1 g2 k'
      have hrS : (r + 1) * S = r * S + S := Nat.succ_mul r S
      have hle : (r + 1) * S ≤ R * S := Nat.mul_le_mul_right S (by omega)
      have hr8 : r * S ≤ 8 := by
        have h3 : r = 0 ∨ r = 1 ∨ r = 2 := by omega
        rcases h3 with rfl | rfl | rfl <;> omega
      refine g_iload (i := 11) X44 hx (hb hby d3_23) (by rfl) rfl ?_
      refine g_iload_n (i := 2) X44 hx (hb hby d3_25) (by rfl) rfl ?_
      refine g_iload (i := 4) X44 hx (hb hby d3_26) (by rfl) rfl ?_
      refine g_iload_n (i := 3) X44 hx (hb hby d3_28) (by rfl) rfl ?_
      refine g_imul X44 hx (hb hby d3_29) rfl ?_
      refine g_iadd X44 hx (hb hby d3_30) rfl ?_
      refine g_icmp_ge X44 hx (hb hby d3_31) (by decide) (pt := 83) (by decide) rfl (fun q_ => absurd (by rw [own_ltI, q2d]; omega) q_) (fun _ => ?_)
      refine g_iload (i := 11) X44 hx (hb hby d3_34) (by rfl) rfl ?_
      refine g_istore (i := 12) X44 hx #[.val (.ref a), .val (.ref sb), .val (.int ofs), .val (.int strd), .val (.int nrow), .val (.ref rb), .val (.ref ub), .val (.int e1'), .val (.int (2 : Int32)), .val (.long x), .second, .val (.int row), .val (.int row)] (hb hby d3_36) (XS.store1 (o := s12) rfl hs rfl) rfl ?_
      refine inner2 (e2'.toInt - (e1').toInt).toNat row row x (by omega) (by omega) (by omega) (by omega) (fun i' => ?_)
      refine g_iload (i := 11) X44 hx (hb hby d3_74) (by rfl) rfl ?_
      refine g_iload_n (i := 3) X44 hx (hb hby d3_76) (by rfl) rfl ?_
      refine g_iadd X44 hx (hb hby d3_77) rfl ?_
      refine g_istore (i := 11) X44 hx #[.val (.ref a), .val (.ref sb), .val (.int ofs), .val (.int strd), .val (.int nrow), .val (.ref rb), .val (.ref ub), .val (.int e1'), .val (.int (2 : Int32)), .val (.long (own_row f row.toInt.toNat (e2'.toInt - (e1').toInt).toNat x)), .second, .val (.int (row + strd)), .val (.int i')] (hb hby d3_78) rfl rfl ?_
      refine g_goto X44 hx (hb hby d3_80) (by decide) (by decide) (pc' := 23) ?_
      have e2 : (row + strd).toInt = row.toInt + (S : Int) := by rw [own_add _ _ (by omega) (by omega) (by omega), hS]
      refine ih (r + 1) _ _ _ (One.val rfl) (by omega) (by omega) (fun row' t12 ht => ?_)
      have hk := k' row' t12 ht
      rw [show own_blk f S (e2'.toInt - (e1').toInt).toNat row.toInt.toNat (k + 1) x = own_blk f S (e2'.toInt - (e1').toInt).toNat (row + strd).toInt.toNat k (own_row f row.toInt.toNat (e2'.toInt - (e1').toInt).toNat x) by
        rw [e2, show (row.toInt + (S : Int)).toNat = row.toInt.toNat + S by omega]; rfl] at hk
      exact hk
  refine mid2 R 0 _ _ _ ht1 (by omega) (by rw [q2e, Nat.zero_mul]; omega) (fun row2 t2 ht2 => ?_)
  rw [q2e]
  refine g_iconst (v := (4 : Int32)) X44 hx (hb hby d3_83) (by decide) rfl ?_
  refine g_iload (i := 8) X44 hx (hb hby d3_84) (by rfl) rfl ?_
  refine g_imul X44 hx (hb hby d3_86) rfl ?_
  rw [show ((4 : Int32) * (2 : Int32)) = (8 : Int32) by decide]
  refine g_istore (i := 11) X44 hx #[.val (.ref a), .val (.ref sb), .val (.int ofs), .val (.int strd), .val (.int nrow), .val (.ref rb), .val (.ref ub), .val (.int e1'), .val (.int (2 : Int32)), .val (.long (own_blk f S (e2'.toInt - (e1').toInt).toNat (ofs.toInt + (e1').toInt).toNat R (0 : Int64))), .second, .val (.int (8 : Int32)), t2] (hb hby d3_87) rfl rfl ?_
  refine g_aload (i := 6) X44 hx (hb hby d3_89) (by rfl) rfl rfl ?_
  refine g_iload (i := 11) X44 hx (hb hby d3_91) (by rfl) rfl ?_
  refine g_ldc2J X44 hx hZ hown (wd hw 18 rfl) (hb hby d3_93) rfl ?_
  refine g_iload (i := 4) X44 hx (hb hby d3_96) (by rfl) rfl ?_
  refine g_i2l X44 hx (hb hby d3_98) rfl ?_
  refine g_lmul X44 hx (hb hby d3_99) rfl ?_
  refine g_aload (i := 5) X44 hx (hb hby d3_100) (by rfl) rfl rfl ?_
  refine g_iload (i := 8) X44 hx (hb hby d3_102) (by rfl) rfl ?_
  refine g_iaload' X44 hx hZ e44 Ag44 (by decide) (by decide) (x := e2') ((congrArg ge (by decide)).trans hg2) (hb hby d3_104) rfl ?_
  refine g_iload (i := 7) X44 hx (hb hby d3_105) (by rfl) rfl ?_
  refine g_isub X44 hx (hb hby d3_107) rfl ?_
  refine g_i2l X44 hx (hb hby d3_108) rfl ?_
  refine g_lmul X44 hx (hb hby d3_109) rfl ?_
  refine g_lastoreN X44 hx hZ e44 Ar44 8 (by decide) (by decide) (by decide) (hb hby d3_110) rfl ?_
  intro T45 h45 X45 e45 W45 Ar45
  have N45 := Fr.snoc X45 N44 gu
  have As45 := As44.other W45 hsb
  have Ag45 := Ag44.other W45 hrb
  refine g_aload (i := 6) X45 hx (hb hby d3_111) (by rfl) rfl rfl ?_
  refine g_iload (i := 11) X45 hx (hb hby d3_113) (by rfl) rfl ?_
  refine g_iconst (v := (1 : Int32)) X45 hx (hb hby d3_115) (by decide) rfl ?_
  refine g_iadd X45 hx (hb hby d3_116) rfl ?_
  rw [show ((8 : Int32) + (1 : Int32)) = (9 : Int32) by decide]
  refine g_lload (i := 9) X45 hx (hb hby d3_117) (by rfl) rfl ?_
  refine g_lastoreN X45 hx hZ e45 Ar45 9 (by decide) (by decide) (by decide) (hb hby d3_119) rfl ?_
  intro T46 h46 X46 e46 W46 Ar46
  have N46 := Fr.snoc X46 N45 gu
  have As46 := As45.other W46 hsb
  have Ag46 := Ag45.other W46 hrb
  refine g_aload (i := 6) X46 hx (hb hby d3_120) (by rfl) rfl rfl ?_
  refine g_iload (i := 11) X46 hx (hb hby d3_122) (by rfl) rfl ?_
  refine g_iconst (v := (2 : Int32)) X46 hx (hb hby d3_124) (by decide) rfl ?_
  refine g_iadd X46 hx (hb hby d3_125) rfl ?_
  rw [show ((8 : Int32) + (2 : Int32)) = (10 : Int32) by decide]
  refine g_lload (i := 9) X46 hx (hb hby d3_126) (by rfl) rfl ?_
  refine g_lastoreN X46 hx hZ e46 Ar46 10 (by decide) (by decide) (by decide) (hb hby d3_128) rfl ?_
  intro T47 h47 X47 e47 W47 Ar47
  have N47 := Fr.snoc X47 N46 gu
  have As47 := As46.other W47 hsb
  have Ag47 := Ag46.other W47 hrb
  refine g_aload (i := 6) X47 hx (hb hby d3_129) (by rfl) rfl rfl ?_
  refine g_iload (i := 11) X47 hx (hb hby d3_131) (by rfl) rfl ?_
  refine g_iconst (v := (3 : Int32)) X47 hx (hb hby d3_133) (by decide) rfl ?_
  refine g_iadd X47 hx (hb hby d3_134) rfl ?_
  rw [show ((8 : Int32) + (3 : Int32)) = (11 : Int32) by decide]
  refine g_lload (i := 9) X47 hx (hb hby d3_135) (by rfl) rfl ?_
  refine g_lastoreN X47 hx hZ e47 Ar47 11 (by decide) (by decide) (by decide) (hb hby d3_137) rfl ?_
  intro T48 h48 X48 e48 W48 Ar48
  have N48 := Fr.snoc X48 N47 gu
  have As48 := As47.other W48 hsb
  have Ag48 := Ag47.other W48 hrb
  refine g_aload (i := 5) X48 hx (hb hby d3_138) (by rfl) rfl rfl ?_
  refine g_iload (i := 8) X48 hx (hb hby d3_140) (by rfl) rfl ?_
  refine g_iaload' X48 hx hZ e48 Ag48 (by decide) (by decide) (x := e2') ((congrArg ge (by decide)).trans hg2) (hb hby d3_142) rfl ?_
  refine g_istore (i := 7) X48 hx #[.val (.ref a), .val (.ref sb), .val (.int ofs), .val (.int strd), .val (.int nrow), .val (.ref rb), .val (.ref ub), .val (.int e2'), .val (.int (2 : Int32)), .val (.long (own_blk f S (e2'.toInt - (e1').toInt).toNat (ofs.toInt + (e1').toInt).toNat R (0 : Int64))), .second, .val (.int (8 : Int32)), t2] (hb hby d3_143) rfl rfl ?_
  refine g_iinc (i := 8) (x := (2 : Int32)) (y := (3 : Int32)) X48 hx #[.val (.ref a), .val (.ref sb), .val (.int ofs), .val (.int strd), .val (.int nrow), .val (.ref rb), .val (.ref ub), .val (.int e2'), .val (.int (3 : Int32)), .val (.long (own_blk f S (e2'.toInt - (e1').toInt).toNat (ofs.toInt + (e1').toInt).toNat R (0 : Int64))), .second, .val (.int (8 : Int32)), t2] (hb hby d3_145) (by rfl) (by decide) rfl rfl ?_
  refine g_goto X48 hx (hb hby d3_148) (by decide) (by decide) (pc' := 6) ?_
  refine g_iload (i := 8) X48 hx (hb hby d3_6) (by rfl) rfl ?_
  refine g_aload (i := 5) X48 hx (hb hby d3_8) (by rfl) rfl rfl ?_
  refine g_arraylengthI X48 hx hZ e48 Ag48 (z := (3 : Int32)) (by decide) (hb hby d3_10) rfl ?_
  refine g_icmp_ge X48 hx (hb hby d3_11) (by decide) (pt := 151) (by decide) rfl (fun _ => ?_) (fun q_ => absurd q_ (by decide))
  refine g_iconst (v := (1 : Int32)) X48 hx (hb hby d3_151) (by decide) rfl ?_
  exact g_retN X48 hx (t := .boolean) (by simp) hlk hret e48 (by decide) (by decide) (hb hby d3_152) ⟨_, rfl, N48, Ar48, ⟨rfl, rfl, rfl, rfl⟩, ⟨rfl, rfl, rfl, rfl⟩, ⟨rfl, rfl, rfl, rfl⟩⟩
theorem own_nb (x : Int32) (s : Nat) (hs : s < 8) : x.toInt8.toInt32.toBitVec.getLsbD s = x.toBitVec.getLsbD s := by
  have e : x.toInt8.toInt32.toBitVec = (x.toBitVec.signExtend 8).signExtend 32 := by rw [Int8.toBitVec_toInt32, Int32.toBitVec_toInt8]
  rw [e, BitVec.getLsbD_signExtend, BitVec.getLsbD_signExtend, if_pos hs, if_pos (by omega : s < 32)]
  simp [hs, show s < 32 by omega]
theorem own_nb255 (x : Int32) : nar .byte x.toInt8.toInt32 &&& 255 = x &&& 255 := by
  apply Int32.toBitVec_inj.mp
  apply BitVec.eq_of_getLsbD_eq
  intro i hi
  rw [Int32.toBitVec_and, Int32.toBitVec_and, BitVec.getLsbD_and, BitVec.getLsbD_and]
  by_cases q : i < 8
  · simp only [nar]
    rw [own_nb _ i q, own_nb _ i q]
  · have hc : ∀ i : Fin 32, ¬ i.val < 8 → (255 : Int32).toBitVec.getLsbD i.val = false := by decide +kernel
    rw [hc ⟨i, hi⟩ q, Bool.and_false, Bool.and_false]
theorem own_u0L (x : Int64) : XT.ushrL x 0 = x := by
  apply Int64.toBitVec_inj.mp
  simp only [XT.ushrL]
  exact (UInt64.toBitVec_shiftRight x.toUInt64 _).trans (by rw [BitVec.ushiftRight_eq', show ((((0 : Int32).toInt64.toUInt64 &&& Int64.toUInt64 63).toBitVec % 64).toNat) = 0 by decide]; exact BitVec.ushiftRight_zero ..)
theorem own_u0 (x : Int32) : XT.ushr x 0 = x := by
  apply Int32.toBitVec_inj.mp
  simp only [XT.ushr]
  exact (UInt32.toBitVec_shiftRight x.toUInt32 _).trans (by rw [BitVec.ushiftRight_eq', show ((((0 : Int32) &&& 31).toUInt32.toBitVec % 32).toNat) = 0 by decide]; exact BitVec.ushiftRight_zero ..)
theorem own_twelve (i : Nat) (h : i < 12) : i = 0 ∨ i = 1 ∨ i = 2 ∨ i = 3 ∨ i = 4 ∨ i = 5 ∨ i = 6 ∨ i = 7 ∨ i = 8 ∨ i = 9 ∨ i = 10 ∨ i = 11 := by omega
theorem own_seven (m : Int32) (h0 : 0 ≤ m.toInt) (h1 : m.toInt < 7) : m = 0 ∨ m = 1 ∨ m = 2 ∨ m = 3 ∨ m = 4 ∨ m = 5 ∨ m = 6 :=
  own_fin (P := fun m => m = 0 ∨ m = 1 ∨ m = 2 ∨ m = 3 ∨ m = 4 ∨ m = 5 ∨ m = 6) 7 (by decide) (by decide +kernel) m h0 h1
theorem own_nrow (y : Int32) : (1 : Int32) + (y &&& 3) % 3 = 1 ∨ (1 : Int32) + (y &&& 3) % 3 = 2 ∨ (1 : Int32) + (y &&& 3) % 3 = 3 := by
  have e := c_mask y 3 2 (by decide) (by decide)
  exact own_fin (P := fun z => (1 : Int32) + z % 3 = 1 ∨ (1 : Int32) + z % 3 = 2 ∨ (1 : Int32) + z % 3 = 3) 4 (by decide) (by decide +kernel) (y &&& 3) (by rw [e]; omega) (by rw [e]; omega)
theorem own_bit (y : Int32) : 0 ≤ (y &&& 1).toInt ∧ (y &&& 1).toInt ≤ 1 := by rw [c_mask y 1 1 (by decide) (by decide)]; omega
theorem own_K {a : Int64} {b ofs strd : Int32} {f : Nat → Int32} {S : Nat} (hf : ∀ i, i < 12 → f i &&& 255 = own_smp a b (Int32.ofNat i)) (ho : 0 ≤ ofs.toInt) (hS : strd.toInt = (S : Int)) (r c' n : Nat) (hr : r ≤ 2) (hc : c' ≤ 2) (hn : (n : Int) = ofs.toInt + ((r * S : Nat) : Int) + (c' : Int)) (h12 : n < 12) : f n &&& 255 = own_smp a b (ofs + Int32.ofNat r * strd + Int32.ofNat c') := by
  rw [hf n h12]
  congr 1
  apply Int32.toInt_inj.mp
  have er : (Int32.ofNat r).toInt = (r : Int) := Int32.toInt_ofNat_of_lt (by omega)
  have ec : (Int32.ofNat c').toInt = (c' : Int) := Int32.toInt_ofNat_of_lt (by omega)
  have e1 := own_mul (Int32.ofNat r) strd r S er hS (by omega)
  have e2 := own_add ofs (Int32.ofNat r * strd) ho (by omega) (by omega)
  rw [Int32.toInt_ofNat_of_lt (by omega), own_add _ _ (by omega) (by omega) (by omega), e2, e1, ec]
  omega
theorem own_lev_0_1_1 {a : Int64} {b ofs strd : Int32} {f : Nat → Int32} {S : Nat} (hf : ∀ i, i < 12 → f i &&& 255 = own_smp a b (Int32.ofNat i)) (ho : 0 ≤ ofs.toInt) (ho1 : ofs.toInt ≤ 1) (hS : strd.toInt = (S : Int)) (hS4 : S ≤ 4) : own_lvl a b ofs strd (1 : Int32) (0 : Int32) (1 : Int32) = own_blk f S (((1 : Int32)).toInt - ((0 : Int32)).toInt).toNat (ofs.toInt + ((0 : Int32)).toInt).toNat 1 0 := by
  have zf : ((0 : Int32)).toInt = 0 := rfl
  have h1 : own_blk f S (((1 : Int32)).toInt - ((0 : Int32)).toInt).toNat (ofs.toInt + ((0 : Int32)).toInt).toNat 1 0 = ((0 : Int64) + (f ((ofs.toInt + ((0 : Int32)).toInt).toNat) &&& 255).toInt64) := rfl
  rw [h1]
  rw [(own_K hf ho hS 0 0 ((ofs.toInt + ((0 : Int32)).toInt).toNat) (by decide) (by decide) (by omega) (by omega))]
  simp +decide [own_lvl, own_cell, Int64.add_zero, Int64.zero_add]
theorem own_lev_0_1_2 {a : Int64} {b ofs strd : Int32} {f : Nat → Int32} {S : Nat} (hf : ∀ i, i < 12 → f i &&& 255 = own_smp a b (Int32.ofNat i)) (ho : 0 ≤ ofs.toInt) (ho1 : ofs.toInt ≤ 1) (hS : strd.toInt = (S : Int)) (hS4 : S ≤ 4) : own_lvl a b ofs strd (2 : Int32) (0 : Int32) (1 : Int32) = own_blk f S (((1 : Int32)).toInt - ((0 : Int32)).toInt).toNat (ofs.toInt + ((0 : Int32)).toInt).toNat 2 0 := by
  have zf : ((0 : Int32)).toInt = 0 := rfl
  have h1 : own_blk f S (((1 : Int32)).toInt - ((0 : Int32)).toInt).toNat (ofs.toInt + ((0 : Int32)).toInt).toNat 2 0 = (((0 : Int64) + (f ((ofs.toInt + ((0 : Int32)).toInt).toNat) &&& 255).toInt64) + (f ((ofs.toInt + ((0 : Int32)).toInt).toNat + S) &&& 255).toInt64) := rfl
  rw [h1]
  rw [(own_K hf ho hS 0 0 ((ofs.toInt + ((0 : Int32)).toInt).toNat) (by decide) (by decide) (by omega) (by omega)), (own_K hf ho hS 1 0 ((ofs.toInt + ((0 : Int32)).toInt).toNat + S) (by decide) (by decide) (by omega) (by omega))]
  simp +decide [own_lvl, own_cell, Int64.add_zero, Int64.zero_add]
theorem own_lev_0_1_3 {a : Int64} {b ofs strd : Int32} {f : Nat → Int32} {S : Nat} (hf : ∀ i, i < 12 → f i &&& 255 = own_smp a b (Int32.ofNat i)) (ho : 0 ≤ ofs.toInt) (ho1 : ofs.toInt ≤ 1) (hS : strd.toInt = (S : Int)) (hS4 : S ≤ 4) : own_lvl a b ofs strd (3 : Int32) (0 : Int32) (1 : Int32) = own_blk f S (((1 : Int32)).toInt - ((0 : Int32)).toInt).toNat (ofs.toInt + ((0 : Int32)).toInt).toNat 3 0 := by
  have zf : ((0 : Int32)).toInt = 0 := rfl
  have h1 : own_blk f S (((1 : Int32)).toInt - ((0 : Int32)).toInt).toNat (ofs.toInt + ((0 : Int32)).toInt).toNat 3 0 = ((((0 : Int64) + (f ((ofs.toInt + ((0 : Int32)).toInt).toNat) &&& 255).toInt64) + (f ((ofs.toInt + ((0 : Int32)).toInt).toNat + S) &&& 255).toInt64) + (f ((ofs.toInt + ((0 : Int32)).toInt).toNat + S + S) &&& 255).toInt64) := rfl
  rw [h1]
  rw [(own_K hf ho hS 0 0 ((ofs.toInt + ((0 : Int32)).toInt).toNat) (by decide) (by decide) (by omega) (by omega)), (own_K hf ho hS 1 0 ((ofs.toInt + ((0 : Int32)).toInt).toNat + S) (by decide) (by decide) (by omega) (by omega)), (own_K hf ho hS 2 0 ((ofs.toInt + ((0 : Int32)).toInt).toNat + S + S) (by decide) (by decide) (by omega) (by omega))]
  simp +decide [own_lvl, own_cell, Int64.add_zero, Int64.zero_add]
theorem own_lev_0_2_1 {a : Int64} {b ofs strd : Int32} {f : Nat → Int32} {S : Nat} (hf : ∀ i, i < 12 → f i &&& 255 = own_smp a b (Int32.ofNat i)) (ho : 0 ≤ ofs.toInt) (ho1 : ofs.toInt ≤ 1) (hS : strd.toInt = (S : Int)) (hS4 : S ≤ 4) : own_lvl a b ofs strd (1 : Int32) (0 : Int32) (2 : Int32) = own_blk f S (((2 : Int32)).toInt - ((0 : Int32)).toInt).toNat (ofs.toInt + ((0 : Int32)).toInt).toNat 1 0 := by
  have zf : ((0 : Int32)).toInt = 0 := rfl
  have h1 : own_blk f S (((2 : Int32)).toInt - ((0 : Int32)).toInt).toNat (ofs.toInt + ((0 : Int32)).toInt).toNat 1 0 = (((0 : Int64) + (f ((ofs.toInt + ((0 : Int32)).toInt).toNat) &&& 255).toInt64) + (f ((ofs.toInt + ((0 : Int32)).toInt).toNat + 1) &&& 255).toInt64) := rfl
  rw [h1]
  rw [(own_K hf ho hS 0 0 ((ofs.toInt + ((0 : Int32)).toInt).toNat) (by decide) (by decide) (by omega) (by omega)), (own_K hf ho hS 0 1 ((ofs.toInt + ((0 : Int32)).toInt).toNat + 1) (by decide) (by decide) (by omega) (by omega))]
  simp +decide [own_lvl, own_cell, Int64.add_zero, Int64.zero_add]
theorem own_lev_0_2_2 {a : Int64} {b ofs strd : Int32} {f : Nat → Int32} {S : Nat} (hf : ∀ i, i < 12 → f i &&& 255 = own_smp a b (Int32.ofNat i)) (ho : 0 ≤ ofs.toInt) (ho1 : ofs.toInt ≤ 1) (hS : strd.toInt = (S : Int)) (hS4 : S ≤ 4) : own_lvl a b ofs strd (2 : Int32) (0 : Int32) (2 : Int32) = own_blk f S (((2 : Int32)).toInt - ((0 : Int32)).toInt).toNat (ofs.toInt + ((0 : Int32)).toInt).toNat 2 0 := by
  have zf : ((0 : Int32)).toInt = 0 := rfl
  have h1 : own_blk f S (((2 : Int32)).toInt - ((0 : Int32)).toInt).toNat (ofs.toInt + ((0 : Int32)).toInt).toNat 2 0 = (((((0 : Int64) + (f ((ofs.toInt + ((0 : Int32)).toInt).toNat) &&& 255).toInt64) + (f ((ofs.toInt + ((0 : Int32)).toInt).toNat + 1) &&& 255).toInt64) + (f ((ofs.toInt + ((0 : Int32)).toInt).toNat + S) &&& 255).toInt64) + (f ((ofs.toInt + ((0 : Int32)).toInt).toNat + S + 1) &&& 255).toInt64) := rfl
  rw [h1]
  rw [(own_K hf ho hS 0 0 ((ofs.toInt + ((0 : Int32)).toInt).toNat) (by decide) (by decide) (by omega) (by omega)), (own_K hf ho hS 0 1 ((ofs.toInt + ((0 : Int32)).toInt).toNat + 1) (by decide) (by decide) (by omega) (by omega)), (own_K hf ho hS 1 0 ((ofs.toInt + ((0 : Int32)).toInt).toNat + S) (by decide) (by decide) (by omega) (by omega)), (own_K hf ho hS 1 1 ((ofs.toInt + ((0 : Int32)).toInt).toNat + S + 1) (by decide) (by decide) (by omega) (by omega))]
  simp +decide [own_lvl, own_cell, Int64.add_zero, Int64.zero_add]
theorem own_lev_0_2_3 {a : Int64} {b ofs strd : Int32} {f : Nat → Int32} {S : Nat} (hf : ∀ i, i < 12 → f i &&& 255 = own_smp a b (Int32.ofNat i)) (ho : 0 ≤ ofs.toInt) (ho1 : ofs.toInt ≤ 1) (hS : strd.toInt = (S : Int)) (hS4 : S ≤ 4) : own_lvl a b ofs strd (3 : Int32) (0 : Int32) (2 : Int32) = own_blk f S (((2 : Int32)).toInt - ((0 : Int32)).toInt).toNat (ofs.toInt + ((0 : Int32)).toInt).toNat 3 0 := by
  have zf : ((0 : Int32)).toInt = 0 := rfl
  have h1 : own_blk f S (((2 : Int32)).toInt - ((0 : Int32)).toInt).toNat (ofs.toInt + ((0 : Int32)).toInt).toNat 3 0 = (((((((0 : Int64) + (f ((ofs.toInt + ((0 : Int32)).toInt).toNat) &&& 255).toInt64) + (f ((ofs.toInt + ((0 : Int32)).toInt).toNat + 1) &&& 255).toInt64) + (f ((ofs.toInt + ((0 : Int32)).toInt).toNat + S) &&& 255).toInt64) + (f ((ofs.toInt + ((0 : Int32)).toInt).toNat + S + 1) &&& 255).toInt64) + (f ((ofs.toInt + ((0 : Int32)).toInt).toNat + S + S) &&& 255).toInt64) + (f ((ofs.toInt + ((0 : Int32)).toInt).toNat + S + S + 1) &&& 255).toInt64) := rfl
  rw [h1]
  rw [(own_K hf ho hS 0 0 ((ofs.toInt + ((0 : Int32)).toInt).toNat) (by decide) (by decide) (by omega) (by omega)), (own_K hf ho hS 0 1 ((ofs.toInt + ((0 : Int32)).toInt).toNat + 1) (by decide) (by decide) (by omega) (by omega)), (own_K hf ho hS 1 0 ((ofs.toInt + ((0 : Int32)).toInt).toNat + S) (by decide) (by decide) (by omega) (by omega)), (own_K hf ho hS 1 1 ((ofs.toInt + ((0 : Int32)).toInt).toNat + S + 1) (by decide) (by decide) (by omega) (by omega)), (own_K hf ho hS 2 0 ((ofs.toInt + ((0 : Int32)).toInt).toNat + S + S) (by decide) (by decide) (by omega) (by omega)), (own_K hf ho hS 2 1 ((ofs.toInt + ((0 : Int32)).toInt).toNat + S + S + 1) (by decide) (by decide) (by omega) (by omega))]
  simp +decide [own_lvl, own_cell, Int64.add_zero, Int64.zero_add]
theorem own_lev_0_3_1 {a : Int64} {b ofs strd : Int32} {f : Nat → Int32} {S : Nat} (hf : ∀ i, i < 12 → f i &&& 255 = own_smp a b (Int32.ofNat i)) (ho : 0 ≤ ofs.toInt) (ho1 : ofs.toInt ≤ 1) (hS : strd.toInt = (S : Int)) (hS4 : S ≤ 4) : own_lvl a b ofs strd (1 : Int32) (0 : Int32) (3 : Int32) = own_blk f S (((3 : Int32)).toInt - ((0 : Int32)).toInt).toNat (ofs.toInt + ((0 : Int32)).toInt).toNat 1 0 := by
  have zf : ((0 : Int32)).toInt = 0 := rfl
  have h1 : own_blk f S (((3 : Int32)).toInt - ((0 : Int32)).toInt).toNat (ofs.toInt + ((0 : Int32)).toInt).toNat 1 0 = ((((0 : Int64) + (f ((ofs.toInt + ((0 : Int32)).toInt).toNat) &&& 255).toInt64) + (f ((ofs.toInt + ((0 : Int32)).toInt).toNat + 1) &&& 255).toInt64) + (f ((ofs.toInt + ((0 : Int32)).toInt).toNat + 1 + 1) &&& 255).toInt64) := rfl
  rw [h1]
  rw [(own_K hf ho hS 0 0 ((ofs.toInt + ((0 : Int32)).toInt).toNat) (by decide) (by decide) (by omega) (by omega)), (own_K hf ho hS 0 1 ((ofs.toInt + ((0 : Int32)).toInt).toNat + 1) (by decide) (by decide) (by omega) (by omega)), (own_K hf ho hS 0 2 ((ofs.toInt + ((0 : Int32)).toInt).toNat + 1 + 1) (by decide) (by decide) (by omega) (by omega))]
  simp +decide [own_lvl, own_cell, Int64.add_zero, Int64.zero_add]
theorem own_lev_0_3_2 {a : Int64} {b ofs strd : Int32} {f : Nat → Int32} {S : Nat} (hf : ∀ i, i < 12 → f i &&& 255 = own_smp a b (Int32.ofNat i)) (ho : 0 ≤ ofs.toInt) (ho1 : ofs.toInt ≤ 1) (hS : strd.toInt = (S : Int)) (hS4 : S ≤ 4) : own_lvl a b ofs strd (2 : Int32) (0 : Int32) (3 : Int32) = own_blk f S (((3 : Int32)).toInt - ((0 : Int32)).toInt).toNat (ofs.toInt + ((0 : Int32)).toInt).toNat 2 0 := by
  have zf : ((0 : Int32)).toInt = 0 := rfl
  have h1 : own_blk f S (((3 : Int32)).toInt - ((0 : Int32)).toInt).toNat (ofs.toInt + ((0 : Int32)).toInt).toNat 2 0 = (((((((0 : Int64) + (f ((ofs.toInt + ((0 : Int32)).toInt).toNat) &&& 255).toInt64) + (f ((ofs.toInt + ((0 : Int32)).toInt).toNat + 1) &&& 255).toInt64) + (f ((ofs.toInt + ((0 : Int32)).toInt).toNat + 1 + 1) &&& 255).toInt64) + (f ((ofs.toInt + ((0 : Int32)).toInt).toNat + S) &&& 255).toInt64) + (f ((ofs.toInt + ((0 : Int32)).toInt).toNat + S + 1) &&& 255).toInt64) + (f ((ofs.toInt + ((0 : Int32)).toInt).toNat + S + 1 + 1) &&& 255).toInt64) := rfl
  rw [h1]
  rw [(own_K hf ho hS 0 0 ((ofs.toInt + ((0 : Int32)).toInt).toNat) (by decide) (by decide) (by omega) (by omega)), (own_K hf ho hS 0 1 ((ofs.toInt + ((0 : Int32)).toInt).toNat + 1) (by decide) (by decide) (by omega) (by omega)), (own_K hf ho hS 0 2 ((ofs.toInt + ((0 : Int32)).toInt).toNat + 1 + 1) (by decide) (by decide) (by omega) (by omega)), (own_K hf ho hS 1 0 ((ofs.toInt + ((0 : Int32)).toInt).toNat + S) (by decide) (by decide) (by omega) (by omega)), (own_K hf ho hS 1 1 ((ofs.toInt + ((0 : Int32)).toInt).toNat + S + 1) (by decide) (by decide) (by omega) (by omega)), (own_K hf ho hS 1 2 ((ofs.toInt + ((0 : Int32)).toInt).toNat + S + 1 + 1) (by decide) (by decide) (by omega) (by omega))]
  simp +decide [own_lvl, own_cell, Int64.add_zero, Int64.zero_add]
theorem own_lev_0_3_3 {a : Int64} {b ofs strd : Int32} {f : Nat → Int32} {S : Nat} (hf : ∀ i, i < 12 → f i &&& 255 = own_smp a b (Int32.ofNat i)) (ho : 0 ≤ ofs.toInt) (ho1 : ofs.toInt ≤ 1) (hS : strd.toInt = (S : Int)) (hS4 : S ≤ 4) : own_lvl a b ofs strd (3 : Int32) (0 : Int32) (3 : Int32) = own_blk f S (((3 : Int32)).toInt - ((0 : Int32)).toInt).toNat (ofs.toInt + ((0 : Int32)).toInt).toNat 3 0 := by
  have zf : ((0 : Int32)).toInt = 0 := rfl
  have h1 : own_blk f S (((3 : Int32)).toInt - ((0 : Int32)).toInt).toNat (ofs.toInt + ((0 : Int32)).toInt).toNat 3 0 = ((((((((((0 : Int64) + (f ((ofs.toInt + ((0 : Int32)).toInt).toNat) &&& 255).toInt64) + (f ((ofs.toInt + ((0 : Int32)).toInt).toNat + 1) &&& 255).toInt64) + (f ((ofs.toInt + ((0 : Int32)).toInt).toNat + 1 + 1) &&& 255).toInt64) + (f ((ofs.toInt + ((0 : Int32)).toInt).toNat + S) &&& 255).toInt64) + (f ((ofs.toInt + ((0 : Int32)).toInt).toNat + S + 1) &&& 255).toInt64) + (f ((ofs.toInt + ((0 : Int32)).toInt).toNat + S + 1 + 1) &&& 255).toInt64) + (f ((ofs.toInt + ((0 : Int32)).toInt).toNat + S + S) &&& 255).toInt64) + (f ((ofs.toInt + ((0 : Int32)).toInt).toNat + S + S + 1) &&& 255).toInt64) + (f ((ofs.toInt + ((0 : Int32)).toInt).toNat + S + S + 1 + 1) &&& 255).toInt64) := rfl
  rw [h1]
  rw [(own_K hf ho hS 0 0 ((ofs.toInt + ((0 : Int32)).toInt).toNat) (by decide) (by decide) (by omega) (by omega)), (own_K hf ho hS 0 1 ((ofs.toInt + ((0 : Int32)).toInt).toNat + 1) (by decide) (by decide) (by omega) (by omega)), (own_K hf ho hS 0 2 ((ofs.toInt + ((0 : Int32)).toInt).toNat + 1 + 1) (by decide) (by decide) (by omega) (by omega)), (own_K hf ho hS 1 0 ((ofs.toInt + ((0 : Int32)).toInt).toNat + S) (by decide) (by decide) (by omega) (by omega)), (own_K hf ho hS 1 1 ((ofs.toInt + ((0 : Int32)).toInt).toNat + S + 1) (by decide) (by decide) (by omega) (by omega)), (own_K hf ho hS 1 2 ((ofs.toInt + ((0 : Int32)).toInt).toNat + S + 1 + 1) (by decide) (by decide) (by omega) (by omega)), (own_K hf ho hS 2 0 ((ofs.toInt + ((0 : Int32)).toInt).toNat + S + S) (by decide) (by decide) (by omega) (by omega)), (own_K hf ho hS 2 1 ((ofs.toInt + ((0 : Int32)).toInt).toNat + S + S + 1) (by decide) (by decide) (by omega) (by omega)), (own_K hf ho hS 2 2 ((ofs.toInt + ((0 : Int32)).toInt).toNat + S + S + 1 + 1) (by decide) (by decide) (by omega) (by omega))]
  simp +decide [own_lvl, own_cell, Int64.add_zero, Int64.zero_add]
theorem own_lev_1_2_1 {a : Int64} {b ofs strd : Int32} {f : Nat → Int32} {S : Nat} (hf : ∀ i, i < 12 → f i &&& 255 = own_smp a b (Int32.ofNat i)) (ho : 0 ≤ ofs.toInt) (ho1 : ofs.toInt ≤ 1) (hS : strd.toInt = (S : Int)) (hS4 : S ≤ 4) : own_lvl a b ofs strd (1 : Int32) (1 : Int32) (2 : Int32) = own_blk f S (((2 : Int32)).toInt - ((1 : Int32)).toInt).toNat (ofs.toInt + ((1 : Int32)).toInt).toNat 1 0 := by
  have zf : ((1 : Int32)).toInt = 1 := rfl
  have h1 : own_blk f S (((2 : Int32)).toInt - ((1 : Int32)).toInt).toNat (ofs.toInt + ((1 : Int32)).toInt).toNat 1 0 = ((0 : Int64) + (f ((ofs.toInt + ((1 : Int32)).toInt).toNat) &&& 255).toInt64) := rfl
  rw [h1]
  rw [(own_K hf ho hS 0 1 ((ofs.toInt + ((1 : Int32)).toInt).toNat) (by decide) (by decide) (by omega) (by omega))]
  simp +decide [own_lvl, own_cell, Int64.add_zero, Int64.zero_add]
theorem own_lev_1_2_2 {a : Int64} {b ofs strd : Int32} {f : Nat → Int32} {S : Nat} (hf : ∀ i, i < 12 → f i &&& 255 = own_smp a b (Int32.ofNat i)) (ho : 0 ≤ ofs.toInt) (ho1 : ofs.toInt ≤ 1) (hS : strd.toInt = (S : Int)) (hS4 : S ≤ 4) : own_lvl a b ofs strd (2 : Int32) (1 : Int32) (2 : Int32) = own_blk f S (((2 : Int32)).toInt - ((1 : Int32)).toInt).toNat (ofs.toInt + ((1 : Int32)).toInt).toNat 2 0 := by
  have zf : ((1 : Int32)).toInt = 1 := rfl
  have h1 : own_blk f S (((2 : Int32)).toInt - ((1 : Int32)).toInt).toNat (ofs.toInt + ((1 : Int32)).toInt).toNat 2 0 = (((0 : Int64) + (f ((ofs.toInt + ((1 : Int32)).toInt).toNat) &&& 255).toInt64) + (f ((ofs.toInt + ((1 : Int32)).toInt).toNat + S) &&& 255).toInt64) := rfl
  rw [h1]
  rw [(own_K hf ho hS 0 1 ((ofs.toInt + ((1 : Int32)).toInt).toNat) (by decide) (by decide) (by omega) (by omega)), (own_K hf ho hS 1 1 ((ofs.toInt + ((1 : Int32)).toInt).toNat + S) (by decide) (by decide) (by omega) (by omega))]
  simp +decide [own_lvl, own_cell, Int64.add_zero, Int64.zero_add]
theorem own_lev_1_2_3 {a : Int64} {b ofs strd : Int32} {f : Nat → Int32} {S : Nat} (hf : ∀ i, i < 12 → f i &&& 255 = own_smp a b (Int32.ofNat i)) (ho : 0 ≤ ofs.toInt) (ho1 : ofs.toInt ≤ 1) (hS : strd.toInt = (S : Int)) (hS4 : S ≤ 4) : own_lvl a b ofs strd (3 : Int32) (1 : Int32) (2 : Int32) = own_blk f S (((2 : Int32)).toInt - ((1 : Int32)).toInt).toNat (ofs.toInt + ((1 : Int32)).toInt).toNat 3 0 := by
  have zf : ((1 : Int32)).toInt = 1 := rfl
  have h1 : own_blk f S (((2 : Int32)).toInt - ((1 : Int32)).toInt).toNat (ofs.toInt + ((1 : Int32)).toInt).toNat 3 0 = ((((0 : Int64) + (f ((ofs.toInt + ((1 : Int32)).toInt).toNat) &&& 255).toInt64) + (f ((ofs.toInt + ((1 : Int32)).toInt).toNat + S) &&& 255).toInt64) + (f ((ofs.toInt + ((1 : Int32)).toInt).toNat + S + S) &&& 255).toInt64) := rfl
  rw [h1]
  rw [(own_K hf ho hS 0 1 ((ofs.toInt + ((1 : Int32)).toInt).toNat) (by decide) (by decide) (by omega) (by omega)), (own_K hf ho hS 1 1 ((ofs.toInt + ((1 : Int32)).toInt).toNat + S) (by decide) (by decide) (by omega) (by omega)), (own_K hf ho hS 2 1 ((ofs.toInt + ((1 : Int32)).toInt).toNat + S + S) (by decide) (by decide) (by omega) (by omega))]
  simp +decide [own_lvl, own_cell, Int64.add_zero, Int64.zero_add]
theorem own_lev_1_3_1 {a : Int64} {b ofs strd : Int32} {f : Nat → Int32} {S : Nat} (hf : ∀ i, i < 12 → f i &&& 255 = own_smp a b (Int32.ofNat i)) (ho : 0 ≤ ofs.toInt) (ho1 : ofs.toInt ≤ 1) (hS : strd.toInt = (S : Int)) (hS4 : S ≤ 4) : own_lvl a b ofs strd (1 : Int32) (1 : Int32) (3 : Int32) = own_blk f S (((3 : Int32)).toInt - ((1 : Int32)).toInt).toNat (ofs.toInt + ((1 : Int32)).toInt).toNat 1 0 := by
  have zf : ((1 : Int32)).toInt = 1 := rfl
  have h1 : own_blk f S (((3 : Int32)).toInt - ((1 : Int32)).toInt).toNat (ofs.toInt + ((1 : Int32)).toInt).toNat 1 0 = (((0 : Int64) + (f ((ofs.toInt + ((1 : Int32)).toInt).toNat) &&& 255).toInt64) + (f ((ofs.toInt + ((1 : Int32)).toInt).toNat + 1) &&& 255).toInt64) := rfl
  rw [h1]
  rw [(own_K hf ho hS 0 1 ((ofs.toInt + ((1 : Int32)).toInt).toNat) (by decide) (by decide) (by omega) (by omega)), (own_K hf ho hS 0 2 ((ofs.toInt + ((1 : Int32)).toInt).toNat + 1) (by decide) (by decide) (by omega) (by omega))]
  simp +decide [own_lvl, own_cell, Int64.add_zero, Int64.zero_add]
theorem own_lev_1_3_2 {a : Int64} {b ofs strd : Int32} {f : Nat → Int32} {S : Nat} (hf : ∀ i, i < 12 → f i &&& 255 = own_smp a b (Int32.ofNat i)) (ho : 0 ≤ ofs.toInt) (ho1 : ofs.toInt ≤ 1) (hS : strd.toInt = (S : Int)) (hS4 : S ≤ 4) : own_lvl a b ofs strd (2 : Int32) (1 : Int32) (3 : Int32) = own_blk f S (((3 : Int32)).toInt - ((1 : Int32)).toInt).toNat (ofs.toInt + ((1 : Int32)).toInt).toNat 2 0 := by
  have zf : ((1 : Int32)).toInt = 1 := rfl
  have h1 : own_blk f S (((3 : Int32)).toInt - ((1 : Int32)).toInt).toNat (ofs.toInt + ((1 : Int32)).toInt).toNat 2 0 = (((((0 : Int64) + (f ((ofs.toInt + ((1 : Int32)).toInt).toNat) &&& 255).toInt64) + (f ((ofs.toInt + ((1 : Int32)).toInt).toNat + 1) &&& 255).toInt64) + (f ((ofs.toInt + ((1 : Int32)).toInt).toNat + S) &&& 255).toInt64) + (f ((ofs.toInt + ((1 : Int32)).toInt).toNat + S + 1) &&& 255).toInt64) := rfl
  rw [h1]
  rw [(own_K hf ho hS 0 1 ((ofs.toInt + ((1 : Int32)).toInt).toNat) (by decide) (by decide) (by omega) (by omega)), (own_K hf ho hS 0 2 ((ofs.toInt + ((1 : Int32)).toInt).toNat + 1) (by decide) (by decide) (by omega) (by omega)), (own_K hf ho hS 1 1 ((ofs.toInt + ((1 : Int32)).toInt).toNat + S) (by decide) (by decide) (by omega) (by omega)), (own_K hf ho hS 1 2 ((ofs.toInt + ((1 : Int32)).toInt).toNat + S + 1) (by decide) (by decide) (by omega) (by omega))]
  simp +decide [own_lvl, own_cell, Int64.add_zero, Int64.zero_add]
theorem own_lev_1_3_3 {a : Int64} {b ofs strd : Int32} {f : Nat → Int32} {S : Nat} (hf : ∀ i, i < 12 → f i &&& 255 = own_smp a b (Int32.ofNat i)) (ho : 0 ≤ ofs.toInt) (ho1 : ofs.toInt ≤ 1) (hS : strd.toInt = (S : Int)) (hS4 : S ≤ 4) : own_lvl a b ofs strd (3 : Int32) (1 : Int32) (3 : Int32) = own_blk f S (((3 : Int32)).toInt - ((1 : Int32)).toInt).toNat (ofs.toInt + ((1 : Int32)).toInt).toNat 3 0 := by
  have zf : ((1 : Int32)).toInt = 1 := rfl
  have h1 : own_blk f S (((3 : Int32)).toInt - ((1 : Int32)).toInt).toNat (ofs.toInt + ((1 : Int32)).toInt).toNat 3 0 = (((((((0 : Int64) + (f ((ofs.toInt + ((1 : Int32)).toInt).toNat) &&& 255).toInt64) + (f ((ofs.toInt + ((1 : Int32)).toInt).toNat + 1) &&& 255).toInt64) + (f ((ofs.toInt + ((1 : Int32)).toInt).toNat + S) &&& 255).toInt64) + (f ((ofs.toInt + ((1 : Int32)).toInt).toNat + S + 1) &&& 255).toInt64) + (f ((ofs.toInt + ((1 : Int32)).toInt).toNat + S + S) &&& 255).toInt64) + (f ((ofs.toInt + ((1 : Int32)).toInt).toNat + S + S + 1) &&& 255).toInt64) := rfl
  rw [h1]
  rw [(own_K hf ho hS 0 1 ((ofs.toInt + ((1 : Int32)).toInt).toNat) (by decide) (by decide) (by omega) (by omega)), (own_K hf ho hS 0 2 ((ofs.toInt + ((1 : Int32)).toInt).toNat + 1) (by decide) (by decide) (by omega) (by omega)), (own_K hf ho hS 1 1 ((ofs.toInt + ((1 : Int32)).toInt).toNat + S) (by decide) (by decide) (by omega) (by omega)), (own_K hf ho hS 1 2 ((ofs.toInt + ((1 : Int32)).toInt).toNat + S + 1) (by decide) (by decide) (by omega) (by omega)), (own_K hf ho hS 2 1 ((ofs.toInt + ((1 : Int32)).toInt).toNat + S + S) (by decide) (by decide) (by omega) (by omega)), (own_K hf ho hS 2 2 ((ofs.toInt + ((1 : Int32)).toInt).toNat + S + S + 1) (by decide) (by decide) (by omega) (by omega))]
  simp +decide [own_lvl, own_cell, Int64.add_zero, Int64.zero_add]
theorem own_lev_2_3_1 {a : Int64} {b ofs strd : Int32} {f : Nat → Int32} {S : Nat} (hf : ∀ i, i < 12 → f i &&& 255 = own_smp a b (Int32.ofNat i)) (ho : 0 ≤ ofs.toInt) (ho1 : ofs.toInt ≤ 1) (hS : strd.toInt = (S : Int)) (hS4 : S ≤ 4) : own_lvl a b ofs strd (1 : Int32) (2 : Int32) (3 : Int32) = own_blk f S (((3 : Int32)).toInt - ((2 : Int32)).toInt).toNat (ofs.toInt + ((2 : Int32)).toInt).toNat 1 0 := by
  have zf : ((2 : Int32)).toInt = 2 := rfl
  have h1 : own_blk f S (((3 : Int32)).toInt - ((2 : Int32)).toInt).toNat (ofs.toInt + ((2 : Int32)).toInt).toNat 1 0 = ((0 : Int64) + (f ((ofs.toInt + ((2 : Int32)).toInt).toNat) &&& 255).toInt64) := rfl
  rw [h1]
  rw [(own_K hf ho hS 0 2 ((ofs.toInt + ((2 : Int32)).toInt).toNat) (by decide) (by decide) (by omega) (by omega))]
  simp +decide [own_lvl, own_cell, Int64.add_zero, Int64.zero_add]
theorem own_lev_2_3_2 {a : Int64} {b ofs strd : Int32} {f : Nat → Int32} {S : Nat} (hf : ∀ i, i < 12 → f i &&& 255 = own_smp a b (Int32.ofNat i)) (ho : 0 ≤ ofs.toInt) (ho1 : ofs.toInt ≤ 1) (hS : strd.toInt = (S : Int)) (hS4 : S ≤ 4) : own_lvl a b ofs strd (2 : Int32) (2 : Int32) (3 : Int32) = own_blk f S (((3 : Int32)).toInt - ((2 : Int32)).toInt).toNat (ofs.toInt + ((2 : Int32)).toInt).toNat 2 0 := by
  have zf : ((2 : Int32)).toInt = 2 := rfl
  have h1 : own_blk f S (((3 : Int32)).toInt - ((2 : Int32)).toInt).toNat (ofs.toInt + ((2 : Int32)).toInt).toNat 2 0 = (((0 : Int64) + (f ((ofs.toInt + ((2 : Int32)).toInt).toNat) &&& 255).toInt64) + (f ((ofs.toInt + ((2 : Int32)).toInt).toNat + S) &&& 255).toInt64) := rfl
  rw [h1]
  rw [(own_K hf ho hS 0 2 ((ofs.toInt + ((2 : Int32)).toInt).toNat) (by decide) (by decide) (by omega) (by omega)), (own_K hf ho hS 1 2 ((ofs.toInt + ((2 : Int32)).toInt).toNat + S) (by decide) (by decide) (by omega) (by omega))]
  simp +decide [own_lvl, own_cell, Int64.add_zero, Int64.zero_add]
theorem own_lev_2_3_3 {a : Int64} {b ofs strd : Int32} {f : Nat → Int32} {S : Nat} (hf : ∀ i, i < 12 → f i &&& 255 = own_smp a b (Int32.ofNat i)) (ho : 0 ≤ ofs.toInt) (ho1 : ofs.toInt ≤ 1) (hS : strd.toInt = (S : Int)) (hS4 : S ≤ 4) : own_lvl a b ofs strd (3 : Int32) (2 : Int32) (3 : Int32) = own_blk f S (((3 : Int32)).toInt - ((2 : Int32)).toInt).toNat (ofs.toInt + ((2 : Int32)).toInt).toNat 3 0 := by
  have zf : ((2 : Int32)).toInt = 2 := rfl
  have h1 : own_blk f S (((3 : Int32)).toInt - ((2 : Int32)).toInt).toNat (ofs.toInt + ((2 : Int32)).toInt).toNat 3 0 = ((((0 : Int64) + (f ((ofs.toInt + ((2 : Int32)).toInt).toNat) &&& 255).toInt64) + (f ((ofs.toInt + ((2 : Int32)).toInt).toNat + S) &&& 255).toInt64) + (f ((ofs.toInt + ((2 : Int32)).toInt).toNat + S + S) &&& 255).toInt64) := rfl
  rw [h1]
  rw [(own_K hf ho hS 0 2 ((ofs.toInt + ((2 : Int32)).toInt).toNat) (by decide) (by decide) (by omega) (by omega)), (own_K hf ho hS 1 2 ((ofs.toInt + ((2 : Int32)).toInt).toNat + S) (by decide) (by decide) (by omega) (by omega)), (own_K hf ho hS 2 2 ((ofs.toInt + ((2 : Int32)).toInt).toNat + S + S) (by decide) (by decide) (by omega) (by omega))]
  simp +decide [own_lvl, own_cell, Int64.add_zero, Int64.zero_add]
theorem ef_rm0 (m : MethodId) (x0 : Int64) (x1 : Int32) (x2 : Int64) (x3 : Int32) (x4 : Int32)  : entryFrame m #[(.long x0), (.int x1), (.long x2), (.int x3), (.int x4)] maxLocals = mkF m 0 #[.val (.long x0), .second, .val (.int x1), .val (.long x2), .second, .val (.int x3), .val (.int x4), .unset, .unset, .unset, .unset, .unset, .unset, .unset, .unset, .unset, .unset, .unset, .unset, .unset, .unset, .unset] [] := by first | (simp [entryFrame, mkF, argsToLocals, Value.category, maxLocals]; done) | rfl
theorem pn_49 : plainFor x = true := by first | exact plainFor_of_name (by first | (simp [plainName, overriddenIn]; done) | decide +kernel) | decide +kernel
theorem pd_79 : parseMethodDescriptor "()V" = some ⟨[], none⟩ := by decide +kernel
theorem pd_80 : parseMethodDescriptor "([BIII[I[J)Z" = some ⟨[(.array .byte), .int, .int, .int, (.array .int), (.array .long)], some .boolean⟩ := by decide +kernel
theorem pd_81 : parseMethodDescriptor "(JIIIIII)J" = some ⟨[.long, .int, .int, .int, .int, .int, .int], some .long⟩ := by decide +kernel
theorem pd_82 : parseMethodDescriptor "([JIJZIIIJ)Z" = some ⟨[(.array .long), .int, .long, .boolean, .int, .int, .int, .long], some .boolean⟩ := by decide +kernel
set_option maxRecDepth 65536 in
set_option maxHeartbeats 40000000 in
theorem rm0 (l : Launch) (Z : State) (a0 : Array Value) (hw : ∀ d ∈ tables_1, d.before a0 Z = true) (p0 : Int64) (p1 : Int32) (p2 : Int64) (p3 p4 : Int32) (h0 : Heap) (n0 : Nat) (Z0 : n0 ≤ h0.size) :
    Ctr l Z x code maxLocals ret tables_1 room_1 16 128 #[(.long p0), (.int p1), (.long p2), (.int p3), (.int p4)] h0 (fun v h L => v = some (.int 1) ∧ Fr n0 L) := by
  refine Ctr.of pn_49 ?_
  intro p e s m below meth c s₁ hx hby hml hown hnm hret hlk hZ X0 e0
  refine Goes.cast (ef_rm0 m p0 p1 p2 p3 p4) ?_
  refine g_iload (i := 5) X0 hx (hb hby at_0) (by rfl) rfl ?_
  refine g_ldcI X0 hx hZ hown (wd hw 0 rfl) (hb hby at_2) rfl ?_
  refine g_iand X0 hx (hb hby at_4) rfl ?_
  refine g_bipush (v := (7 : Int32)) X0 hx (hb hby at_5) (by decide) rfl ?_
  refine g_irem X0 hx (hb hby at_7) (by decide) rfl ?_
  refine g_istore (i := 7) X0 hx #[.val (.long p0), .second, .val (.int p1), .val (.long p2), .second, .val (.int p3), .val (.int p4), .val (.int ((p3 &&& (2147483647 : Int32)) % (7 : Int32))), .unset, .unset, .unset, .unset, .unset, .unset, .unset, .unset, .unset, .unset, .unset, .unset, .unset, .unset] (hb hby at_8) rfl rfl ?_
  have hg_mm : 0 ≤ (((p3 &&& (2147483647 : Int32)) % (7 : Int32))).toInt ∧ (((p3 &&& (2147483647 : Int32)) % (7 : Int32))).toInt < 7 := own_rem p3 7 (by decide)
  revert hg_mm
  generalize ((p3 &&& (2147483647 : Int32)) % (7 : Int32)) = mm
  intro hg_mm
  refine g_iconst (v := (1 : Int32)) X0 hx (hb hby at_10) (by decide) rfl ?_
  refine g_iload (i := 6) X0 hx (hb hby at_11) (by rfl) rfl ?_
  refine g_iconst (v := (3 : Int32)) X0 hx (hb hby at_13) (by decide) rfl ?_
  refine g_iand X0 hx (hb hby at_14) rfl ?_
  refine g_iconst (v := (3 : Int32)) X0 hx (hb hby at_15) (by decide) rfl ?_
  refine g_irem X0 hx (hb hby at_16) (by decide) rfl ?_
  refine g_iadd X0 hx (hb hby at_17) rfl ?_
  refine g_istore (i := 8) X0 hx #[.val (.long p0), .second, .val (.int p1), .val (.long p2), .second, .val (.int p3), .val (.int p4), .val (.int mm), .val (.int ((1 : Int32) + ((p4 &&& (3 : Int32)) % (3 : Int32)))), .unset, .unset, .unset, .unset, .unset, .unset, .unset, .unset, .unset, .unset, .unset, .unset, .unset] (hb hby at_18) rfl rfl ?_
  have hg_nrow : ((1 : Int32) + ((p4 &&& (3 : Int32)) % (3 : Int32))) = 1 ∨ ((1 : Int32) + ((p4 &&& (3 : Int32)) % (3 : Int32))) = 2 ∨ ((1 : Int32) + ((p4 &&& (3 : Int32)) % (3 : Int32))) = 3 := own_nrow p4
  revert hg_nrow
  generalize ((1 : Int32) + ((p4 &&& (3 : Int32)) % (3 : Int32))) = nrow
  intro hg_nrow
  refine g_iload (i := 6) X0 hx (hb hby at_20) (by rfl) rfl ?_
  refine g_iconst (v := (2 : Int32)) X0 hx (hb hby at_22) (by decide) rfl ?_
  refine g_iushr X0 hx (hb hby at_23) rfl ?_
  refine g_iconst (v := (1 : Int32)) X0 hx (hb hby at_24) (by decide) rfl ?_
  refine g_iand X0 hx (hb hby at_25) rfl ?_
  refine g_istore (i := 9) X0 hx #[.val (.long p0), .second, .val (.int p1), .val (.long p2), .second, .val (.int p3), .val (.int p4), .val (.int mm), .val (.int nrow), .val (.int ((XT.ushr p4 (2 : Int32)) &&& (1 : Int32))), .unset, .unset, .unset, .unset, .unset, .unset, .unset, .unset, .unset, .unset, .unset, .unset] (hb hby at_26) rfl rfl ?_
  have hg_pad : 0 ≤ (((XT.ushr p4 (2 : Int32)) &&& (1 : Int32))).toInt ∧ (((XT.ushr p4 (2 : Int32)) &&& (1 : Int32))).toInt ≤ 1 := own_bit _
  revert hg_pad
  generalize ((XT.ushr p4 (2 : Int32)) &&& (1 : Int32)) = pad
  intro hg_pad
  refine g_iload (i := 6) X0 hx (hb hby at_28) (by rfl) rfl ?_
  refine g_iconst (v := (3 : Int32)) X0 hx (hb hby at_30) (by decide) rfl ?_
  refine g_iushr X0 hx (hb hby at_31) rfl ?_
  refine g_iconst (v := (1 : Int32)) X0 hx (hb hby at_32) (by decide) rfl ?_
  refine g_iand X0 hx (hb hby at_33) rfl ?_
  refine g_istore (i := 10) X0 hx #[.val (.long p0), .second, .val (.int p1), .val (.long p2), .second, .val (.int p3), .val (.int p4), .val (.int mm), .val (.int nrow), .val (.int pad), .val (.int ((XT.ushr p4 (3 : Int32)) &&& (1 : Int32))), .unset, .unset, .unset, .unset, .unset, .unset, .unset, .unset, .unset, .unset, .unset] (hb hby at_34) rfl rfl ?_
  have hg_ofs : 0 ≤ (((XT.ushr p4 (3 : Int32)) &&& (1 : Int32))).toInt ∧ (((XT.ushr p4 (3 : Int32)) &&& (1 : Int32))).toInt ≤ 1 := own_bit _
  revert hg_ofs
  generalize ((XT.ushr p4 (3 : Int32)) &&& (1 : Int32)) = ofs
  intro hg_ofs
  obtain ⟨R, hR, hR3⟩ : ∃ R : Nat, nrow.toInt = (R : Int) ∧ (R = 1 ∨ R = 2 ∨ R = 3) := by
    rcases hg_nrow with rfl | rfl | rfl
    · exact ⟨1, rfl, by omega⟩
    · exact ⟨2, rfl, by omega⟩
    · exact ⟨3, rfl, by omega⟩
  rcases own_seven mm hg_mm.1 hg_mm.2 with rfl | rfl | rfl | rfl | rfl | rfl | rfl
  · have Zc := Z0
    refine g_iload (i := 7) X0 hx (hb hby at_36) (by rfl) rfl ?_
    refine g_if_ne X0 hx (hb hby at_38) (by decide) (pt := 56) (by decide) rfl (fun q_ => absurd (by decide) q_) (fun _ => ?_)
    refine g_iconst (v := (1 : Int32)) X0 hx (hb hby at_41) (by decide) rfl ?_
    refine g_istore (i := 11) X0 hx #[.val (.long p0), .second, .val (.int p1), .val (.long p2), .second, .val (.int p3), .val (.int p4), .val (.int (0 : Int32)), .val (.int nrow), .val (.int pad), .val (.int ofs), .val (.int (1 : Int32)), .unset, .unset, .unset, .unset, .unset, .unset, .unset, .unset, .unset, .unset] (hb hby at_42) rfl rfl ?_
    refine g_iconst (v := (1 : Int32)) X0 hx (hb hby at_44) (by decide) rfl ?_
    refine g_newarr X0 hx hZ (ty := .int) rfl (wd hw 1 rfl) e0 (hb hby at_45) rfl (by decide) 1 (by decide) (by decide) (by decide) (by decide) ?_
    intro T50 h50 cA50 a50 X50 e50 g50 Ex50 A50
    have gn_a50 : n0 ≤ a50 := by rw [g50]; exact Zc
    have Zc50 : n0 ≤ h50.size := Nat.le_trans Zc Ex50.1
    have Ar50 : ArI Z h50 a50 .int 1 (fun _ => 0) := ArI.new A50 0 rfl
    refine g_dup X50 hx (hb hby at_47) rfl rfl ?_
    refine g_iconst (v := (0 : Int32)) X50 hx (hb hby at_48) (by decide) rfl ?_
    refine g_iconst (v := (1 : Int32)) X50 hx (hb hby at_49) (by decide) rfl ?_
    refine g_iastoreN X50 hx hZ e50 Ar50 0 (by decide) (by decide) (by decide) (hb hby at_50) rfl ?_
    intro T51 h51 X51 e51 W51 Ar51
    have N51 := Fr.snoc X51 (Fr.nil n0) gn_a50
    have Zc51 : n0 ≤ h51.size := by rw [W51.size]; exact Zc50
    refine g_astore (i := 12) X51 hx #[.val (.long p0), .second, .val (.int p1), .val (.long p2), .second, .val (.int p3), .val (.int p4), .val (.int (0 : Int32)), .val (.int nrow), .val (.int pad), .val (.int ofs), .val (.int (1 : Int32)), .val (.ref a50), .unset, .unset, .unset, .unset, .unset, .unset, .unset, .unset, .unset] (hb hby at_51) rfl rfl rfl ?_
    refine g_goto X51 hx (hb hby at_53) (by decide) (by decide) (pc' := 193) ?_
    refine g_iload (i := 11) X51 hx (hb hby at_193) (by rfl) rfl ?_
    refine g_iload (i := 9) X51 hx (hb hby at_195) (by rfl) rfl ?_
    refine g_iadd X51 hx (hb hby at_197) rfl ?_
    refine g_istore (i := 13) X51 hx #[.val (.long p0), .second, .val (.int p1), .val (.long p2), .second, .val (.int p3), .val (.int p4), .val (.int (0 : Int32)), .val (.int nrow), .val (.int pad), .val (.int ofs), .val (.int (1 : Int32)), .val (.ref a50), .val (.int ((1 : Int32) + pad)), .unset, .unset, .unset, .unset, .unset, .unset, .unset, .unset] (hb hby at_198) rfl rfl ?_
    have hst : (((1 : Int32) + pad)).toInt = 1 + pad.toInt := by have e := c_iadd (1 : Int32) pad; have r := rng32 (((1 : Int32) + pad)); rw [show ((1 : Int32)).toInt = 1 from rfl] at e; omega
    revert hst
    generalize ((1 : Int32) + pad) = strd
    intro hst
    refine g_bipush (v := (12 : Int32)) X51 hx (hb hby at_200) (by decide) rfl ?_
    refine g_newarr X51 hx hZ (ty := .byte) rfl (wd hw 2 rfl) e51 (hb hby at_202) rfl (by decide) 12 (by decide) (by decide) (by decide) (by decide) ?_
    intro T52 h52 cA52 a52 X52 e52 g52 Ex52 A52
    have ne_a50_a52 : a50 ≠ a52 := fun q => absurd Ar51.lt (by rw [q, g52]; exact Nat.lt_irrefl _)
    have B52_a50 := Ar51.ext Ex52
    have gn_a52 : n0 ≤ a52 := by rw [g52]; exact Zc51
    have Zc52 : n0 ≤ h52.size := Nat.le_trans Zc51 Ex52.1
    have Ar52 : ArI Z h52 a52 .byte 12 (fun _ => 0) := ArI.new A52 0 rfl
    refine g_dup X52 hx (hb hby at_204) rfl rfl ?_
    refine g_iconst (v := (0 : Int32)) X52 hx (hb hby at_205) (by decide) rfl ?_
    refine g_lload_n (i := 0) X52 hx (hb hby at_206) (by rfl) rfl ?_
    refine g_l2i X52 hx (hb hby at_207) rfl ?_
    refine g_i2b X52 hx (hb hby at_208) rfl ?_
    refine g_bastoreN X52 hx hZ e52 Ar52 0 (by decide) (by decide) (by decide) (hb hby at_209) rfl ?_
    intro T53 h53 X53 e53 W53 Ar53
    have N53 := Fr.snoc X53 N51 gn_a52
    have B53_a50 := B52_a50.other W53 ne_a50_a52
    have Zc53 : n0 ≤ h53.size := by rw [W53.size]; exact Zc52
    refine g_dup X53 hx (hb hby at_210) rfl rfl ?_
    refine g_iconst (v := (1 : Int32)) X53 hx (hb hby at_211) (by decide) rfl ?_
    refine g_lload_n (i := 0) X53 hx (hb hby at_212) (by rfl) rfl ?_
    refine g_bipush (v := (8 : Int32)) X53 hx (hb hby at_213) (by decide) rfl ?_
    refine g_lushr X53 hx (hb hby at_215) rfl ?_
    refine g_l2i X53 hx (hb hby at_216) rfl ?_
    refine g_i2b X53 hx (hb hby at_217) rfl ?_
    refine g_bastoreN X53 hx hZ e53 Ar53 1 (by decide) (by decide) (by decide) (hb hby at_218) rfl ?_
    intro T54 h54 X54 e54 W54 Ar54
    have N54 := Fr.snoc X54 N53 gn_a52
    have B54_a50 := B53_a50.other W54 ne_a50_a52
    have Zc54 : n0 ≤ h54.size := by rw [W54.size]; exact Zc53
    refine g_dup X54 hx (hb hby at_219) rfl rfl ?_
    refine g_iconst (v := (2 : Int32)) X54 hx (hb hby at_220) (by decide) rfl ?_
    refine g_lload_n (i := 0) X54 hx (hb hby at_221) (by rfl) rfl ?_
    refine g_bipush (v := (16 : Int32)) X54 hx (hb hby at_222) (by decide) rfl ?_
    refine g_lushr X54 hx (hb hby at_224) rfl ?_
    refine g_l2i X54 hx (hb hby at_225) rfl ?_
    refine g_i2b X54 hx (hb hby at_226) rfl ?_
    refine g_bastoreN X54 hx hZ e54 Ar54 2 (by decide) (by decide) (by decide) (hb hby at_227) rfl ?_
    intro T55 h55 X55 e55 W55 Ar55
    have N55 := Fr.snoc X55 N54 gn_a52
    have B55_a50 := B54_a50.other W55 ne_a50_a52
    have Zc55 : n0 ≤ h55.size := by rw [W55.size]; exact Zc54
    refine g_dup X55 hx (hb hby at_228) rfl rfl ?_
    refine g_iconst (v := (3 : Int32)) X55 hx (hb hby at_229) (by decide) rfl ?_
    refine g_lload_n (i := 0) X55 hx (hb hby at_230) (by rfl) rfl ?_
    refine g_bipush (v := (24 : Int32)) X55 hx (hb hby at_231) (by decide) rfl ?_
    refine g_lushr X55 hx (hb hby at_233) rfl ?_
    refine g_l2i X55 hx (hb hby at_234) rfl ?_
    refine g_i2b X55 hx (hb hby at_235) rfl ?_
    refine g_bastoreN X55 hx hZ e55 Ar55 3 (by decide) (by decide) (by decide) (hb hby at_236) rfl ?_
    intro T56 h56 X56 e56 W56 Ar56
    have N56 := Fr.snoc X56 N55 gn_a52
    have B56_a50 := B55_a50.other W56 ne_a50_a52
    have Zc56 : n0 ≤ h56.size := by rw [W56.size]; exact Zc55
    refine g_dup X56 hx (hb hby at_237) rfl rfl ?_
    refine g_iconst (v := (4 : Int32)) X56 hx (hb hby at_238) (by decide) rfl ?_
    refine g_lload_n (i := 0) X56 hx (hb hby at_239) (by rfl) rfl ?_
    refine g_bipush (v := (32 : Int32)) X56 hx (hb hby at_240) (by decide) rfl ?_
    refine g_lushr X56 hx (hb hby at_242) rfl ?_
    refine g_l2i X56 hx (hb hby at_243) rfl ?_
    refine g_i2b X56 hx (hb hby at_244) rfl ?_
    refine g_bastoreN X56 hx hZ e56 Ar56 4 (by decide) (by decide) (by decide) (hb hby at_245) rfl ?_
    intro T57 h57 X57 e57 W57 Ar57
    have N57 := Fr.snoc X57 N56 gn_a52
    have B57_a50 := B56_a50.other W57 ne_a50_a52
    have Zc57 : n0 ≤ h57.size := by rw [W57.size]; exact Zc56
    refine g_dup X57 hx (hb hby at_246) rfl rfl ?_
    refine g_iconst (v := (5 : Int32)) X57 hx (hb hby at_247) (by decide) rfl ?_
    refine g_lload_n (i := 0) X57 hx (hb hby at_248) (by rfl) rfl ?_
    refine g_bipush (v := (40 : Int32)) X57 hx (hb hby at_249) (by decide) rfl ?_
    refine g_lushr X57 hx (hb hby at_251) rfl ?_
    refine g_l2i X57 hx (hb hby at_252) rfl ?_
    refine g_i2b X57 hx (hb hby at_253) rfl ?_
    refine g_bastoreN X57 hx hZ e57 Ar57 5 (by decide) (by decide) (by decide) (hb hby at_254) rfl ?_
    intro T58 h58 X58 e58 W58 Ar58
    have N58 := Fr.snoc X58 N57 gn_a52
    have B58_a50 := B57_a50.other W58 ne_a50_a52
    have Zc58 : n0 ≤ h58.size := by rw [W58.size]; exact Zc57
    refine g_dup X58 hx (hb hby at_255) rfl rfl ?_
    refine g_bipush (v := (6 : Int32)) X58 hx (hb hby at_256) (by decide) rfl ?_
    refine g_lload_n (i := 0) X58 hx (hb hby at_258) (by rfl) rfl ?_
    refine g_bipush (v := (48 : Int32)) X58 hx (hb hby at_259) (by decide) rfl ?_
    refine g_lushr X58 hx (hb hby at_261) rfl ?_
    refine g_l2i X58 hx (hb hby at_262) rfl ?_
    refine g_i2b X58 hx (hb hby at_263) rfl ?_
    refine g_bastoreN X58 hx hZ e58 Ar58 6 (by decide) (by decide) (by decide) (hb hby at_264) rfl ?_
    intro T59 h59 X59 e59 W59 Ar59
    have N59 := Fr.snoc X59 N58 gn_a52
    have B59_a50 := B58_a50.other W59 ne_a50_a52
    have Zc59 : n0 ≤ h59.size := by rw [W59.size]; exact Zc58
    refine g_dup X59 hx (hb hby at_265) rfl rfl ?_
    refine g_bipush (v := (7 : Int32)) X59 hx (hb hby at_266) (by decide) rfl ?_
    refine g_lload_n (i := 0) X59 hx (hb hby at_268) (by rfl) rfl ?_
    refine g_bipush (v := (56 : Int32)) X59 hx (hb hby at_269) (by decide) rfl ?_
    refine g_lushr X59 hx (hb hby at_271) rfl ?_
    refine g_l2i X59 hx (hb hby at_272) rfl ?_
    refine g_i2b X59 hx (hb hby at_273) rfl ?_
    refine g_bastoreN X59 hx hZ e59 Ar59 7 (by decide) (by decide) (by decide) (hb hby at_274) rfl ?_
    intro T60 h60 X60 e60 W60 Ar60
    have N60 := Fr.snoc X60 N59 gn_a52
    have B60_a50 := B59_a50.other W60 ne_a50_a52
    have Zc60 : n0 ≤ h60.size := by rw [W60.size]; exact Zc59
    refine g_dup X60 hx (hb hby at_275) rfl rfl ?_
    refine g_bipush (v := (8 : Int32)) X60 hx (hb hby at_276) (by decide) rfl ?_
    refine g_iload_n (i := 2) X60 hx (hb hby at_278) (by rfl) rfl ?_
    refine g_i2b X60 hx (hb hby at_279) rfl ?_
    refine g_bastoreN X60 hx hZ e60 Ar60 8 (by decide) (by decide) (by decide) (hb hby at_280) rfl ?_
    intro T61 h61 X61 e61 W61 Ar61
    have N61 := Fr.snoc X61 N60 gn_a52
    have B61_a50 := B60_a50.other W61 ne_a50_a52
    have Zc61 : n0 ≤ h61.size := by rw [W61.size]; exact Zc60
    refine g_dup X61 hx (hb hby at_281) rfl rfl ?_
    refine g_bipush (v := (9 : Int32)) X61 hx (hb hby at_282) (by decide) rfl ?_
    refine g_iload_n (i := 2) X61 hx (hb hby at_284) (by rfl) rfl ?_
    refine g_bipush (v := (8 : Int32)) X61 hx (hb hby at_285) (by decide) rfl ?_
    refine g_iushr X61 hx (hb hby at_287) rfl ?_
    refine g_i2b X61 hx (hb hby at_288) rfl ?_
    refine g_bastoreN X61 hx hZ e61 Ar61 9 (by decide) (by decide) (by decide) (hb hby at_289) rfl ?_
    intro T62 h62 X62 e62 W62 Ar62
    have N62 := Fr.snoc X62 N61 gn_a52
    have B62_a50 := B61_a50.other W62 ne_a50_a52
    have Zc62 : n0 ≤ h62.size := by rw [W62.size]; exact Zc61
    refine g_dup X62 hx (hb hby at_290) rfl rfl ?_
    refine g_bipush (v := (10 : Int32)) X62 hx (hb hby at_291) (by decide) rfl ?_
    refine g_iload_n (i := 2) X62 hx (hb hby at_293) (by rfl) rfl ?_
    refine g_bipush (v := (16 : Int32)) X62 hx (hb hby at_294) (by decide) rfl ?_
    refine g_iushr X62 hx (hb hby at_296) rfl ?_
    refine g_i2b X62 hx (hb hby at_297) rfl ?_
    refine g_bastoreN X62 hx hZ e62 Ar62 10 (by decide) (by decide) (by decide) (hb hby at_298) rfl ?_
    intro T63 h63 X63 e63 W63 Ar63
    have N63 := Fr.snoc X63 N62 gn_a52
    have B63_a50 := B62_a50.other W63 ne_a50_a52
    have Zc63 : n0 ≤ h63.size := by rw [W63.size]; exact Zc62
    refine g_dup X63 hx (hb hby at_299) rfl rfl ?_
    refine g_bipush (v := (11 : Int32)) X63 hx (hb hby at_300) (by decide) rfl ?_
    refine g_iload_n (i := 2) X63 hx (hb hby at_302) (by rfl) rfl ?_
    refine g_bipush (v := (24 : Int32)) X63 hx (hb hby at_303) (by decide) rfl ?_
    refine g_iushr X63 hx (hb hby at_305) rfl ?_
    refine g_i2b X63 hx (hb hby at_306) rfl ?_
    refine g_bastoreN X63 hx hZ e63 Ar63 11 (by decide) (by decide) (by decide) (hb hby at_307) rfl ?_
    intro T64 h64 X64 e64 W64 Ar64
    have N64 := Fr.snoc X64 N63 gn_a52
    have B64_a50 := B63_a50.other W64 ne_a50_a52
    have Zc64 : n0 ≤ h64.size := by rw [W64.size]; exact Zc63
    refine g_astore (i := 14) X64 hx #[.val (.long p0), .second, .val (.int p1), .val (.long p2), .second, .val (.int p3), .val (.int p4), .val (.int (0 : Int32)), .val (.int nrow), .val (.int pad), .val (.int ofs), .val (.int (1 : Int32)), .val (.ref a50), .val (.int strd), .val (.ref a52), .unset, .unset, .unset, .unset, .unset, .unset, .unset] (hb hby at_308) rfl rfl rfl ?_
    refine g_bipush (v := (12 : Int32)) X64 hx (hb hby at_310) (by decide) rfl ?_
    refine g_newarr X64 hx hZ (ty := .long) rfl (wd hw 3 rfl) e64 (hb hby at_312) rfl (by decide) 12 (by decide) (by decide) (by decide) (by decide) ?_
    intro T65 h65 cA65 a65 X65 e65 g65 Ex65 A65
    have ne_a50_a65 : a50 ≠ a65 := fun q => absurd B64_a50.lt (by rw [q, g65]; exact Nat.lt_irrefl _)
    have B65_a50 := B64_a50.ext Ex65
    have ne_a52_a65 : a52 ≠ a65 := fun q => absurd Ar64.lt (by rw [q, g65]; exact Nat.lt_irrefl _)
    have B65_a52 := Ar64.ext Ex65
    have gn_a65 : n0 ≤ a65 := by rw [g65]; exact Zc64
    have Zc65 : n0 ≤ h65.size := Nat.le_trans Zc64 Ex65.1
    have Ar65 : ArJ Z h65 a65 .long 12 (fun _ => 0) := ArJ.new A65 0 rfl
    refine g_dup X65 hx (hb hby at_314) rfl rfl ?_
    refine g_iconst (v := (0 : Int32)) X65 hx (hb hby at_315) (by decide) rfl ?_
    refine g_lload_n (i := 3) X65 hx (hb hby at_316) (by rfl) rfl ?_
    refine g_lastoreN X65 hx hZ e65 Ar65 0 (by decide) (by decide) (by decide) (hb hby at_317) rfl ?_
    intro T66 h66 X66 e66 W66 Ar66
    have N66 := Fr.snoc X66 N64 gn_a65
    have B66_a50 := B65_a50.other W66 ne_a50_a65
    have B66_a52 := B65_a52.other W66 ne_a52_a65
    have Zc66 : n0 ≤ h66.size := by rw [W66.size]; exact Zc65
    refine g_dup X66 hx (hb hby at_318) rfl rfl ?_
    refine g_iconst (v := (1 : Int32)) X66 hx (hb hby at_319) (by decide) rfl ?_
    refine g_lload_n (i := 3) X66 hx (hb hby at_320) (by rfl) rfl ?_
    refine g_lastoreN X66 hx hZ e66 Ar66 1 (by decide) (by decide) (by decide) (hb hby at_321) rfl ?_
    intro T67 h67 X67 e67 W67 Ar67
    have N67 := Fr.snoc X67 N66 gn_a65
    have B67_a50 := B66_a50.other W67 ne_a50_a65
    have B67_a52 := B66_a52.other W67 ne_a52_a65
    have Zc67 : n0 ≤ h67.size := by rw [W67.size]; exact Zc66
    refine g_dup X67 hx (hb hby at_322) rfl rfl ?_
    refine g_iconst (v := (2 : Int32)) X67 hx (hb hby at_323) (by decide) rfl ?_
    refine g_lload_n (i := 3) X67 hx (hb hby at_324) (by rfl) rfl ?_
    refine g_lastoreN X67 hx hZ e67 Ar67 2 (by decide) (by decide) (by decide) (hb hby at_325) rfl ?_
    intro T68 h68 X68 e68 W68 Ar68
    have N68 := Fr.snoc X68 N67 gn_a65
    have B68_a50 := B67_a50.other W68 ne_a50_a65
    have B68_a52 := B67_a52.other W68 ne_a52_a65
    have Zc68 : n0 ≤ h68.size := by rw [W68.size]; exact Zc67
    refine g_dup X68 hx (hb hby at_326) rfl rfl ?_
    refine g_iconst (v := (3 : Int32)) X68 hx (hb hby at_327) (by decide) rfl ?_
    refine g_lload_n (i := 3) X68 hx (hb hby at_328) (by rfl) rfl ?_
    refine g_lastoreN X68 hx hZ e68 Ar68 3 (by decide) (by decide) (by decide) (hb hby at_329) rfl ?_
    intro T69 h69 X69 e69 W69 Ar69
    have N69 := Fr.snoc X69 N68 gn_a65
    have B69_a50 := B68_a50.other W69 ne_a50_a65
    have B69_a52 := B68_a52.other W69 ne_a52_a65
    have Zc69 : n0 ≤ h69.size := by rw [W69.size]; exact Zc68
    refine g_dup X69 hx (hb hby at_330) rfl rfl ?_
    refine g_iconst (v := (4 : Int32)) X69 hx (hb hby at_331) (by decide) rfl ?_
    refine g_lload_n (i := 3) X69 hx (hb hby at_332) (by rfl) rfl ?_
    refine g_lastoreN X69 hx hZ e69 Ar69 4 (by decide) (by decide) (by decide) (hb hby at_333) rfl ?_
    intro T70 h70 X70 e70 W70 Ar70
    have N70 := Fr.snoc X70 N69 gn_a65
    have B70_a50 := B69_a50.other W70 ne_a50_a65
    have B70_a52 := B69_a52.other W70 ne_a52_a65
    have Zc70 : n0 ≤ h70.size := by rw [W70.size]; exact Zc69
    refine g_dup X70 hx (hb hby at_334) rfl rfl ?_
    refine g_iconst (v := (5 : Int32)) X70 hx (hb hby at_335) (by decide) rfl ?_
    refine g_lload_n (i := 3) X70 hx (hb hby at_336) (by rfl) rfl ?_
    refine g_lastoreN X70 hx hZ e70 Ar70 5 (by decide) (by decide) (by decide) (hb hby at_337) rfl ?_
    intro T71 h71 X71 e71 W71 Ar71
    have N71 := Fr.snoc X71 N70 gn_a65
    have B71_a50 := B70_a50.other W71 ne_a50_a65
    have B71_a52 := B70_a52.other W71 ne_a52_a65
    have Zc71 : n0 ≤ h71.size := by rw [W71.size]; exact Zc70
    refine g_dup X71 hx (hb hby at_338) rfl rfl ?_
    refine g_bipush (v := (6 : Int32)) X71 hx (hb hby at_339) (by decide) rfl ?_
    refine g_lload_n (i := 3) X71 hx (hb hby at_341) (by rfl) rfl ?_
    refine g_lastoreN X71 hx hZ e71 Ar71 6 (by decide) (by decide) (by decide) (hb hby at_342) rfl ?_
    intro T72 h72 X72 e72 W72 Ar72
    have N72 := Fr.snoc X72 N71 gn_a65
    have B72_a50 := B71_a50.other W72 ne_a50_a65
    have B72_a52 := B71_a52.other W72 ne_a52_a65
    have Zc72 : n0 ≤ h72.size := by rw [W72.size]; exact Zc71
    refine g_dup X72 hx (hb hby at_343) rfl rfl ?_
    refine g_bipush (v := (7 : Int32)) X72 hx (hb hby at_344) (by decide) rfl ?_
    refine g_lload_n (i := 3) X72 hx (hb hby at_346) (by rfl) rfl ?_
    refine g_lastoreN X72 hx hZ e72 Ar72 7 (by decide) (by decide) (by decide) (hb hby at_347) rfl ?_
    intro T73 h73 X73 e73 W73 Ar73
    have N73 := Fr.snoc X73 N72 gn_a65
    have B73_a50 := B72_a50.other W73 ne_a50_a65
    have B73_a52 := B72_a52.other W73 ne_a52_a65
    have Zc73 : n0 ≤ h73.size := by rw [W73.size]; exact Zc72
    refine g_dup X73 hx (hb hby at_348) rfl rfl ?_
    refine g_bipush (v := (8 : Int32)) X73 hx (hb hby at_349) (by decide) rfl ?_
    refine g_lload_n (i := 3) X73 hx (hb hby at_351) (by rfl) rfl ?_
    refine g_lastoreN X73 hx hZ e73 Ar73 8 (by decide) (by decide) (by decide) (hb hby at_352) rfl ?_
    intro T74 h74 X74 e74 W74 Ar74
    have N74 := Fr.snoc X74 N73 gn_a65
    have B74_a50 := B73_a50.other W74 ne_a50_a65
    have B74_a52 := B73_a52.other W74 ne_a52_a65
    have Zc74 : n0 ≤ h74.size := by rw [W74.size]; exact Zc73
    refine g_dup X74 hx (hb hby at_353) rfl rfl ?_
    refine g_bipush (v := (9 : Int32)) X74 hx (hb hby at_354) (by decide) rfl ?_
    refine g_lload_n (i := 3) X74 hx (hb hby at_356) (by rfl) rfl ?_
    refine g_lastoreN X74 hx hZ e74 Ar74 9 (by decide) (by decide) (by decide) (hb hby at_357) rfl ?_
    intro T75 h75 X75 e75 W75 Ar75
    have N75 := Fr.snoc X75 N74 gn_a65
    have B75_a50 := B74_a50.other W75 ne_a50_a65
    have B75_a52 := B74_a52.other W75 ne_a52_a65
    have Zc75 : n0 ≤ h75.size := by rw [W75.size]; exact Zc74
    refine g_dup X75 hx (hb hby at_358) rfl rfl ?_
    refine g_bipush (v := (10 : Int32)) X75 hx (hb hby at_359) (by decide) rfl ?_
    refine g_lload_n (i := 3) X75 hx (hb hby at_361) (by rfl) rfl ?_
    refine g_lastoreN X75 hx hZ e75 Ar75 10 (by decide) (by decide) (by decide) (hb hby at_362) rfl ?_
    intro T76 h76 X76 e76 W76 Ar76
    have N76 := Fr.snoc X76 N75 gn_a65
    have B76_a50 := B75_a50.other W76 ne_a50_a65
    have B76_a52 := B75_a52.other W76 ne_a52_a65
    have Zc76 : n0 ≤ h76.size := by rw [W76.size]; exact Zc75
    refine g_dup X76 hx (hb hby at_363) rfl rfl ?_
    refine g_bipush (v := (11 : Int32)) X76 hx (hb hby at_364) (by decide) rfl ?_
    refine g_lload_n (i := 3) X76 hx (hb hby at_366) (by rfl) rfl ?_
    refine g_lastoreN X76 hx hZ e76 Ar76 11 (by decide) (by decide) (by decide) (hb hby at_367) rfl ?_
    intro T77 h77 X77 e77 W77 Ar77
    have N77 := Fr.snoc X77 N76 gn_a65
    have B77_a50 := B76_a50.other W77 ne_a50_a65
    have B77_a52 := B76_a52.other W77 ne_a52_a65
    have Zc77 : n0 ≤ h77.size := by rw [W77.size]; exact Zc76
    refine g_astore (i := 15) X77 hx #[.val (.long p0), .second, .val (.int p1), .val (.long p2), .second, .val (.int p3), .val (.int p4), .val (.int (0 : Int32)), .val (.int nrow), .val (.int pad), .val (.int ofs), .val (.int (1 : Int32)), .val (.ref a50), .val (.int strd), .val (.ref a52), .val (.ref a65), .unset, .unset, .unset, .unset, .unset, .unset] (hb hby at_368) rfl rfl rfl ?_
    refine g_aload (i := 12) X77 hx (hb hby at_370) (by rfl) rfl rfl ?_
    refine g_arraylengthI X77 hx hZ e77 B77_a50 (z := (1 : Int32)) (by decide) (hb hby at_372) rfl ?_
    refine g_istore (i := 16) X77 hx #[.val (.long p0), .second, .val (.int p1), .val (.long p2), .second, .val (.int p3), .val (.int p4), .val (.int (0 : Int32)), .val (.int nrow), .val (.int pad), .val (.int ofs), .val (.int (1 : Int32)), .val (.ref a50), .val (.int strd), .val (.ref a52), .val (.ref a65), .val (.int (1 : Int32)), .unset, .unset, .unset, .unset, .unset] (hb hby at_373) rfl rfl ?_
    refine g_aload (i := 12) X77 hx (hb hby at_375) (by rfl) rfl rfl ?_
    refine g_iconst (v := (0 : Int32)) X77 hx (hb hby at_377) (by decide) rfl ?_
    refine g_iaload' X77 hx hZ e77 B77_a50 (by decide) (by decide) (x := (1 : Int32)) rfl (hb hby at_378) rfl ?_
    refine g_istore (i := 17) X77 hx #[.val (.long p0), .second, .val (.int p1), .val (.long p2), .second, .val (.int p3), .val (.int p4), .val (.int (0 : Int32)), .val (.int nrow), .val (.int pad), .val (.int ofs), .val (.int (1 : Int32)), .val (.ref a50), .val (.int strd), .val (.ref a52), .val (.ref a65), .val (.int (1 : Int32)), .val (.int (1 : Int32)), .unset, .unset, .unset, .unset] (hb hby at_379) rfl rfl ?_
    refine g_iload (i := 16) X77 hx (hb hby at_381) (by rfl) rfl ?_
    refine g_iconst (v := (1 : Int32)) X77 hx (hb hby at_383) (by decide) rfl ?_
    refine g_icmp_le X77 hx (hb hby at_384) (by decide) (pt := 394) (by decide) rfl (fun _ => ?_) (fun q_ => absurd q_ (by decide))
    refine g_iload (i := 17) X77 hx (hb hby at_394) (by rfl) rfl ?_
    refine g_istore (i := 18) X77 hx #[.val (.long p0), .second, .val (.int p1), .val (.long p2), .second, .val (.int p3), .val (.int p4), .val (.int (0 : Int32)), .val (.int nrow), .val (.int pad), .val (.int ofs), .val (.int (1 : Int32)), .val (.ref a50), .val (.int strd), .val (.ref a52), .val (.ref a65), .val (.int (1 : Int32)), .val (.int (1 : Int32)), .val (.int (1 : Int32)), .unset, .unset, .unset] (hb hby at_396) rfl rfl ?_
    refine g_iload (i := 16) X77 hx (hb hby at_398) (by rfl) rfl ?_
    refine g_iconst (v := (2 : Int32)) X77 hx (hb hby at_400) (by decide) rfl ?_
    refine g_icmp_le X77 hx (hb hby at_401) (by decide) (pt := 411) (by decide) rfl (fun _ => ?_) (fun q_ => absurd q_ (by decide))
    refine g_iload (i := 18) X77 hx (hb hby at_411) (by rfl) rfl ?_
    refine g_istore (i := 19) X77 hx #[.val (.long p0), .second, .val (.int p1), .val (.long p2), .second, .val (.int p3), .val (.int p4), .val (.int (0 : Int32)), .val (.int nrow), .val (.int pad), .val (.int ofs), .val (.int (1 : Int32)), .val (.ref a50), .val (.int strd), .val (.ref a52), .val (.ref a65), .val (.int (1 : Int32)), .val (.int (1 : Int32)), .val (.int (1 : Int32)), .val (.int (1 : Int32)), .unset, .unset] (hb hby at_413) rfl rfl ?_
    obtain ⟨S, hS⟩ : ∃ S : Nat, strd.toInt = (S : Int) := ⟨strd.toInt.toNat, by omega⟩
    obtain ⟨f, As, hf⟩ : ∃ f, ArI Z h77 a52 .byte 12 f ∧ ∀ i, i < 12 → f i &&& 255 = own_smp p0 p1 (Int32.ofNat i) := by
      refine ⟨_, B77_a52, fun i hi => ?_⟩
      rcases own_twelve i hi with rfl | rfl | rfl | rfl | rfl | rfl | rfl | rfl | rfl | rfl | rfl | rfl
      · exact (by show _ = own_smp p0 p1 (Int32.ofNat 0); rw [show own_smp p0 p1 (Int32.ofNat 0) = (XT.ushrL p0 (0 : Int32)).toInt32 &&& 255 from if_pos (by decide), own_u0L]; exact own_nb255 _)
      · exact (by show _ = own_smp p0 p1 (Int32.ofNat 1); rw [show own_smp p0 p1 (Int32.ofNat 1) = (XT.ushrL p0 (8 : Int32)).toInt32 &&& 255 from if_pos (by decide)]; exact own_nb255 _)
      · exact (by show _ = own_smp p0 p1 (Int32.ofNat 2); rw [show own_smp p0 p1 (Int32.ofNat 2) = (XT.ushrL p0 (16 : Int32)).toInt32 &&& 255 from if_pos (by decide)]; exact own_nb255 _)
      · exact (by show _ = own_smp p0 p1 (Int32.ofNat 3); rw [show own_smp p0 p1 (Int32.ofNat 3) = (XT.ushrL p0 (24 : Int32)).toInt32 &&& 255 from if_pos (by decide)]; exact own_nb255 _)
      · exact (by show _ = own_smp p0 p1 (Int32.ofNat 4); rw [show own_smp p0 p1 (Int32.ofNat 4) = (XT.ushrL p0 (32 : Int32)).toInt32 &&& 255 from if_pos (by decide)]; exact own_nb255 _)
      · exact (by show _ = own_smp p0 p1 (Int32.ofNat 5); rw [show own_smp p0 p1 (Int32.ofNat 5) = (XT.ushrL p0 (40 : Int32)).toInt32 &&& 255 from if_pos (by decide)]; exact own_nb255 _)
      · exact (by show _ = own_smp p0 p1 (Int32.ofNat 6); rw [show own_smp p0 p1 (Int32.ofNat 6) = (XT.ushrL p0 (48 : Int32)).toInt32 &&& 255 from if_pos (by decide)]; exact own_nb255 _)
      · exact (by show _ = own_smp p0 p1 (Int32.ofNat 7); rw [show own_smp p0 p1 (Int32.ofNat 7) = (XT.ushrL p0 (56 : Int32)).toInt32 &&& 255 from if_pos (by decide)]; exact own_nb255 _)
      · exact (by show _ = own_smp p0 p1 (Int32.ofNat 8); rw [show own_smp p0 p1 (Int32.ofNat 8) = XT.ushr p1 (0 : Int32) &&& 255 from if_neg (by decide), own_u0]; exact own_nb255 _)
      · exact (by show _ = own_smp p0 p1 (Int32.ofNat 9); rw [show own_smp p0 p1 (Int32.ofNat 9) = XT.ushr p1 (8 : Int32) &&& 255 from if_neg (by decide)]; exact own_nb255 _)
      · exact (by show _ = own_smp p0 p1 (Int32.ofNat 10); rw [show own_smp p0 p1 (Int32.ofNat 10) = XT.ushr p1 (16 : Int32) &&& 255 from if_neg (by decide)]; exact own_nb255 _)
      · exact (by show _ = own_smp p0 p1 (Int32.ofNat 11); rw [show own_smp p0 p1 (Int32.ofNat 11) = XT.ushr p1 (24 : Int32) &&& 255 from if_neg (by decide)]; exact own_nb255 _)
    refine g_new X77 hx hZ hown (wd hw 4 rfl) (wd hw 5 rfl) (wd hw 6 rfl) e77 (hb hby at_415) rfl (by decide) (by decide) ?_
    intro T78 h78 a78 X78 e78 g78 Ex78 E78 D78
    have C_a50 := B77_a50.ext Ex78
    have C_a65 := Ar77.ext Ex78
    have As2 := As.ext Ex78
    refine g_dup X78 hx (hb hby at_418) rfl rfl ?_
    refine g_callI X78 hx hZ rfl hown (wd hw 7 rfl) (wd hw 8 rfl) (wd hw 6 rfl) (wd hw 9 rfl) (by decide) e78 (rm_init l Z a0 hw a78 h78) (by rw [hml]; rfl) a78 [] [(.ref a78)] rfl (lenOf pd_79 rfl) rfl (by show 1 + (1 + 11) + 12 ≤ _; decide) (by decide) (by decide) (by decide) (hb hby at_419) rfl ?_
    intro T79 v79 L79 X79 hQ79
    obtain ⟨rfl, rfl, e79⟩ := hQ79
    have N79 := Fr.app N77 (Fr.nil n0)
    show Goes p e below _ T79 (mkF m 422 #[.val (.long p0), .second, .val (.int p1), .val (.long p2), .second, .val (.int p3), .val (.int p4), .val (.int (0 : Int32)), .val (.int nrow), .val (.int pad), .val (.int ofs), .val (.int (1 : Int32)), .val (.ref a50), .val (.int strd), .val (.ref a52), .val (.ref a65), .val (.int (1 : Int32)), .val (.int (1 : Int32)), .val (.int (1 : Int32)), .val (.int (1 : Int32)), .unset, .unset] [(.ref a78)])
    refine g_aload (i := 14) X79 hx (hb hby at_422) (by rfl) rfl rfl ?_
    refine g_iload (i := 10) X79 hx (hb hby at_424) (by rfl) rfl ?_
    refine g_iload (i := 13) X79 hx (hb hby at_426) (by rfl) rfl ?_
    refine g_iload (i := 8) X79 hx (hb hby at_428) (by rfl) rfl ?_
    refine g_aload (i := 12) X79 hx (hb hby at_430) (by rfl) rfl rfl ?_
    refine g_aload (i := 15) X79 hx (hb hby at_432) (by rfl) rfl rfl ?_
    refine g_callV X79 hx hZ hown (wd hw 13 rfl) (wd hw 14 rfl) (wd hw 16 rfl) (wd hw 15 rfl) (wd hw 6 rfl) (wd hw 17 rfl) (by decide) e79 a78 E78 (rm_sum1 l Z a0 hw a78 a52 a50 a65 ofs strd nrow (1 : Int32) 1 S R f _ _ h78 n0 As2 C_a50 C_a65 ne_a50_a65 ne_a52_a65 gn_a65 hg_ofs.1 hg_ofs.2 hS (by omega) (by omega) (by omega) hR hR3 rfl (by decide) (by decide)) (by rw [hml]; rfl) [(.ref a52), (.int ofs), (.int strd), (.int nrow), (.ref a50), (.ref a65)] [] rfl (lenOf pd_80 rfl) rfl (by show 0 + (13 + 11) + 0 ≤ _; decide) (by decide) (by decide) (by decide) (hb hby at_434) rfl ?_
    intro T80 v80 L80 X80 hQ80
    obtain ⟨g', rfl, N80, Ag', ⟨w0_0, w0_1, w0_2, w0_3⟩, y4, y5, y6, y7, y8, y9, y10, y11⟩ := hQ80
    have N80 := Fr.app N79 N80
    show Goes p e below _ T80 (mkF m 437 #[.val (.long p0), .second, .val (.int p1), .val (.long p2), .second, .val (.int p3), .val (.int p4), .val (.int (0 : Int32)), .val (.int nrow), .val (.int pad), .val (.int ofs), .val (.int (1 : Int32)), .val (.ref a50), .val (.int strd), .val (.ref a52), .val (.ref a65), .val (.int (1 : Int32)), .val (.int (1 : Int32)), .val (.int (1 : Int32)), .val (.int (1 : Int32)), .unset, .unset] [(.int (1 : Int32))])
    refine g_istore (i := 20) X80 hx #[.val (.long p0), .second, .val (.int p1), .val (.long p2), .second, .val (.int p3), .val (.int p4), .val (.int (0 : Int32)), .val (.int nrow), .val (.int pad), .val (.int ofs), .val (.int (1 : Int32)), .val (.ref a50), .val (.int strd), .val (.ref a52), .val (.ref a65), .val (.int (1 : Int32)), .val (.int (1 : Int32)), .val (.int (1 : Int32)), .val (.int (1 : Int32)), .val (.int (1 : Int32)), .unset] (hb hby at_437) rfl rfl ?_
    refine g_iload (i := 20) X80 hx (hb hby at_439) (by rfl) rfl ?_
    refine g_istore (i := 21) X80 hx #[.val (.long p0), .second, .val (.int p1), .val (.long p2), .second, .val (.int p3), .val (.int p4), .val (.int (0 : Int32)), .val (.int nrow), .val (.int pad), .val (.int ofs), .val (.int (1 : Int32)), .val (.ref a50), .val (.int strd), .val (.ref a52), .val (.ref a65), .val (.int (1 : Int32)), .val (.int (1 : Int32)), .val (.int (1 : Int32)), .val (.int (1 : Int32)), .val (.int (1 : Int32)), .val (.int (1 : Int32))] (hb hby at_441) rfl rfl ?_
    refine g_iload (i := 21) X80 hx (hb hby at_443) (by rfl) rfl ?_
    refine g_if_eq X80 hx (hb hby at_445) (by decide) (pt := 482) (by decide) rfl (fun q_ => absurd q_ (by decide)) (fun _ => ?_)
    refine g_aload (i := 15) X80 hx (hb hby at_448) (by rfl) rfl rfl ?_
    refine g_iconst (v := (0 : Int32)) X80 hx (hb hby at_450) (by decide) rfl ?_
    refine g_lload_n (i := 3) X80 hx (hb hby at_451) (by rfl) rfl ?_
    refine g_iconst (v := (1 : Int32)) X80 hx (hb hby at_452) (by decide) rfl ?_
    refine g_iload (i := 8) X80 hx (hb hby at_453) (by rfl) rfl ?_
    refine g_iconst (v := (0 : Int32)) X80 hx (hb hby at_455) (by decide) rfl ?_
    refine g_iload (i := 17) X80 hx (hb hby at_456) (by rfl) rfl ?_
    refine g_lload_n (i := 0) X80 hx (hb hby at_458) (by rfl) rfl ?_
    refine g_iload_n (i := 2) X80 hx (hb hby at_459) (by rfl) rfl ?_
    refine g_iload (i := 10) X80 hx (hb hby at_460) (by rfl) rfl ?_
    refine g_iload (i := 13) X80 hx (hb hby at_462) (by rfl) rfl ?_
    refine g_iload (i := 8) X80 hx (hb hby at_464) (by rfl) rfl ?_
    refine g_iconst (v := (0 : Int32)) X80 hx (hb hby at_466) (by decide) rfl ?_
    refine g_iload (i := 17) X80 hx (hb hby at_467) (by rfl) rfl ?_
    refine g_callS X80 hx hZ hown (wd hw 19 rfl) (wd hw 20 rfl) (wd hw 21 rfl) (wd hw 22 rfl) (by decide) rfl (rm_lvl l Z a0 hw p0 p1 ofs strd nrow (0 : Int32) (1 : Int32) T80.heap) (by rw [hml]; rfl) [(.long p0), (.int p1), (.int ofs), (.int strd), (.int nrow), (.int (0 : Int32)), (.int (1 : Int32))] [(.int (1 : Int32)), (.int (0 : Int32)), (.int nrow), (.int (1 : Int32)), (.long p2), (.int (0 : Int32)), (.ref a65)] rfl (lenOf pd_81 rfl) rfl (by show 8 + (8 + 11) + 38 ≤ _; decide) (by decide) (by decide) (by decide) (hb hby at_469) rfl ?_
    intro T81 v81 L81 X81 hQ81
    obtain ⟨rfl, rfl, e81⟩ := hQ81
    have N81 := Fr.app N80 (Fr.nil n0)
    show Goes p e below _ T81 (mkF m 472 #[.val (.long p0), .second, .val (.int p1), .val (.long p2), .second, .val (.int p3), .val (.int p4), .val (.int (0 : Int32)), .val (.int nrow), .val (.int pad), .val (.int ofs), .val (.int (1 : Int32)), .val (.ref a50), .val (.int strd), .val (.ref a52), .val (.ref a65), .val (.int (1 : Int32)), .val (.int (1 : Int32)), .val (.int (1 : Int32)), .val (.int (1 : Int32)), .val (.int (1 : Int32)), .val (.int (1 : Int32))] [(.long (own_lvl p0 p1 ofs strd nrow (0 : Int32) (1 : Int32))), (.int (1 : Int32)), (.int (0 : Int32)), (.int nrow), (.int (1 : Int32)), (.long p2), (.int (0 : Int32)), (.ref a65)])
    have hl0 : own_blk f S (((1 : Int32)).toInt - ((0 : Int32)).toInt).toNat (ofs.toInt + ((0 : Int32)).toInt).toNat R 0 = (own_lvl p0 p1 ofs strd nrow (0 : Int32) (1 : Int32)) := by
      rcases hg_nrow with rfl | rfl | rfl
      · obtain rfl : R = 1 := by have := hR; rw [show (1 : Int32).toInt = 1 from rfl] at this; omega
        exact (own_lev_0_1_1 hf hg_ofs.1 hg_ofs.2 hS (by omega)).symm
      · obtain rfl : R = 2 := by have := hR; rw [show (2 : Int32).toInt = 2 from rfl] at this; omega
        exact (own_lev_0_1_2 hf hg_ofs.1 hg_ofs.2 hS (by omega)).symm
      · obtain rfl : R = 3 := by have := hR; rw [show (3 : Int32).toInt = 3 from rfl] at this; omega
        exact (own_lev_0_1_3 hf hg_ofs.1 hg_ofs.2 hS (by omega)).symm
    refine g_callS X81 hx hZ hown (wd hw 29 rfl) (wd hw 30 rfl) (wd hw 21 rfl) (wd hw 31 rfl) (by decide) e81 (rm_run1 l Z a0 hw a65 (0 : Int32) p2 nrow (0 : Int32) (1 : Int32) (own_lvl p0 p1 ofs strd nrow (0 : Int32) (1 : Int32)) g' T80.heap Ag' (by decide) w0_0 (w0_1.trans hl0) (w0_2.trans hl0) (w0_3.trans hl0)) (by rw [hml]; rfl) [(.ref a65), (.int (0 : Int32)), (.long p2), (.int (1 : Int32)), (.int nrow), (.int (0 : Int32)), (.int (1 : Int32)), (.long (own_lvl p0 p1 ofs strd nrow (0 : Int32) (1 : Int32)))] [] rfl (lenOf pd_82 rfl) rfl (by show 0 + (11 + 11) + 0 ≤ _; decide) (by decide) (by decide) (by decide) (hb hby at_472) rfl ?_
    intro T82 v82 L82 X82 hQ82
    obtain ⟨rfl, rfl, e82⟩ := hQ82
    have N82 := Fr.app N81 (Fr.nil n0)
    show Goes p e below _ T82 (mkF m 475 #[.val (.long p0), .second, .val (.int p1), .val (.long p2), .second, .val (.int p3), .val (.int p4), .val (.int (0 : Int32)), .val (.int nrow), .val (.int pad), .val (.int ofs), .val (.int (1 : Int32)), .val (.ref a50), .val (.int strd), .val (.ref a52), .val (.ref a65), .val (.int (1 : Int32)), .val (.int (1 : Int32)), .val (.int (1 : Int32)), .val (.int (1 : Int32)), .val (.int (1 : Int32)), .val (.int (1 : Int32))] [(.int (1 : Int32))])
    refine g_if_eq X82 hx (hb hby at_475) (by decide) (pt := 482) (by decide) rfl (fun q_ => absurd q_ (by decide)) (fun _ => ?_)
    refine g_iconst (v := (1 : Int32)) X82 hx (hb hby at_478) (by decide) rfl ?_
    refine g_goto X82 hx (hb hby at_479) (by decide) (by decide) (pc' := 483) ?_
    refine g_istore (i := 21) X82 hx #[.val (.long p0), .second, .val (.int p1), .val (.long p2), .second, .val (.int p3), .val (.int p4), .val (.int (0 : Int32)), .val (.int nrow), .val (.int pad), .val (.int ofs), .val (.int (1 : Int32)), .val (.ref a50), .val (.int strd), .val (.ref a52), .val (.ref a65), .val (.int (1 : Int32)), .val (.int (1 : Int32)), .val (.int (1 : Int32)), .val (.int (1 : Int32)), .val (.int (1 : Int32)), .val (.int (1 : Int32))] (hb hby at_483) rfl rfl ?_
    refine g_iload (i := 21) X82 hx (hb hby at_485) (by rfl) rfl ?_
    refine g_if_eq X82 hx (hb hby at_487) (by decide) (pt := 536) (by decide) rfl (fun q_ => absurd q_ (by decide)) (fun _ => ?_)
    refine g_aload (i := 15) X82 hx (hb hby at_490) (by rfl) rfl rfl ?_
    refine g_iconst (v := (1 : Int32)) X82 hx (hb hby at_492) (by decide) rfl ?_
    refine g_lload_n (i := 3) X82 hx (hb hby at_493) (by rfl) rfl ?_
    refine g_iload (i := 16) X82 hx (hb hby at_494) (by rfl) rfl ?_
    refine g_iconst (v := (1 : Int32)) X82 hx (hb hby at_496) (by decide) rfl ?_
    refine g_icmp_le X82 hx (hb hby at_497) (by decide) (pt := 504) (by decide) rfl (fun _ => ?_) (fun q_ => absurd q_ (by decide))
    refine g_iconst (v := (0 : Int32)) X82 hx (hb hby at_504) (by decide) rfl ?_
    refine g_iload (i := 8) X82 hx (hb hby at_505) (by rfl) rfl ?_
    refine g_iload (i := 17) X82 hx (hb hby at_507) (by rfl) rfl ?_
    refine g_iload (i := 18) X82 hx (hb hby at_509) (by rfl) rfl ?_
    refine g_lload_n (i := 0) X82 hx (hb hby at_511) (by rfl) rfl ?_
    refine g_iload_n (i := 2) X82 hx (hb hby at_512) (by rfl) rfl ?_
    refine g_iload (i := 10) X82 hx (hb hby at_513) (by rfl) rfl ?_
    refine g_iload (i := 13) X82 hx (hb hby at_515) (by rfl) rfl ?_
    refine g_iload (i := 8) X82 hx (hb hby at_517) (by rfl) rfl ?_
    refine g_iload (i := 17) X82 hx (hb hby at_519) (by rfl) rfl ?_
    refine g_iload (i := 18) X82 hx (hb hby at_521) (by rfl) rfl ?_
    refine g_callS X82 hx hZ hown (wd hw 19 rfl) (wd hw 20 rfl) (wd hw 21 rfl) (wd hw 22 rfl) (by decide) e82 (rm_lvl l Z a0 hw p0 p1 ofs strd nrow (1 : Int32) (1 : Int32) T80.heap) (by rw [hml]; rfl) [(.long p0), (.int p1), (.int ofs), (.int strd), (.int nrow), (.int (1 : Int32)), (.int (1 : Int32))] [(.int (1 : Int32)), (.int (1 : Int32)), (.int nrow), (.int (0 : Int32)), (.long p2), (.int (1 : Int32)), (.ref a65)] rfl (lenOf pd_81 rfl) rfl (by show 8 + (8 + 11) + 38 ≤ _; decide) (by decide) (by decide) (by decide) (hb hby at_523) rfl ?_
    intro T83 v83 L83 X83 hQ83
    obtain ⟨rfl, rfl, e83⟩ := hQ83
    have N83 := Fr.app N82 (Fr.nil n0)
    show Goes p e below _ T83 (mkF m 526 #[.val (.long p0), .second, .val (.int p1), .val (.long p2), .second, .val (.int p3), .val (.int p4), .val (.int (0 : Int32)), .val (.int nrow), .val (.int pad), .val (.int ofs), .val (.int (1 : Int32)), .val (.ref a50), .val (.int strd), .val (.ref a52), .val (.ref a65), .val (.int (1 : Int32)), .val (.int (1 : Int32)), .val (.int (1 : Int32)), .val (.int (1 : Int32)), .val (.int (1 : Int32)), .val (.int (1 : Int32))] [(.long (own_lvl p0 p1 ofs strd nrow (1 : Int32) (1 : Int32))), (.int (1 : Int32)), (.int (1 : Int32)), (.int nrow), (.int (0 : Int32)), (.long p2), (.int (1 : Int32)), (.ref a65)])
    refine g_callS X83 hx hZ hown (wd hw 29 rfl) (wd hw 30 rfl) (wd hw 21 rfl) (wd hw 31 rfl) (by decide) e83 (rm_run0 l Z a0 hw a65 (1 : Int32) p2 nrow (1 : Int32) (1 : Int32) (own_lvl p0 p1 ofs strd nrow (1 : Int32) (1 : Int32)) g' T80.heap Ag' (by decide) y4 y5 y6 y7) (by rw [hml]; rfl) [(.ref a65), (.int (1 : Int32)), (.long p2), (.int (0 : Int32)), (.int nrow), (.int (1 : Int32)), (.int (1 : Int32)), (.long (own_lvl p0 p1 ofs strd nrow (1 : Int32) (1 : Int32)))] [] rfl (lenOf pd_82 rfl) rfl (by show 0 + (11 + 11) + 0 ≤ _; decide) (by decide) (by decide) (by decide) (hb hby at_526) rfl ?_
    intro T84 v84 L84 X84 hQ84
    obtain ⟨rfl, rfl, e84⟩ := hQ84
    have N84 := Fr.app N83 (Fr.nil n0)
    show Goes p e below _ T84 (mkF m 529 #[.val (.long p0), .second, .val (.int p1), .val (.long p2), .second, .val (.int p3), .val (.int p4), .val (.int (0 : Int32)), .val (.int nrow), .val (.int pad), .val (.int ofs), .val (.int (1 : Int32)), .val (.ref a50), .val (.int strd), .val (.ref a52), .val (.ref a65), .val (.int (1 : Int32)), .val (.int (1 : Int32)), .val (.int (1 : Int32)), .val (.int (1 : Int32)), .val (.int (1 : Int32)), .val (.int (1 : Int32))] [(.int (1 : Int32))])
    refine g_if_eq X84 hx (hb hby at_529) (by decide) (pt := 536) (by decide) rfl (fun q_ => absurd q_ (by decide)) (fun _ => ?_)
    refine g_iconst (v := (1 : Int32)) X84 hx (hb hby at_532) (by decide) rfl ?_
    refine g_goto X84 hx (hb hby at_533) (by decide) (by decide) (pc' := 537) ?_
    refine g_istore (i := 21) X84 hx #[.val (.long p0), .second, .val (.int p1), .val (.long p2), .second, .val (.int p3), .val (.int p4), .val (.int (0 : Int32)), .val (.int nrow), .val (.int pad), .val (.int ofs), .val (.int (1 : Int32)), .val (.ref a50), .val (.int strd), .val (.ref a52), .val (.ref a65), .val (.int (1 : Int32)), .val (.int (1 : Int32)), .val (.int (1 : Int32)), .val (.int (1 : Int32)), .val (.int (1 : Int32)), .val (.int (1 : Int32))] (hb hby at_537) rfl rfl ?_
    refine g_iload (i := 21) X84 hx (hb hby at_539) (by rfl) rfl ?_
    refine g_if_eq X84 hx (hb hby at_541) (by decide) (pt := 590) (by decide) rfl (fun q_ => absurd q_ (by decide)) (fun _ => ?_)
    refine g_aload (i := 15) X84 hx (hb hby at_544) (by rfl) rfl rfl ?_
    refine g_iconst (v := (2 : Int32)) X84 hx (hb hby at_546) (by decide) rfl ?_
    refine g_lload_n (i := 3) X84 hx (hb hby at_547) (by rfl) rfl ?_
    refine g_iload (i := 16) X84 hx (hb hby at_548) (by rfl) rfl ?_
    refine g_iconst (v := (2 : Int32)) X84 hx (hb hby at_550) (by decide) rfl ?_
    refine g_icmp_le X84 hx (hb hby at_551) (by decide) (pt := 558) (by decide) rfl (fun _ => ?_) (fun q_ => absurd q_ (by decide))
    refine g_iconst (v := (0 : Int32)) X84 hx (hb hby at_558) (by decide) rfl ?_
    refine g_iload (i := 8) X84 hx (hb hby at_559) (by rfl) rfl ?_
    refine g_iload (i := 18) X84 hx (hb hby at_561) (by rfl) rfl ?_
    refine g_iload (i := 19) X84 hx (hb hby at_563) (by rfl) rfl ?_
    refine g_lload_n (i := 0) X84 hx (hb hby at_565) (by rfl) rfl ?_
    refine g_iload_n (i := 2) X84 hx (hb hby at_566) (by rfl) rfl ?_
    refine g_iload (i := 10) X84 hx (hb hby at_567) (by rfl) rfl ?_
    refine g_iload (i := 13) X84 hx (hb hby at_569) (by rfl) rfl ?_
    refine g_iload (i := 8) X84 hx (hb hby at_571) (by rfl) rfl ?_
    refine g_iload (i := 18) X84 hx (hb hby at_573) (by rfl) rfl ?_
    refine g_iload (i := 19) X84 hx (hb hby at_575) (by rfl) rfl ?_
    refine g_callS X84 hx hZ hown (wd hw 19 rfl) (wd hw 20 rfl) (wd hw 21 rfl) (wd hw 22 rfl) (by decide) e84 (rm_lvl l Z a0 hw p0 p1 ofs strd nrow (1 : Int32) (1 : Int32) T80.heap) (by rw [hml]; rfl) [(.long p0), (.int p1), (.int ofs), (.int strd), (.int nrow), (.int (1 : Int32)), (.int (1 : Int32))] [(.int (1 : Int32)), (.int (1 : Int32)), (.int nrow), (.int (0 : Int32)), (.long p2), (.int (2 : Int32)), (.ref a65)] rfl (lenOf pd_81 rfl) rfl (by show 8 + (8 + 11) + 38 ≤ _; decide) (by decide) (by decide) (by decide) (hb hby at_577) rfl ?_
    intro T85 v85 L85 X85 hQ85
    obtain ⟨rfl, rfl, e85⟩ := hQ85
    have N85 := Fr.app N84 (Fr.nil n0)
    show Goes p e below _ T85 (mkF m 580 #[.val (.long p0), .second, .val (.int p1), .val (.long p2), .second, .val (.int p3), .val (.int p4), .val (.int (0 : Int32)), .val (.int nrow), .val (.int pad), .val (.int ofs), .val (.int (1 : Int32)), .val (.ref a50), .val (.int strd), .val (.ref a52), .val (.ref a65), .val (.int (1 : Int32)), .val (.int (1 : Int32)), .val (.int (1 : Int32)), .val (.int (1 : Int32)), .val (.int (1 : Int32)), .val (.int (1 : Int32))] [(.long (own_lvl p0 p1 ofs strd nrow (1 : Int32) (1 : Int32))), (.int (1 : Int32)), (.int (1 : Int32)), (.int nrow), (.int (0 : Int32)), (.long p2), (.int (2 : Int32)), (.ref a65)])
    refine g_callS X85 hx hZ hown (wd hw 29 rfl) (wd hw 30 rfl) (wd hw 21 rfl) (wd hw 31 rfl) (by decide) e85 (rm_run0 l Z a0 hw a65 (2 : Int32) p2 nrow (1 : Int32) (1 : Int32) (own_lvl p0 p1 ofs strd nrow (1 : Int32) (1 : Int32)) g' T80.heap Ag' (by decide) y8 y9 y10 y11) (by rw [hml]; rfl) [(.ref a65), (.int (2 : Int32)), (.long p2), (.int (0 : Int32)), (.int nrow), (.int (1 : Int32)), (.int (1 : Int32)), (.long (own_lvl p0 p1 ofs strd nrow (1 : Int32) (1 : Int32)))] [] rfl (lenOf pd_82 rfl) rfl (by show 0 + (11 + 11) + 0 ≤ _; decide) (by decide) (by decide) (by decide) (hb hby at_580) rfl ?_
    intro T86 v86 L86 X86 hQ86
    obtain ⟨rfl, rfl, e86⟩ := hQ86
    have N86 := Fr.app N85 (Fr.nil n0)
    show Goes p e below _ T86 (mkF m 583 #[.val (.long p0), .second, .val (.int p1), .val (.long p2), .second, .val (.int p3), .val (.int p4), .val (.int (0 : Int32)), .val (.int nrow), .val (.int pad), .val (.int ofs), .val (.int (1 : Int32)), .val (.ref a50), .val (.int strd), .val (.ref a52), .val (.ref a65), .val (.int (1 : Int32)), .val (.int (1 : Int32)), .val (.int (1 : Int32)), .val (.int (1 : Int32)), .val (.int (1 : Int32)), .val (.int (1 : Int32))] [(.int (1 : Int32))])
    refine g_if_eq X86 hx (hb hby at_583) (by decide) (pt := 590) (by decide) rfl (fun q_ => absurd q_ (by decide)) (fun _ => ?_)
    refine g_iconst (v := (1 : Int32)) X86 hx (hb hby at_586) (by decide) rfl ?_
    refine g_goto X86 hx (hb hby at_587) (by decide) (by decide) (pc' := 591) ?_
    refine g_istore (i := 21) X86 hx #[.val (.long p0), .second, .val (.int p1), .val (.long p2), .second, .val (.int p3), .val (.int p4), .val (.int (0 : Int32)), .val (.int nrow), .val (.int pad), .val (.int ofs), .val (.int (1 : Int32)), .val (.ref a50), .val (.int strd), .val (.ref a52), .val (.ref a65), .val (.int (1 : Int32)), .val (.int (1 : Int32)), .val (.int (1 : Int32)), .val (.int (1 : Int32)), .val (.int (1 : Int32)), .val (.int (1 : Int32))] (hb hby at_591) rfl rfl ?_
    refine g_iload (i := 21) X86 hx (hb hby at_593) (by rfl) rfl ?_
    exact g_retN X86 hx (t := .boolean) (by simp) hlk hret e86 (by decide) (by decide) (hb hby at_595) ⟨rfl, N86⟩
  · have Zc := Z0
    refine g_iload (i := 7) X0 hx (hb hby at_36) (by rfl) rfl ?_
    refine g_if_ne X0 hx (hb hby at_38) (by decide) (pt := 56) (by decide) rfl (fun _ => ?_) (fun q_ => absurd q_ (by decide))
    refine g_iload (i := 7) X0 hx (hb hby at_56) (by rfl) rfl ?_
    refine g_iconst (v := (1 : Int32)) X0 hx (hb hby at_58) (by decide) rfl ?_
    refine g_icmp_ne X0 hx (hb hby at_59) (by decide) (pt := 77) (by decide) rfl (fun q_ => absurd (by decide) q_) (fun _ => ?_)
    refine g_iconst (v := (2 : Int32)) X0 hx (hb hby at_62) (by decide) rfl ?_
    refine g_istore (i := 11) X0 hx #[.val (.long p0), .second, .val (.int p1), .val (.long p2), .second, .val (.int p3), .val (.int p4), .val (.int (1 : Int32)), .val (.int nrow), .val (.int pad), .val (.int ofs), .val (.int (2 : Int32)), .unset, .unset, .unset, .unset, .unset, .unset, .unset, .unset, .unset, .unset] (hb hby at_63) rfl rfl ?_
    refine g_iconst (v := (1 : Int32)) X0 hx (hb hby at_65) (by decide) rfl ?_
    refine g_newarr X0 hx hZ (ty := .int) rfl (wd hw 1 rfl) e0 (hb hby at_66) rfl (by decide) 1 (by decide) (by decide) (by decide) (by decide) ?_
    intro T87 h87 cA87 a87 X87 e87 g87 Ex87 A87
    have gn_a87 : n0 ≤ a87 := by rw [g87]; exact Zc
    have Zc87 : n0 ≤ h87.size := Nat.le_trans Zc Ex87.1
    have Ar87 : ArI Z h87 a87 .int 1 (fun _ => 0) := ArI.new A87 0 rfl
    refine g_dup X87 hx (hb hby at_68) rfl rfl ?_
    refine g_iconst (v := (0 : Int32)) X87 hx (hb hby at_69) (by decide) rfl ?_
    refine g_iconst (v := (2 : Int32)) X87 hx (hb hby at_70) (by decide) rfl ?_
    refine g_iastoreN X87 hx hZ e87 Ar87 0 (by decide) (by decide) (by decide) (hb hby at_71) rfl ?_
    intro T88 h88 X88 e88 W88 Ar88
    have N88 := Fr.snoc X88 (Fr.nil n0) gn_a87
    have Zc88 : n0 ≤ h88.size := by rw [W88.size]; exact Zc87
    refine g_astore (i := 12) X88 hx #[.val (.long p0), .second, .val (.int p1), .val (.long p2), .second, .val (.int p3), .val (.int p4), .val (.int (1 : Int32)), .val (.int nrow), .val (.int pad), .val (.int ofs), .val (.int (2 : Int32)), .val (.ref a87), .unset, .unset, .unset, .unset, .unset, .unset, .unset, .unset, .unset] (hb hby at_72) rfl rfl rfl ?_
    refine g_goto X88 hx (hb hby at_74) (by decide) (by decide) (pc' := 193) ?_
    refine g_iload (i := 11) X88 hx (hb hby at_193) (by rfl) rfl ?_
    refine g_iload (i := 9) X88 hx (hb hby at_195) (by rfl) rfl ?_
    refine g_iadd X88 hx (hb hby at_197) rfl ?_
    refine g_istore (i := 13) X88 hx #[.val (.long p0), .second, .val (.int p1), .val (.long p2), .second, .val (.int p3), .val (.int p4), .val (.int (1 : Int32)), .val (.int nrow), .val (.int pad), .val (.int ofs), .val (.int (2 : Int32)), .val (.ref a87), .val (.int ((2 : Int32) + pad)), .unset, .unset, .unset, .unset, .unset, .unset, .unset, .unset] (hb hby at_198) rfl rfl ?_
    have hst : (((2 : Int32) + pad)).toInt = 2 + pad.toInt := by have e := c_iadd (2 : Int32) pad; have r := rng32 (((2 : Int32) + pad)); rw [show ((2 : Int32)).toInt = 2 from rfl] at e; omega
    revert hst
    generalize ((2 : Int32) + pad) = strd
    intro hst
    refine g_bipush (v := (12 : Int32)) X88 hx (hb hby at_200) (by decide) rfl ?_
    refine g_newarr X88 hx hZ (ty := .byte) rfl (wd hw 2 rfl) e88 (hb hby at_202) rfl (by decide) 12 (by decide) (by decide) (by decide) (by decide) ?_
    intro T89 h89 cA89 a89 X89 e89 g89 Ex89 A89
    have ne_a87_a89 : a87 ≠ a89 := fun q => absurd Ar88.lt (by rw [q, g89]; exact Nat.lt_irrefl _)
    have B89_a87 := Ar88.ext Ex89
    have gn_a89 : n0 ≤ a89 := by rw [g89]; exact Zc88
    have Zc89 : n0 ≤ h89.size := Nat.le_trans Zc88 Ex89.1
    have Ar89 : ArI Z h89 a89 .byte 12 (fun _ => 0) := ArI.new A89 0 rfl
    refine g_dup X89 hx (hb hby at_204) rfl rfl ?_
    refine g_iconst (v := (0 : Int32)) X89 hx (hb hby at_205) (by decide) rfl ?_
    refine g_lload_n (i := 0) X89 hx (hb hby at_206) (by rfl) rfl ?_
    refine g_l2i X89 hx (hb hby at_207) rfl ?_
    refine g_i2b X89 hx (hb hby at_208) rfl ?_
    refine g_bastoreN X89 hx hZ e89 Ar89 0 (by decide) (by decide) (by decide) (hb hby at_209) rfl ?_
    intro T90 h90 X90 e90 W90 Ar90
    have N90 := Fr.snoc X90 N88 gn_a89
    have B90_a87 := B89_a87.other W90 ne_a87_a89
    have Zc90 : n0 ≤ h90.size := by rw [W90.size]; exact Zc89
    refine g_dup X90 hx (hb hby at_210) rfl rfl ?_
    refine g_iconst (v := (1 : Int32)) X90 hx (hb hby at_211) (by decide) rfl ?_
    refine g_lload_n (i := 0) X90 hx (hb hby at_212) (by rfl) rfl ?_
    refine g_bipush (v := (8 : Int32)) X90 hx (hb hby at_213) (by decide) rfl ?_
    refine g_lushr X90 hx (hb hby at_215) rfl ?_
    refine g_l2i X90 hx (hb hby at_216) rfl ?_
    refine g_i2b X90 hx (hb hby at_217) rfl ?_
    refine g_bastoreN X90 hx hZ e90 Ar90 1 (by decide) (by decide) (by decide) (hb hby at_218) rfl ?_
    intro T91 h91 X91 e91 W91 Ar91
    have N91 := Fr.snoc X91 N90 gn_a89
    have B91_a87 := B90_a87.other W91 ne_a87_a89
    have Zc91 : n0 ≤ h91.size := by rw [W91.size]; exact Zc90
    refine g_dup X91 hx (hb hby at_219) rfl rfl ?_
    refine g_iconst (v := (2 : Int32)) X91 hx (hb hby at_220) (by decide) rfl ?_
    refine g_lload_n (i := 0) X91 hx (hb hby at_221) (by rfl) rfl ?_
    refine g_bipush (v := (16 : Int32)) X91 hx (hb hby at_222) (by decide) rfl ?_
    refine g_lushr X91 hx (hb hby at_224) rfl ?_
    refine g_l2i X91 hx (hb hby at_225) rfl ?_
    refine g_i2b X91 hx (hb hby at_226) rfl ?_
    refine g_bastoreN X91 hx hZ e91 Ar91 2 (by decide) (by decide) (by decide) (hb hby at_227) rfl ?_
    intro T92 h92 X92 e92 W92 Ar92
    have N92 := Fr.snoc X92 N91 gn_a89
    have B92_a87 := B91_a87.other W92 ne_a87_a89
    have Zc92 : n0 ≤ h92.size := by rw [W92.size]; exact Zc91
    refine g_dup X92 hx (hb hby at_228) rfl rfl ?_
    refine g_iconst (v := (3 : Int32)) X92 hx (hb hby at_229) (by decide) rfl ?_
    refine g_lload_n (i := 0) X92 hx (hb hby at_230) (by rfl) rfl ?_
    refine g_bipush (v := (24 : Int32)) X92 hx (hb hby at_231) (by decide) rfl ?_
    refine g_lushr X92 hx (hb hby at_233) rfl ?_
    refine g_l2i X92 hx (hb hby at_234) rfl ?_
    refine g_i2b X92 hx (hb hby at_235) rfl ?_
    refine g_bastoreN X92 hx hZ e92 Ar92 3 (by decide) (by decide) (by decide) (hb hby at_236) rfl ?_
    intro T93 h93 X93 e93 W93 Ar93
    have N93 := Fr.snoc X93 N92 gn_a89
    have B93_a87 := B92_a87.other W93 ne_a87_a89
    have Zc93 : n0 ≤ h93.size := by rw [W93.size]; exact Zc92
    refine g_dup X93 hx (hb hby at_237) rfl rfl ?_
    refine g_iconst (v := (4 : Int32)) X93 hx (hb hby at_238) (by decide) rfl ?_
    refine g_lload_n (i := 0) X93 hx (hb hby at_239) (by rfl) rfl ?_
    refine g_bipush (v := (32 : Int32)) X93 hx (hb hby at_240) (by decide) rfl ?_
    refine g_lushr X93 hx (hb hby at_242) rfl ?_
    refine g_l2i X93 hx (hb hby at_243) rfl ?_
    refine g_i2b X93 hx (hb hby at_244) rfl ?_
    refine g_bastoreN X93 hx hZ e93 Ar93 4 (by decide) (by decide) (by decide) (hb hby at_245) rfl ?_
    intro T94 h94 X94 e94 W94 Ar94
    have N94 := Fr.snoc X94 N93 gn_a89
    have B94_a87 := B93_a87.other W94 ne_a87_a89
    have Zc94 : n0 ≤ h94.size := by rw [W94.size]; exact Zc93
    refine g_dup X94 hx (hb hby at_246) rfl rfl ?_
    refine g_iconst (v := (5 : Int32)) X94 hx (hb hby at_247) (by decide) rfl ?_
    refine g_lload_n (i := 0) X94 hx (hb hby at_248) (by rfl) rfl ?_
    refine g_bipush (v := (40 : Int32)) X94 hx (hb hby at_249) (by decide) rfl ?_
    refine g_lushr X94 hx (hb hby at_251) rfl ?_
    refine g_l2i X94 hx (hb hby at_252) rfl ?_
    refine g_i2b X94 hx (hb hby at_253) rfl ?_
    refine g_bastoreN X94 hx hZ e94 Ar94 5 (by decide) (by decide) (by decide) (hb hby at_254) rfl ?_
    intro T95 h95 X95 e95 W95 Ar95
    have N95 := Fr.snoc X95 N94 gn_a89
    have B95_a87 := B94_a87.other W95 ne_a87_a89
    have Zc95 : n0 ≤ h95.size := by rw [W95.size]; exact Zc94
    refine g_dup X95 hx (hb hby at_255) rfl rfl ?_
    refine g_bipush (v := (6 : Int32)) X95 hx (hb hby at_256) (by decide) rfl ?_
    refine g_lload_n (i := 0) X95 hx (hb hby at_258) (by rfl) rfl ?_
    refine g_bipush (v := (48 : Int32)) X95 hx (hb hby at_259) (by decide) rfl ?_
    refine g_lushr X95 hx (hb hby at_261) rfl ?_
    refine g_l2i X95 hx (hb hby at_262) rfl ?_
    refine g_i2b X95 hx (hb hby at_263) rfl ?_
    refine g_bastoreN X95 hx hZ e95 Ar95 6 (by decide) (by decide) (by decide) (hb hby at_264) rfl ?_
    intro T96 h96 X96 e96 W96 Ar96
    have N96 := Fr.snoc X96 N95 gn_a89
    have B96_a87 := B95_a87.other W96 ne_a87_a89
    have Zc96 : n0 ≤ h96.size := by rw [W96.size]; exact Zc95
    refine g_dup X96 hx (hb hby at_265) rfl rfl ?_
    refine g_bipush (v := (7 : Int32)) X96 hx (hb hby at_266) (by decide) rfl ?_
    refine g_lload_n (i := 0) X96 hx (hb hby at_268) (by rfl) rfl ?_
    refine g_bipush (v := (56 : Int32)) X96 hx (hb hby at_269) (by decide) rfl ?_
    refine g_lushr X96 hx (hb hby at_271) rfl ?_
    refine g_l2i X96 hx (hb hby at_272) rfl ?_
    refine g_i2b X96 hx (hb hby at_273) rfl ?_
    refine g_bastoreN X96 hx hZ e96 Ar96 7 (by decide) (by decide) (by decide) (hb hby at_274) rfl ?_
    intro T97 h97 X97 e97 W97 Ar97
    have N97 := Fr.snoc X97 N96 gn_a89
    have B97_a87 := B96_a87.other W97 ne_a87_a89
    have Zc97 : n0 ≤ h97.size := by rw [W97.size]; exact Zc96
    refine g_dup X97 hx (hb hby at_275) rfl rfl ?_
    refine g_bipush (v := (8 : Int32)) X97 hx (hb hby at_276) (by decide) rfl ?_
    refine g_iload_n (i := 2) X97 hx (hb hby at_278) (by rfl) rfl ?_
    refine g_i2b X97 hx (hb hby at_279) rfl ?_
    refine g_bastoreN X97 hx hZ e97 Ar97 8 (by decide) (by decide) (by decide) (hb hby at_280) rfl ?_
    intro T98 h98 X98 e98 W98 Ar98
    have N98 := Fr.snoc X98 N97 gn_a89
    have B98_a87 := B97_a87.other W98 ne_a87_a89
    have Zc98 : n0 ≤ h98.size := by rw [W98.size]; exact Zc97
    refine g_dup X98 hx (hb hby at_281) rfl rfl ?_
    refine g_bipush (v := (9 : Int32)) X98 hx (hb hby at_282) (by decide) rfl ?_
    refine g_iload_n (i := 2) X98 hx (hb hby at_284) (by rfl) rfl ?_
    refine g_bipush (v := (8 : Int32)) X98 hx (hb hby at_285) (by decide) rfl ?_
    refine g_iushr X98 hx (hb hby at_287) rfl ?_
    refine g_i2b X98 hx (hb hby at_288) rfl ?_
    refine g_bastoreN X98 hx hZ e98 Ar98 9 (by decide) (by decide) (by decide) (hb hby at_289) rfl ?_
    intro T99 h99 X99 e99 W99 Ar99
    have N99 := Fr.snoc X99 N98 gn_a89
    have B99_a87 := B98_a87.other W99 ne_a87_a89
    have Zc99 : n0 ≤ h99.size := by rw [W99.size]; exact Zc98
    refine g_dup X99 hx (hb hby at_290) rfl rfl ?_
    refine g_bipush (v := (10 : Int32)) X99 hx (hb hby at_291) (by decide) rfl ?_
    refine g_iload_n (i := 2) X99 hx (hb hby at_293) (by rfl) rfl ?_
    refine g_bipush (v := (16 : Int32)) X99 hx (hb hby at_294) (by decide) rfl ?_
    refine g_iushr X99 hx (hb hby at_296) rfl ?_
    refine g_i2b X99 hx (hb hby at_297) rfl ?_
    refine g_bastoreN X99 hx hZ e99 Ar99 10 (by decide) (by decide) (by decide) (hb hby at_298) rfl ?_
    intro T100 h100 X100 e100 W100 Ar100
    have N100 := Fr.snoc X100 N99 gn_a89
    have B100_a87 := B99_a87.other W100 ne_a87_a89
    have Zc100 : n0 ≤ h100.size := by rw [W100.size]; exact Zc99
    refine g_dup X100 hx (hb hby at_299) rfl rfl ?_
    refine g_bipush (v := (11 : Int32)) X100 hx (hb hby at_300) (by decide) rfl ?_
    refine g_iload_n (i := 2) X100 hx (hb hby at_302) (by rfl) rfl ?_
    refine g_bipush (v := (24 : Int32)) X100 hx (hb hby at_303) (by decide) rfl ?_
    refine g_iushr X100 hx (hb hby at_305) rfl ?_
    refine g_i2b X100 hx (hb hby at_306) rfl ?_
    refine g_bastoreN X100 hx hZ e100 Ar100 11 (by decide) (by decide) (by decide) (hb hby at_307) rfl ?_
    intro T101 h101 X101 e101 W101 Ar101
    have N101 := Fr.snoc X101 N100 gn_a89
    have B101_a87 := B100_a87.other W101 ne_a87_a89
    have Zc101 : n0 ≤ h101.size := by rw [W101.size]; exact Zc100
    refine g_astore (i := 14) X101 hx #[.val (.long p0), .second, .val (.int p1), .val (.long p2), .second, .val (.int p3), .val (.int p4), .val (.int (1 : Int32)), .val (.int nrow), .val (.int pad), .val (.int ofs), .val (.int (2 : Int32)), .val (.ref a87), .val (.int strd), .val (.ref a89), .unset, .unset, .unset, .unset, .unset, .unset, .unset] (hb hby at_308) rfl rfl rfl ?_
    refine g_bipush (v := (12 : Int32)) X101 hx (hb hby at_310) (by decide) rfl ?_
    refine g_newarr X101 hx hZ (ty := .long) rfl (wd hw 3 rfl) e101 (hb hby at_312) rfl (by decide) 12 (by decide) (by decide) (by decide) (by decide) ?_
    intro T102 h102 cA102 a102 X102 e102 g102 Ex102 A102
    have ne_a87_a102 : a87 ≠ a102 := fun q => absurd B101_a87.lt (by rw [q, g102]; exact Nat.lt_irrefl _)
    have B102_a87 := B101_a87.ext Ex102
    have ne_a89_a102 : a89 ≠ a102 := fun q => absurd Ar101.lt (by rw [q, g102]; exact Nat.lt_irrefl _)
    have B102_a89 := Ar101.ext Ex102
    have gn_a102 : n0 ≤ a102 := by rw [g102]; exact Zc101
    have Zc102 : n0 ≤ h102.size := Nat.le_trans Zc101 Ex102.1
    have Ar102 : ArJ Z h102 a102 .long 12 (fun _ => 0) := ArJ.new A102 0 rfl
    refine g_dup X102 hx (hb hby at_314) rfl rfl ?_
    refine g_iconst (v := (0 : Int32)) X102 hx (hb hby at_315) (by decide) rfl ?_
    refine g_lload_n (i := 3) X102 hx (hb hby at_316) (by rfl) rfl ?_
    refine g_lastoreN X102 hx hZ e102 Ar102 0 (by decide) (by decide) (by decide) (hb hby at_317) rfl ?_
    intro T103 h103 X103 e103 W103 Ar103
    have N103 := Fr.snoc X103 N101 gn_a102
    have B103_a87 := B102_a87.other W103 ne_a87_a102
    have B103_a89 := B102_a89.other W103 ne_a89_a102
    have Zc103 : n0 ≤ h103.size := by rw [W103.size]; exact Zc102
    refine g_dup X103 hx (hb hby at_318) rfl rfl ?_
    refine g_iconst (v := (1 : Int32)) X103 hx (hb hby at_319) (by decide) rfl ?_
    refine g_lload_n (i := 3) X103 hx (hb hby at_320) (by rfl) rfl ?_
    refine g_lastoreN X103 hx hZ e103 Ar103 1 (by decide) (by decide) (by decide) (hb hby at_321) rfl ?_
    intro T104 h104 X104 e104 W104 Ar104
    have N104 := Fr.snoc X104 N103 gn_a102
    have B104_a87 := B103_a87.other W104 ne_a87_a102
    have B104_a89 := B103_a89.other W104 ne_a89_a102
    have Zc104 : n0 ≤ h104.size := by rw [W104.size]; exact Zc103
    refine g_dup X104 hx (hb hby at_322) rfl rfl ?_
    refine g_iconst (v := (2 : Int32)) X104 hx (hb hby at_323) (by decide) rfl ?_
    refine g_lload_n (i := 3) X104 hx (hb hby at_324) (by rfl) rfl ?_
    refine g_lastoreN X104 hx hZ e104 Ar104 2 (by decide) (by decide) (by decide) (hb hby at_325) rfl ?_
    intro T105 h105 X105 e105 W105 Ar105
    have N105 := Fr.snoc X105 N104 gn_a102
    have B105_a87 := B104_a87.other W105 ne_a87_a102
    have B105_a89 := B104_a89.other W105 ne_a89_a102
    have Zc105 : n0 ≤ h105.size := by rw [W105.size]; exact Zc104
    refine g_dup X105 hx (hb hby at_326) rfl rfl ?_
    refine g_iconst (v := (3 : Int32)) X105 hx (hb hby at_327) (by decide) rfl ?_
    refine g_lload_n (i := 3) X105 hx (hb hby at_328) (by rfl) rfl ?_
    refine g_lastoreN X105 hx hZ e105 Ar105 3 (by decide) (by decide) (by decide) (hb hby at_329) rfl ?_
    intro T106 h106 X106 e106 W106 Ar106
    have N106 := Fr.snoc X106 N105 gn_a102
    have B106_a87 := B105_a87.other W106 ne_a87_a102
    have B106_a89 := B105_a89.other W106 ne_a89_a102
    have Zc106 : n0 ≤ h106.size := by rw [W106.size]; exact Zc105
    refine g_dup X106 hx (hb hby at_330) rfl rfl ?_
    refine g_iconst (v := (4 : Int32)) X106 hx (hb hby at_331) (by decide) rfl ?_
    refine g_lload_n (i := 3) X106 hx (hb hby at_332) (by rfl) rfl ?_
    refine g_lastoreN X106 hx hZ e106 Ar106 4 (by decide) (by decide) (by decide) (hb hby at_333) rfl ?_
    intro T107 h107 X107 e107 W107 Ar107
    have N107 := Fr.snoc X107 N106 gn_a102
    have B107_a87 := B106_a87.other W107 ne_a87_a102
    have B107_a89 := B106_a89.other W107 ne_a89_a102
    have Zc107 : n0 ≤ h107.size := by rw [W107.size]; exact Zc106
    refine g_dup X107 hx (hb hby at_334) rfl rfl ?_
    refine g_iconst (v := (5 : Int32)) X107 hx (hb hby at_335) (by decide) rfl ?_
    refine g_lload_n (i := 3) X107 hx (hb hby at_336) (by rfl) rfl ?_
    refine g_lastoreN X107 hx hZ e107 Ar107 5 (by decide) (by decide) (by decide) (hb hby at_337) rfl ?_
    intro T108 h108 X108 e108 W108 Ar108
    have N108 := Fr.snoc X108 N107 gn_a102
    have B108_a87 := B107_a87.other W108 ne_a87_a102
    have B108_a89 := B107_a89.other W108 ne_a89_a102
    have Zc108 : n0 ≤ h108.size := by rw [W108.size]; exact Zc107
    refine g_dup X108 hx (hb hby at_338) rfl rfl ?_
    refine g_bipush (v := (6 : Int32)) X108 hx (hb hby at_339) (by decide) rfl ?_
    refine g_lload_n (i := 3) X108 hx (hb hby at_341) (by rfl) rfl ?_
    refine g_lastoreN X108 hx hZ e108 Ar108 6 (by decide) (by decide) (by decide) (hb hby at_342) rfl ?_
    intro T109 h109 X109 e109 W109 Ar109
    have N109 := Fr.snoc X109 N108 gn_a102
    have B109_a87 := B108_a87.other W109 ne_a87_a102
    have B109_a89 := B108_a89.other W109 ne_a89_a102
    have Zc109 : n0 ≤ h109.size := by rw [W109.size]; exact Zc108
    refine g_dup X109 hx (hb hby at_343) rfl rfl ?_
    refine g_bipush (v := (7 : Int32)) X109 hx (hb hby at_344) (by decide) rfl ?_
    refine g_lload_n (i := 3) X109 hx (hb hby at_346) (by rfl) rfl ?_
    refine g_lastoreN X109 hx hZ e109 Ar109 7 (by decide) (by decide) (by decide) (hb hby at_347) rfl ?_
    intro T110 h110 X110 e110 W110 Ar110
    have N110 := Fr.snoc X110 N109 gn_a102
    have B110_a87 := B109_a87.other W110 ne_a87_a102
    have B110_a89 := B109_a89.other W110 ne_a89_a102
    have Zc110 : n0 ≤ h110.size := by rw [W110.size]; exact Zc109
    refine g_dup X110 hx (hb hby at_348) rfl rfl ?_
    refine g_bipush (v := (8 : Int32)) X110 hx (hb hby at_349) (by decide) rfl ?_
    refine g_lload_n (i := 3) X110 hx (hb hby at_351) (by rfl) rfl ?_
    refine g_lastoreN X110 hx hZ e110 Ar110 8 (by decide) (by decide) (by decide) (hb hby at_352) rfl ?_
    intro T111 h111 X111 e111 W111 Ar111
    have N111 := Fr.snoc X111 N110 gn_a102
    have B111_a87 := B110_a87.other W111 ne_a87_a102
    have B111_a89 := B110_a89.other W111 ne_a89_a102
    have Zc111 : n0 ≤ h111.size := by rw [W111.size]; exact Zc110
    refine g_dup X111 hx (hb hby at_353) rfl rfl ?_
    refine g_bipush (v := (9 : Int32)) X111 hx (hb hby at_354) (by decide) rfl ?_
    refine g_lload_n (i := 3) X111 hx (hb hby at_356) (by rfl) rfl ?_
    refine g_lastoreN X111 hx hZ e111 Ar111 9 (by decide) (by decide) (by decide) (hb hby at_357) rfl ?_
    intro T112 h112 X112 e112 W112 Ar112
    have N112 := Fr.snoc X112 N111 gn_a102
    have B112_a87 := B111_a87.other W112 ne_a87_a102
    have B112_a89 := B111_a89.other W112 ne_a89_a102
    have Zc112 : n0 ≤ h112.size := by rw [W112.size]; exact Zc111
    refine g_dup X112 hx (hb hby at_358) rfl rfl ?_
    refine g_bipush (v := (10 : Int32)) X112 hx (hb hby at_359) (by decide) rfl ?_
    refine g_lload_n (i := 3) X112 hx (hb hby at_361) (by rfl) rfl ?_
    refine g_lastoreN X112 hx hZ e112 Ar112 10 (by decide) (by decide) (by decide) (hb hby at_362) rfl ?_
    intro T113 h113 X113 e113 W113 Ar113
    have N113 := Fr.snoc X113 N112 gn_a102
    have B113_a87 := B112_a87.other W113 ne_a87_a102
    have B113_a89 := B112_a89.other W113 ne_a89_a102
    have Zc113 : n0 ≤ h113.size := by rw [W113.size]; exact Zc112
    refine g_dup X113 hx (hb hby at_363) rfl rfl ?_
    refine g_bipush (v := (11 : Int32)) X113 hx (hb hby at_364) (by decide) rfl ?_
    refine g_lload_n (i := 3) X113 hx (hb hby at_366) (by rfl) rfl ?_
    refine g_lastoreN X113 hx hZ e113 Ar113 11 (by decide) (by decide) (by decide) (hb hby at_367) rfl ?_
    intro T114 h114 X114 e114 W114 Ar114
    have N114 := Fr.snoc X114 N113 gn_a102
    have B114_a87 := B113_a87.other W114 ne_a87_a102
    have B114_a89 := B113_a89.other W114 ne_a89_a102
    have Zc114 : n0 ≤ h114.size := by rw [W114.size]; exact Zc113
    refine g_astore (i := 15) X114 hx #[.val (.long p0), .second, .val (.int p1), .val (.long p2), .second, .val (.int p3), .val (.int p4), .val (.int (1 : Int32)), .val (.int nrow), .val (.int pad), .val (.int ofs), .val (.int (2 : Int32)), .val (.ref a87), .val (.int strd), .val (.ref a89), .val (.ref a102), .unset, .unset, .unset, .unset, .unset, .unset] (hb hby at_368) rfl rfl rfl ?_
    refine g_aload (i := 12) X114 hx (hb hby at_370) (by rfl) rfl rfl ?_
    refine g_arraylengthI X114 hx hZ e114 B114_a87 (z := (1 : Int32)) (by decide) (hb hby at_372) rfl ?_
    refine g_istore (i := 16) X114 hx #[.val (.long p0), .second, .val (.int p1), .val (.long p2), .second, .val (.int p3), .val (.int p4), .val (.int (1 : Int32)), .val (.int nrow), .val (.int pad), .val (.int ofs), .val (.int (2 : Int32)), .val (.ref a87), .val (.int strd), .val (.ref a89), .val (.ref a102), .val (.int (1 : Int32)), .unset, .unset, .unset, .unset, .unset] (hb hby at_373) rfl rfl ?_
    refine g_aload (i := 12) X114 hx (hb hby at_375) (by rfl) rfl rfl ?_
    refine g_iconst (v := (0 : Int32)) X114 hx (hb hby at_377) (by decide) rfl ?_
    refine g_iaload' X114 hx hZ e114 B114_a87 (by decide) (by decide) (x := (2 : Int32)) rfl (hb hby at_378) rfl ?_
    refine g_istore (i := 17) X114 hx #[.val (.long p0), .second, .val (.int p1), .val (.long p2), .second, .val (.int p3), .val (.int p4), .val (.int (1 : Int32)), .val (.int nrow), .val (.int pad), .val (.int ofs), .val (.int (2 : Int32)), .val (.ref a87), .val (.int strd), .val (.ref a89), .val (.ref a102), .val (.int (1 : Int32)), .val (.int (2 : Int32)), .unset, .unset, .unset, .unset] (hb hby at_379) rfl rfl ?_
    refine g_iload (i := 16) X114 hx (hb hby at_381) (by rfl) rfl ?_
    refine g_iconst (v := (1 : Int32)) X114 hx (hb hby at_383) (by decide) rfl ?_
    refine g_icmp_le X114 hx (hb hby at_384) (by decide) (pt := 394) (by decide) rfl (fun _ => ?_) (fun q_ => absurd q_ (by decide))
    refine g_iload (i := 17) X114 hx (hb hby at_394) (by rfl) rfl ?_
    refine g_istore (i := 18) X114 hx #[.val (.long p0), .second, .val (.int p1), .val (.long p2), .second, .val (.int p3), .val (.int p4), .val (.int (1 : Int32)), .val (.int nrow), .val (.int pad), .val (.int ofs), .val (.int (2 : Int32)), .val (.ref a87), .val (.int strd), .val (.ref a89), .val (.ref a102), .val (.int (1 : Int32)), .val (.int (2 : Int32)), .val (.int (2 : Int32)), .unset, .unset, .unset] (hb hby at_396) rfl rfl ?_
    refine g_iload (i := 16) X114 hx (hb hby at_398) (by rfl) rfl ?_
    refine g_iconst (v := (2 : Int32)) X114 hx (hb hby at_400) (by decide) rfl ?_
    refine g_icmp_le X114 hx (hb hby at_401) (by decide) (pt := 411) (by decide) rfl (fun _ => ?_) (fun q_ => absurd q_ (by decide))
    refine g_iload (i := 18) X114 hx (hb hby at_411) (by rfl) rfl ?_
    refine g_istore (i := 19) X114 hx #[.val (.long p0), .second, .val (.int p1), .val (.long p2), .second, .val (.int p3), .val (.int p4), .val (.int (1 : Int32)), .val (.int nrow), .val (.int pad), .val (.int ofs), .val (.int (2 : Int32)), .val (.ref a87), .val (.int strd), .val (.ref a89), .val (.ref a102), .val (.int (1 : Int32)), .val (.int (2 : Int32)), .val (.int (2 : Int32)), .val (.int (2 : Int32)), .unset, .unset] (hb hby at_413) rfl rfl ?_
    obtain ⟨S, hS⟩ : ∃ S : Nat, strd.toInt = (S : Int) := ⟨strd.toInt.toNat, by omega⟩
    obtain ⟨f, As, hf⟩ : ∃ f, ArI Z h114 a89 .byte 12 f ∧ ∀ i, i < 12 → f i &&& 255 = own_smp p0 p1 (Int32.ofNat i) := by
      refine ⟨_, B114_a89, fun i hi => ?_⟩
      rcases own_twelve i hi with rfl | rfl | rfl | rfl | rfl | rfl | rfl | rfl | rfl | rfl | rfl | rfl
      · exact (by show _ = own_smp p0 p1 (Int32.ofNat 0); rw [show own_smp p0 p1 (Int32.ofNat 0) = (XT.ushrL p0 (0 : Int32)).toInt32 &&& 255 from if_pos (by decide), own_u0L]; exact own_nb255 _)
      · exact (by show _ = own_smp p0 p1 (Int32.ofNat 1); rw [show own_smp p0 p1 (Int32.ofNat 1) = (XT.ushrL p0 (8 : Int32)).toInt32 &&& 255 from if_pos (by decide)]; exact own_nb255 _)
      · exact (by show _ = own_smp p0 p1 (Int32.ofNat 2); rw [show own_smp p0 p1 (Int32.ofNat 2) = (XT.ushrL p0 (16 : Int32)).toInt32 &&& 255 from if_pos (by decide)]; exact own_nb255 _)
      · exact (by show _ = own_smp p0 p1 (Int32.ofNat 3); rw [show own_smp p0 p1 (Int32.ofNat 3) = (XT.ushrL p0 (24 : Int32)).toInt32 &&& 255 from if_pos (by decide)]; exact own_nb255 _)
      · exact (by show _ = own_smp p0 p1 (Int32.ofNat 4); rw [show own_smp p0 p1 (Int32.ofNat 4) = (XT.ushrL p0 (32 : Int32)).toInt32 &&& 255 from if_pos (by decide)]; exact own_nb255 _)
      · exact (by show _ = own_smp p0 p1 (Int32.ofNat 5); rw [show own_smp p0 p1 (Int32.ofNat 5) = (XT.ushrL p0 (40 : Int32)).toInt32 &&& 255 from if_pos (by decide)]; exact own_nb255 _)
      · exact (by show _ = own_smp p0 p1 (Int32.ofNat 6); rw [show own_smp p0 p1 (Int32.ofNat 6) = (XT.ushrL p0 (48 : Int32)).toInt32 &&& 255 from if_pos (by decide)]; exact own_nb255 _)
      · exact (by show _ = own_smp p0 p1 (Int32.ofNat 7); rw [show own_smp p0 p1 (Int32.ofNat 7) = (XT.ushrL p0 (56 : Int32)).toInt32 &&& 255 from if_pos (by decide)]; exact own_nb255 _)
      · exact (by show _ = own_smp p0 p1 (Int32.ofNat 8); rw [show own_smp p0 p1 (Int32.ofNat 8) = XT.ushr p1 (0 : Int32) &&& 255 from if_neg (by decide), own_u0]; exact own_nb255 _)
      · exact (by show _ = own_smp p0 p1 (Int32.ofNat 9); rw [show own_smp p0 p1 (Int32.ofNat 9) = XT.ushr p1 (8 : Int32) &&& 255 from if_neg (by decide)]; exact own_nb255 _)
      · exact (by show _ = own_smp p0 p1 (Int32.ofNat 10); rw [show own_smp p0 p1 (Int32.ofNat 10) = XT.ushr p1 (16 : Int32) &&& 255 from if_neg (by decide)]; exact own_nb255 _)
      · exact (by show _ = own_smp p0 p1 (Int32.ofNat 11); rw [show own_smp p0 p1 (Int32.ofNat 11) = XT.ushr p1 (24 : Int32) &&& 255 from if_neg (by decide)]; exact own_nb255 _)
    refine g_new X114 hx hZ hown (wd hw 4 rfl) (wd hw 5 rfl) (wd hw 6 rfl) e114 (hb hby at_415) rfl (by decide) (by decide) ?_
    intro T115 h115 a115 X115 e115 g115 Ex115 E115 D115
    have C_a87 := B114_a87.ext Ex115
    have C_a102 := Ar114.ext Ex115
    have As2 := As.ext Ex115
    refine g_dup X115 hx (hb hby at_418) rfl rfl ?_
    refine g_callI X115 hx hZ rfl hown (wd hw 7 rfl) (wd hw 8 rfl) (wd hw 6 rfl) (wd hw 9 rfl) (by decide) e115 (rm_init l Z a0 hw a115 h115) (by rw [hml]; rfl) a115 [] [(.ref a115)] rfl (lenOf pd_79 rfl) rfl (by show 1 + (1 + 11) + 12 ≤ _; decide) (by decide) (by decide) (by decide) (hb hby at_419) rfl ?_
    intro T116 v116 L116 X116 hQ116
    obtain ⟨rfl, rfl, e116⟩ := hQ116
    have N116 := Fr.app N114 (Fr.nil n0)
    show Goes p e below _ T116 (mkF m 422 #[.val (.long p0), .second, .val (.int p1), .val (.long p2), .second, .val (.int p3), .val (.int p4), .val (.int (1 : Int32)), .val (.int nrow), .val (.int pad), .val (.int ofs), .val (.int (2 : Int32)), .val (.ref a87), .val (.int strd), .val (.ref a89), .val (.ref a102), .val (.int (1 : Int32)), .val (.int (2 : Int32)), .val (.int (2 : Int32)), .val (.int (2 : Int32)), .unset, .unset] [(.ref a115)])
    refine g_aload (i := 14) X116 hx (hb hby at_422) (by rfl) rfl rfl ?_
    refine g_iload (i := 10) X116 hx (hb hby at_424) (by rfl) rfl ?_
    refine g_iload (i := 13) X116 hx (hb hby at_426) (by rfl) rfl ?_
    refine g_iload (i := 8) X116 hx (hb hby at_428) (by rfl) rfl ?_
    refine g_aload (i := 12) X116 hx (hb hby at_430) (by rfl) rfl rfl ?_
    refine g_aload (i := 15) X116 hx (hb hby at_432) (by rfl) rfl rfl ?_
    refine g_callV X116 hx hZ hown (wd hw 13 rfl) (wd hw 14 rfl) (wd hw 16 rfl) (wd hw 15 rfl) (wd hw 6 rfl) (wd hw 17 rfl) (by decide) e116 a115 E115 (rm_sum1 l Z a0 hw a115 a89 a87 a102 ofs strd nrow (2 : Int32) 2 S R f _ _ h115 n0 As2 C_a87 C_a102 ne_a87_a102 ne_a89_a102 gn_a102 hg_ofs.1 hg_ofs.2 hS (by omega) (by omega) (by omega) hR hR3 rfl (by decide) (by decide)) (by rw [hml]; rfl) [(.ref a89), (.int ofs), (.int strd), (.int nrow), (.ref a87), (.ref a102)] [] rfl (lenOf pd_80 rfl) rfl (by show 0 + (13 + 11) + 0 ≤ _; decide) (by decide) (by decide) (by decide) (hb hby at_434) rfl ?_
    intro T117 v117 L117 X117 hQ117
    obtain ⟨g', rfl, N117, Ag', ⟨w0_0, w0_1, w0_2, w0_3⟩, y4, y5, y6, y7, y8, y9, y10, y11⟩ := hQ117
    have N117 := Fr.app N116 N117
    show Goes p e below _ T117 (mkF m 437 #[.val (.long p0), .second, .val (.int p1), .val (.long p2), .second, .val (.int p3), .val (.int p4), .val (.int (1 : Int32)), .val (.int nrow), .val (.int pad), .val (.int ofs), .val (.int (2 : Int32)), .val (.ref a87), .val (.int strd), .val (.ref a89), .val (.ref a102), .val (.int (1 : Int32)), .val (.int (2 : Int32)), .val (.int (2 : Int32)), .val (.int (2 : Int32)), .unset, .unset] [(.int (1 : Int32))])
    refine g_istore (i := 20) X117 hx #[.val (.long p0), .second, .val (.int p1), .val (.long p2), .second, .val (.int p3), .val (.int p4), .val (.int (1 : Int32)), .val (.int nrow), .val (.int pad), .val (.int ofs), .val (.int (2 : Int32)), .val (.ref a87), .val (.int strd), .val (.ref a89), .val (.ref a102), .val (.int (1 : Int32)), .val (.int (2 : Int32)), .val (.int (2 : Int32)), .val (.int (2 : Int32)), .val (.int (1 : Int32)), .unset] (hb hby at_437) rfl rfl ?_
    refine g_iload (i := 20) X117 hx (hb hby at_439) (by rfl) rfl ?_
    refine g_istore (i := 21) X117 hx #[.val (.long p0), .second, .val (.int p1), .val (.long p2), .second, .val (.int p3), .val (.int p4), .val (.int (1 : Int32)), .val (.int nrow), .val (.int pad), .val (.int ofs), .val (.int (2 : Int32)), .val (.ref a87), .val (.int strd), .val (.ref a89), .val (.ref a102), .val (.int (1 : Int32)), .val (.int (2 : Int32)), .val (.int (2 : Int32)), .val (.int (2 : Int32)), .val (.int (1 : Int32)), .val (.int (1 : Int32))] (hb hby at_441) rfl rfl ?_
    refine g_iload (i := 21) X117 hx (hb hby at_443) (by rfl) rfl ?_
    refine g_if_eq X117 hx (hb hby at_445) (by decide) (pt := 482) (by decide) rfl (fun q_ => absurd q_ (by decide)) (fun _ => ?_)
    refine g_aload (i := 15) X117 hx (hb hby at_448) (by rfl) rfl rfl ?_
    refine g_iconst (v := (0 : Int32)) X117 hx (hb hby at_450) (by decide) rfl ?_
    refine g_lload_n (i := 3) X117 hx (hb hby at_451) (by rfl) rfl ?_
    refine g_iconst (v := (1 : Int32)) X117 hx (hb hby at_452) (by decide) rfl ?_
    refine g_iload (i := 8) X117 hx (hb hby at_453) (by rfl) rfl ?_
    refine g_iconst (v := (0 : Int32)) X117 hx (hb hby at_455) (by decide) rfl ?_
    refine g_iload (i := 17) X117 hx (hb hby at_456) (by rfl) rfl ?_
    refine g_lload_n (i := 0) X117 hx (hb hby at_458) (by rfl) rfl ?_
    refine g_iload_n (i := 2) X117 hx (hb hby at_459) (by rfl) rfl ?_
    refine g_iload (i := 10) X117 hx (hb hby at_460) (by rfl) rfl ?_
    refine g_iload (i := 13) X117 hx (hb hby at_462) (by rfl) rfl ?_
    refine g_iload (i := 8) X117 hx (hb hby at_464) (by rfl) rfl ?_
    refine g_iconst (v := (0 : Int32)) X117 hx (hb hby at_466) (by decide) rfl ?_
    refine g_iload (i := 17) X117 hx (hb hby at_467) (by rfl) rfl ?_
    refine g_callS X117 hx hZ hown (wd hw 19 rfl) (wd hw 20 rfl) (wd hw 21 rfl) (wd hw 22 rfl) (by decide) rfl (rm_lvl l Z a0 hw p0 p1 ofs strd nrow (0 : Int32) (2 : Int32) T117.heap) (by rw [hml]; rfl) [(.long p0), (.int p1), (.int ofs), (.int strd), (.int nrow), (.int (0 : Int32)), (.int (2 : Int32))] [(.int (2 : Int32)), (.int (0 : Int32)), (.int nrow), (.int (1 : Int32)), (.long p2), (.int (0 : Int32)), (.ref a102)] rfl (lenOf pd_81 rfl) rfl (by show 8 + (8 + 11) + 38 ≤ _; decide) (by decide) (by decide) (by decide) (hb hby at_469) rfl ?_
    intro T118 v118 L118 X118 hQ118
    obtain ⟨rfl, rfl, e118⟩ := hQ118
    have N118 := Fr.app N117 (Fr.nil n0)
    show Goes p e below _ T118 (mkF m 472 #[.val (.long p0), .second, .val (.int p1), .val (.long p2), .second, .val (.int p3), .val (.int p4), .val (.int (1 : Int32)), .val (.int nrow), .val (.int pad), .val (.int ofs), .val (.int (2 : Int32)), .val (.ref a87), .val (.int strd), .val (.ref a89), .val (.ref a102), .val (.int (1 : Int32)), .val (.int (2 : Int32)), .val (.int (2 : Int32)), .val (.int (2 : Int32)), .val (.int (1 : Int32)), .val (.int (1 : Int32))] [(.long (own_lvl p0 p1 ofs strd nrow (0 : Int32) (2 : Int32))), (.int (2 : Int32)), (.int (0 : Int32)), (.int nrow), (.int (1 : Int32)), (.long p2), (.int (0 : Int32)), (.ref a102)])
    have hl0 : own_blk f S (((2 : Int32)).toInt - ((0 : Int32)).toInt).toNat (ofs.toInt + ((0 : Int32)).toInt).toNat R 0 = (own_lvl p0 p1 ofs strd nrow (0 : Int32) (2 : Int32)) := by
      rcases hg_nrow with rfl | rfl | rfl
      · obtain rfl : R = 1 := by have := hR; rw [show (1 : Int32).toInt = 1 from rfl] at this; omega
        exact (own_lev_0_2_1 hf hg_ofs.1 hg_ofs.2 hS (by omega)).symm
      · obtain rfl : R = 2 := by have := hR; rw [show (2 : Int32).toInt = 2 from rfl] at this; omega
        exact (own_lev_0_2_2 hf hg_ofs.1 hg_ofs.2 hS (by omega)).symm
      · obtain rfl : R = 3 := by have := hR; rw [show (3 : Int32).toInt = 3 from rfl] at this; omega
        exact (own_lev_0_2_3 hf hg_ofs.1 hg_ofs.2 hS (by omega)).symm
    refine g_callS X118 hx hZ hown (wd hw 29 rfl) (wd hw 30 rfl) (wd hw 21 rfl) (wd hw 31 rfl) (by decide) e118 (rm_run1 l Z a0 hw a102 (0 : Int32) p2 nrow (0 : Int32) (2 : Int32) (own_lvl p0 p1 ofs strd nrow (0 : Int32) (2 : Int32)) g' T117.heap Ag' (by decide) w0_0 (w0_1.trans hl0) (w0_2.trans hl0) (w0_3.trans hl0)) (by rw [hml]; rfl) [(.ref a102), (.int (0 : Int32)), (.long p2), (.int (1 : Int32)), (.int nrow), (.int (0 : Int32)), (.int (2 : Int32)), (.long (own_lvl p0 p1 ofs strd nrow (0 : Int32) (2 : Int32)))] [] rfl (lenOf pd_82 rfl) rfl (by show 0 + (11 + 11) + 0 ≤ _; decide) (by decide) (by decide) (by decide) (hb hby at_472) rfl ?_
    intro T119 v119 L119 X119 hQ119
    obtain ⟨rfl, rfl, e119⟩ := hQ119
    have N119 := Fr.app N118 (Fr.nil n0)
    show Goes p e below _ T119 (mkF m 475 #[.val (.long p0), .second, .val (.int p1), .val (.long p2), .second, .val (.int p3), .val (.int p4), .val (.int (1 : Int32)), .val (.int nrow), .val (.int pad), .val (.int ofs), .val (.int (2 : Int32)), .val (.ref a87), .val (.int strd), .val (.ref a89), .val (.ref a102), .val (.int (1 : Int32)), .val (.int (2 : Int32)), .val (.int (2 : Int32)), .val (.int (2 : Int32)), .val (.int (1 : Int32)), .val (.int (1 : Int32))] [(.int (1 : Int32))])
    refine g_if_eq X119 hx (hb hby at_475) (by decide) (pt := 482) (by decide) rfl (fun q_ => absurd q_ (by decide)) (fun _ => ?_)
    refine g_iconst (v := (1 : Int32)) X119 hx (hb hby at_478) (by decide) rfl ?_
    refine g_goto X119 hx (hb hby at_479) (by decide) (by decide) (pc' := 483) ?_
    refine g_istore (i := 21) X119 hx #[.val (.long p0), .second, .val (.int p1), .val (.long p2), .second, .val (.int p3), .val (.int p4), .val (.int (1 : Int32)), .val (.int nrow), .val (.int pad), .val (.int ofs), .val (.int (2 : Int32)), .val (.ref a87), .val (.int strd), .val (.ref a89), .val (.ref a102), .val (.int (1 : Int32)), .val (.int (2 : Int32)), .val (.int (2 : Int32)), .val (.int (2 : Int32)), .val (.int (1 : Int32)), .val (.int (1 : Int32))] (hb hby at_483) rfl rfl ?_
    refine g_iload (i := 21) X119 hx (hb hby at_485) (by rfl) rfl ?_
    refine g_if_eq X119 hx (hb hby at_487) (by decide) (pt := 536) (by decide) rfl (fun q_ => absurd q_ (by decide)) (fun _ => ?_)
    refine g_aload (i := 15) X119 hx (hb hby at_490) (by rfl) rfl rfl ?_
    refine g_iconst (v := (1 : Int32)) X119 hx (hb hby at_492) (by decide) rfl ?_
    refine g_lload_n (i := 3) X119 hx (hb hby at_493) (by rfl) rfl ?_
    refine g_iload (i := 16) X119 hx (hb hby at_494) (by rfl) rfl ?_
    refine g_iconst (v := (1 : Int32)) X119 hx (hb hby at_496) (by decide) rfl ?_
    refine g_icmp_le X119 hx (hb hby at_497) (by decide) (pt := 504) (by decide) rfl (fun _ => ?_) (fun q_ => absurd q_ (by decide))
    refine g_iconst (v := (0 : Int32)) X119 hx (hb hby at_504) (by decide) rfl ?_
    refine g_iload (i := 8) X119 hx (hb hby at_505) (by rfl) rfl ?_
    refine g_iload (i := 17) X119 hx (hb hby at_507) (by rfl) rfl ?_
    refine g_iload (i := 18) X119 hx (hb hby at_509) (by rfl) rfl ?_
    refine g_lload_n (i := 0) X119 hx (hb hby at_511) (by rfl) rfl ?_
    refine g_iload_n (i := 2) X119 hx (hb hby at_512) (by rfl) rfl ?_
    refine g_iload (i := 10) X119 hx (hb hby at_513) (by rfl) rfl ?_
    refine g_iload (i := 13) X119 hx (hb hby at_515) (by rfl) rfl ?_
    refine g_iload (i := 8) X119 hx (hb hby at_517) (by rfl) rfl ?_
    refine g_iload (i := 17) X119 hx (hb hby at_519) (by rfl) rfl ?_
    refine g_iload (i := 18) X119 hx (hb hby at_521) (by rfl) rfl ?_
    refine g_callS X119 hx hZ hown (wd hw 19 rfl) (wd hw 20 rfl) (wd hw 21 rfl) (wd hw 22 rfl) (by decide) e119 (rm_lvl l Z a0 hw p0 p1 ofs strd nrow (2 : Int32) (2 : Int32) T117.heap) (by rw [hml]; rfl) [(.long p0), (.int p1), (.int ofs), (.int strd), (.int nrow), (.int (2 : Int32)), (.int (2 : Int32))] [(.int (2 : Int32)), (.int (2 : Int32)), (.int nrow), (.int (0 : Int32)), (.long p2), (.int (1 : Int32)), (.ref a102)] rfl (lenOf pd_81 rfl) rfl (by show 8 + (8 + 11) + 38 ≤ _; decide) (by decide) (by decide) (by decide) (hb hby at_523) rfl ?_
    intro T120 v120 L120 X120 hQ120
    obtain ⟨rfl, rfl, e120⟩ := hQ120
    have N120 := Fr.app N119 (Fr.nil n0)
    show Goes p e below _ T120 (mkF m 526 #[.val (.long p0), .second, .val (.int p1), .val (.long p2), .second, .val (.int p3), .val (.int p4), .val (.int (1 : Int32)), .val (.int nrow), .val (.int pad), .val (.int ofs), .val (.int (2 : Int32)), .val (.ref a87), .val (.int strd), .val (.ref a89), .val (.ref a102), .val (.int (1 : Int32)), .val (.int (2 : Int32)), .val (.int (2 : Int32)), .val (.int (2 : Int32)), .val (.int (1 : Int32)), .val (.int (1 : Int32))] [(.long (own_lvl p0 p1 ofs strd nrow (2 : Int32) (2 : Int32))), (.int (2 : Int32)), (.int (2 : Int32)), (.int nrow), (.int (0 : Int32)), (.long p2), (.int (1 : Int32)), (.ref a102)])
    refine g_callS X120 hx hZ hown (wd hw 29 rfl) (wd hw 30 rfl) (wd hw 21 rfl) (wd hw 31 rfl) (by decide) e120 (rm_run0 l Z a0 hw a102 (1 : Int32) p2 nrow (2 : Int32) (2 : Int32) (own_lvl p0 p1 ofs strd nrow (2 : Int32) (2 : Int32)) g' T117.heap Ag' (by decide) y4 y5 y6 y7) (by rw [hml]; rfl) [(.ref a102), (.int (1 : Int32)), (.long p2), (.int (0 : Int32)), (.int nrow), (.int (2 : Int32)), (.int (2 : Int32)), (.long (own_lvl p0 p1 ofs strd nrow (2 : Int32) (2 : Int32)))] [] rfl (lenOf pd_82 rfl) rfl (by show 0 + (11 + 11) + 0 ≤ _; decide) (by decide) (by decide) (by decide) (hb hby at_526) rfl ?_
    intro T121 v121 L121 X121 hQ121
    obtain ⟨rfl, rfl, e121⟩ := hQ121
    have N121 := Fr.app N120 (Fr.nil n0)
    show Goes p e below _ T121 (mkF m 529 #[.val (.long p0), .second, .val (.int p1), .val (.long p2), .second, .val (.int p3), .val (.int p4), .val (.int (1 : Int32)), .val (.int nrow), .val (.int pad), .val (.int ofs), .val (.int (2 : Int32)), .val (.ref a87), .val (.int strd), .val (.ref a89), .val (.ref a102), .val (.int (1 : Int32)), .val (.int (2 : Int32)), .val (.int (2 : Int32)), .val (.int (2 : Int32)), .val (.int (1 : Int32)), .val (.int (1 : Int32))] [(.int (1 : Int32))])
    refine g_if_eq X121 hx (hb hby at_529) (by decide) (pt := 536) (by decide) rfl (fun q_ => absurd q_ (by decide)) (fun _ => ?_)
    refine g_iconst (v := (1 : Int32)) X121 hx (hb hby at_532) (by decide) rfl ?_
    refine g_goto X121 hx (hb hby at_533) (by decide) (by decide) (pc' := 537) ?_
    refine g_istore (i := 21) X121 hx #[.val (.long p0), .second, .val (.int p1), .val (.long p2), .second, .val (.int p3), .val (.int p4), .val (.int (1 : Int32)), .val (.int nrow), .val (.int pad), .val (.int ofs), .val (.int (2 : Int32)), .val (.ref a87), .val (.int strd), .val (.ref a89), .val (.ref a102), .val (.int (1 : Int32)), .val (.int (2 : Int32)), .val (.int (2 : Int32)), .val (.int (2 : Int32)), .val (.int (1 : Int32)), .val (.int (1 : Int32))] (hb hby at_537) rfl rfl ?_
    refine g_iload (i := 21) X121 hx (hb hby at_539) (by rfl) rfl ?_
    refine g_if_eq X121 hx (hb hby at_541) (by decide) (pt := 590) (by decide) rfl (fun q_ => absurd q_ (by decide)) (fun _ => ?_)
    refine g_aload (i := 15) X121 hx (hb hby at_544) (by rfl) rfl rfl ?_
    refine g_iconst (v := (2 : Int32)) X121 hx (hb hby at_546) (by decide) rfl ?_
    refine g_lload_n (i := 3) X121 hx (hb hby at_547) (by rfl) rfl ?_
    refine g_iload (i := 16) X121 hx (hb hby at_548) (by rfl) rfl ?_
    refine g_iconst (v := (2 : Int32)) X121 hx (hb hby at_550) (by decide) rfl ?_
    refine g_icmp_le X121 hx (hb hby at_551) (by decide) (pt := 558) (by decide) rfl (fun _ => ?_) (fun q_ => absurd q_ (by decide))
    refine g_iconst (v := (0 : Int32)) X121 hx (hb hby at_558) (by decide) rfl ?_
    refine g_iload (i := 8) X121 hx (hb hby at_559) (by rfl) rfl ?_
    refine g_iload (i := 18) X121 hx (hb hby at_561) (by rfl) rfl ?_
    refine g_iload (i := 19) X121 hx (hb hby at_563) (by rfl) rfl ?_
    refine g_lload_n (i := 0) X121 hx (hb hby at_565) (by rfl) rfl ?_
    refine g_iload_n (i := 2) X121 hx (hb hby at_566) (by rfl) rfl ?_
    refine g_iload (i := 10) X121 hx (hb hby at_567) (by rfl) rfl ?_
    refine g_iload (i := 13) X121 hx (hb hby at_569) (by rfl) rfl ?_
    refine g_iload (i := 8) X121 hx (hb hby at_571) (by rfl) rfl ?_
    refine g_iload (i := 18) X121 hx (hb hby at_573) (by rfl) rfl ?_
    refine g_iload (i := 19) X121 hx (hb hby at_575) (by rfl) rfl ?_
    refine g_callS X121 hx hZ hown (wd hw 19 rfl) (wd hw 20 rfl) (wd hw 21 rfl) (wd hw 22 rfl) (by decide) e121 (rm_lvl l Z a0 hw p0 p1 ofs strd nrow (2 : Int32) (2 : Int32) T117.heap) (by rw [hml]; rfl) [(.long p0), (.int p1), (.int ofs), (.int strd), (.int nrow), (.int (2 : Int32)), (.int (2 : Int32))] [(.int (2 : Int32)), (.int (2 : Int32)), (.int nrow), (.int (0 : Int32)), (.long p2), (.int (2 : Int32)), (.ref a102)] rfl (lenOf pd_81 rfl) rfl (by show 8 + (8 + 11) + 38 ≤ _; decide) (by decide) (by decide) (by decide) (hb hby at_577) rfl ?_
    intro T122 v122 L122 X122 hQ122
    obtain ⟨rfl, rfl, e122⟩ := hQ122
    have N122 := Fr.app N121 (Fr.nil n0)
    show Goes p e below _ T122 (mkF m 580 #[.val (.long p0), .second, .val (.int p1), .val (.long p2), .second, .val (.int p3), .val (.int p4), .val (.int (1 : Int32)), .val (.int nrow), .val (.int pad), .val (.int ofs), .val (.int (2 : Int32)), .val (.ref a87), .val (.int strd), .val (.ref a89), .val (.ref a102), .val (.int (1 : Int32)), .val (.int (2 : Int32)), .val (.int (2 : Int32)), .val (.int (2 : Int32)), .val (.int (1 : Int32)), .val (.int (1 : Int32))] [(.long (own_lvl p0 p1 ofs strd nrow (2 : Int32) (2 : Int32))), (.int (2 : Int32)), (.int (2 : Int32)), (.int nrow), (.int (0 : Int32)), (.long p2), (.int (2 : Int32)), (.ref a102)])
    refine g_callS X122 hx hZ hown (wd hw 29 rfl) (wd hw 30 rfl) (wd hw 21 rfl) (wd hw 31 rfl) (by decide) e122 (rm_run0 l Z a0 hw a102 (2 : Int32) p2 nrow (2 : Int32) (2 : Int32) (own_lvl p0 p1 ofs strd nrow (2 : Int32) (2 : Int32)) g' T117.heap Ag' (by decide) y8 y9 y10 y11) (by rw [hml]; rfl) [(.ref a102), (.int (2 : Int32)), (.long p2), (.int (0 : Int32)), (.int nrow), (.int (2 : Int32)), (.int (2 : Int32)), (.long (own_lvl p0 p1 ofs strd nrow (2 : Int32) (2 : Int32)))] [] rfl (lenOf pd_82 rfl) rfl (by show 0 + (11 + 11) + 0 ≤ _; decide) (by decide) (by decide) (by decide) (hb hby at_580) rfl ?_
    intro T123 v123 L123 X123 hQ123
    obtain ⟨rfl, rfl, e123⟩ := hQ123
    have N123 := Fr.app N122 (Fr.nil n0)
    show Goes p e below _ T123 (mkF m 583 #[.val (.long p0), .second, .val (.int p1), .val (.long p2), .second, .val (.int p3), .val (.int p4), .val (.int (1 : Int32)), .val (.int nrow), .val (.int pad), .val (.int ofs), .val (.int (2 : Int32)), .val (.ref a87), .val (.int strd), .val (.ref a89), .val (.ref a102), .val (.int (1 : Int32)), .val (.int (2 : Int32)), .val (.int (2 : Int32)), .val (.int (2 : Int32)), .val (.int (1 : Int32)), .val (.int (1 : Int32))] [(.int (1 : Int32))])
    refine g_if_eq X123 hx (hb hby at_583) (by decide) (pt := 590) (by decide) rfl (fun q_ => absurd q_ (by decide)) (fun _ => ?_)
    refine g_iconst (v := (1 : Int32)) X123 hx (hb hby at_586) (by decide) rfl ?_
    refine g_goto X123 hx (hb hby at_587) (by decide) (by decide) (pc' := 591) ?_
    refine g_istore (i := 21) X123 hx #[.val (.long p0), .second, .val (.int p1), .val (.long p2), .second, .val (.int p3), .val (.int p4), .val (.int (1 : Int32)), .val (.int nrow), .val (.int pad), .val (.int ofs), .val (.int (2 : Int32)), .val (.ref a87), .val (.int strd), .val (.ref a89), .val (.ref a102), .val (.int (1 : Int32)), .val (.int (2 : Int32)), .val (.int (2 : Int32)), .val (.int (2 : Int32)), .val (.int (1 : Int32)), .val (.int (1 : Int32))] (hb hby at_591) rfl rfl ?_
    refine g_iload (i := 21) X123 hx (hb hby at_593) (by rfl) rfl ?_
    exact g_retN X123 hx (t := .boolean) (by simp) hlk hret e123 (by decide) (by decide) (hb hby at_595) ⟨rfl, N123⟩
  · have Zc := Z0
    refine g_iload (i := 7) X0 hx (hb hby at_36) (by rfl) rfl ?_
    refine g_if_ne X0 hx (hb hby at_38) (by decide) (pt := 56) (by decide) rfl (fun _ => ?_) (fun q_ => absurd q_ (by decide))
    refine g_iload (i := 7) X0 hx (hb hby at_56) (by rfl) rfl ?_
    refine g_iconst (v := (1 : Int32)) X0 hx (hb hby at_58) (by decide) rfl ?_
    refine g_icmp_ne X0 hx (hb hby at_59) (by decide) (pt := 77) (by decide) rfl (fun _ => ?_) (fun q_ => absurd q_ (by decide))
    refine g_iload (i := 7) X0 hx (hb hby at_77) (by rfl) rfl ?_
    refine g_iconst (v := (2 : Int32)) X0 hx (hb hby at_79) (by decide) rfl ?_
    refine g_icmp_ne X0 hx (hb hby at_80) (by decide) (pt := 102) (by decide) rfl (fun q_ => absurd (by decide) q_) (fun _ => ?_)
    refine g_iconst (v := (2 : Int32)) X0 hx (hb hby at_83) (by decide) rfl ?_
    refine g_istore (i := 11) X0 hx #[.val (.long p0), .second, .val (.int p1), .val (.long p2), .second, .val (.int p3), .val (.int p4), .val (.int (2 : Int32)), .val (.int nrow), .val (.int pad), .val (.int ofs), .val (.int (2 : Int32)), .unset, .unset, .unset, .unset, .unset, .unset, .unset, .unset, .unset, .unset] (hb hby at_84) rfl rfl ?_
    refine g_iconst (v := (2 : Int32)) X0 hx (hb hby at_86) (by decide) rfl ?_
    refine g_newarr X0 hx hZ (ty := .int) rfl (wd hw 1 rfl) e0 (hb hby at_87) rfl (by decide) 2 (by decide) (by decide) (by decide) (by decide) ?_
    intro T124 h124 cA124 a124 X124 e124 g124 Ex124 A124
    have gn_a124 : n0 ≤ a124 := by rw [g124]; exact Zc
    have Zc124 : n0 ≤ h124.size := Nat.le_trans Zc Ex124.1
    have Ar124 : ArI Z h124 a124 .int 2 (fun _ => 0) := ArI.new A124 0 rfl
    refine g_dup X124 hx (hb hby at_89) rfl rfl ?_
    refine g_iconst (v := (0 : Int32)) X124 hx (hb hby at_90) (by decide) rfl ?_
    refine g_iconst (v := (1 : Int32)) X124 hx (hb hby at_91) (by decide) rfl ?_
    refine g_iastoreN X124 hx hZ e124 Ar124 0 (by decide) (by decide) (by decide) (hb hby at_92) rfl ?_
    intro T125 h125 X125 e125 W125 Ar125
    have N125 := Fr.snoc X125 (Fr.nil n0) gn_a124
    have Zc125 : n0 ≤ h125.size := by rw [W125.size]; exact Zc124
    refine g_dup X125 hx (hb hby at_93) rfl rfl ?_
    refine g_iconst (v := (1 : Int32)) X125 hx (hb hby at_94) (by decide) rfl ?_
    refine g_iconst (v := (2 : Int32)) X125 hx (hb hby at_95) (by decide) rfl ?_
    refine g_iastoreN X125 hx hZ e125 Ar125 1 (by decide) (by decide) (by decide) (hb hby at_96) rfl ?_
    intro T126 h126 X126 e126 W126 Ar126
    have N126 := Fr.snoc X126 N125 gn_a124
    have Zc126 : n0 ≤ h126.size := by rw [W126.size]; exact Zc125
    refine g_astore (i := 12) X126 hx #[.val (.long p0), .second, .val (.int p1), .val (.long p2), .second, .val (.int p3), .val (.int p4), .val (.int (2 : Int32)), .val (.int nrow), .val (.int pad), .val (.int ofs), .val (.int (2 : Int32)), .val (.ref a124), .unset, .unset, .unset, .unset, .unset, .unset, .unset, .unset, .unset] (hb hby at_97) rfl rfl rfl ?_
    refine g_goto X126 hx (hb hby at_99) (by decide) (by decide) (pc' := 193) ?_
    refine g_iload (i := 11) X126 hx (hb hby at_193) (by rfl) rfl ?_
    refine g_iload (i := 9) X126 hx (hb hby at_195) (by rfl) rfl ?_
    refine g_iadd X126 hx (hb hby at_197) rfl ?_
    refine g_istore (i := 13) X126 hx #[.val (.long p0), .second, .val (.int p1), .val (.long p2), .second, .val (.int p3), .val (.int p4), .val (.int (2 : Int32)), .val (.int nrow), .val (.int pad), .val (.int ofs), .val (.int (2 : Int32)), .val (.ref a124), .val (.int ((2 : Int32) + pad)), .unset, .unset, .unset, .unset, .unset, .unset, .unset, .unset] (hb hby at_198) rfl rfl ?_
    have hst : (((2 : Int32) + pad)).toInt = 2 + pad.toInt := by have e := c_iadd (2 : Int32) pad; have r := rng32 (((2 : Int32) + pad)); rw [show ((2 : Int32)).toInt = 2 from rfl] at e; omega
    revert hst
    generalize ((2 : Int32) + pad) = strd
    intro hst
    refine g_bipush (v := (12 : Int32)) X126 hx (hb hby at_200) (by decide) rfl ?_
    refine g_newarr X126 hx hZ (ty := .byte) rfl (wd hw 2 rfl) e126 (hb hby at_202) rfl (by decide) 12 (by decide) (by decide) (by decide) (by decide) ?_
    intro T127 h127 cA127 a127 X127 e127 g127 Ex127 A127
    have ne_a124_a127 : a124 ≠ a127 := fun q => absurd Ar126.lt (by rw [q, g127]; exact Nat.lt_irrefl _)
    have B127_a124 := Ar126.ext Ex127
    have gn_a127 : n0 ≤ a127 := by rw [g127]; exact Zc126
    have Zc127 : n0 ≤ h127.size := Nat.le_trans Zc126 Ex127.1
    have Ar127 : ArI Z h127 a127 .byte 12 (fun _ => 0) := ArI.new A127 0 rfl
    refine g_dup X127 hx (hb hby at_204) rfl rfl ?_
    refine g_iconst (v := (0 : Int32)) X127 hx (hb hby at_205) (by decide) rfl ?_
    refine g_lload_n (i := 0) X127 hx (hb hby at_206) (by rfl) rfl ?_
    refine g_l2i X127 hx (hb hby at_207) rfl ?_
    refine g_i2b X127 hx (hb hby at_208) rfl ?_
    refine g_bastoreN X127 hx hZ e127 Ar127 0 (by decide) (by decide) (by decide) (hb hby at_209) rfl ?_
    intro T128 h128 X128 e128 W128 Ar128
    have N128 := Fr.snoc X128 N126 gn_a127
    have B128_a124 := B127_a124.other W128 ne_a124_a127
    have Zc128 : n0 ≤ h128.size := by rw [W128.size]; exact Zc127
    refine g_dup X128 hx (hb hby at_210) rfl rfl ?_
    refine g_iconst (v := (1 : Int32)) X128 hx (hb hby at_211) (by decide) rfl ?_
    refine g_lload_n (i := 0) X128 hx (hb hby at_212) (by rfl) rfl ?_
    refine g_bipush (v := (8 : Int32)) X128 hx (hb hby at_213) (by decide) rfl ?_
    refine g_lushr X128 hx (hb hby at_215) rfl ?_
    refine g_l2i X128 hx (hb hby at_216) rfl ?_
    refine g_i2b X128 hx (hb hby at_217) rfl ?_
    refine g_bastoreN X128 hx hZ e128 Ar128 1 (by decide) (by decide) (by decide) (hb hby at_218) rfl ?_
    intro T129 h129 X129 e129 W129 Ar129
    have N129 := Fr.snoc X129 N128 gn_a127
    have B129_a124 := B128_a124.other W129 ne_a124_a127
    have Zc129 : n0 ≤ h129.size := by rw [W129.size]; exact Zc128
    refine g_dup X129 hx (hb hby at_219) rfl rfl ?_
    refine g_iconst (v := (2 : Int32)) X129 hx (hb hby at_220) (by decide) rfl ?_
    refine g_lload_n (i := 0) X129 hx (hb hby at_221) (by rfl) rfl ?_
    refine g_bipush (v := (16 : Int32)) X129 hx (hb hby at_222) (by decide) rfl ?_
    refine g_lushr X129 hx (hb hby at_224) rfl ?_
    refine g_l2i X129 hx (hb hby at_225) rfl ?_
    refine g_i2b X129 hx (hb hby at_226) rfl ?_
    refine g_bastoreN X129 hx hZ e129 Ar129 2 (by decide) (by decide) (by decide) (hb hby at_227) rfl ?_
    intro T130 h130 X130 e130 W130 Ar130
    have N130 := Fr.snoc X130 N129 gn_a127
    have B130_a124 := B129_a124.other W130 ne_a124_a127
    have Zc130 : n0 ≤ h130.size := by rw [W130.size]; exact Zc129
    refine g_dup X130 hx (hb hby at_228) rfl rfl ?_
    refine g_iconst (v := (3 : Int32)) X130 hx (hb hby at_229) (by decide) rfl ?_
    refine g_lload_n (i := 0) X130 hx (hb hby at_230) (by rfl) rfl ?_
    refine g_bipush (v := (24 : Int32)) X130 hx (hb hby at_231) (by decide) rfl ?_
    refine g_lushr X130 hx (hb hby at_233) rfl ?_
    refine g_l2i X130 hx (hb hby at_234) rfl ?_
    refine g_i2b X130 hx (hb hby at_235) rfl ?_
    refine g_bastoreN X130 hx hZ e130 Ar130 3 (by decide) (by decide) (by decide) (hb hby at_236) rfl ?_
    intro T131 h131 X131 e131 W131 Ar131
    have N131 := Fr.snoc X131 N130 gn_a127
    have B131_a124 := B130_a124.other W131 ne_a124_a127
    have Zc131 : n0 ≤ h131.size := by rw [W131.size]; exact Zc130
    refine g_dup X131 hx (hb hby at_237) rfl rfl ?_
    refine g_iconst (v := (4 : Int32)) X131 hx (hb hby at_238) (by decide) rfl ?_
    refine g_lload_n (i := 0) X131 hx (hb hby at_239) (by rfl) rfl ?_
    refine g_bipush (v := (32 : Int32)) X131 hx (hb hby at_240) (by decide) rfl ?_
    refine g_lushr X131 hx (hb hby at_242) rfl ?_
    refine g_l2i X131 hx (hb hby at_243) rfl ?_
    refine g_i2b X131 hx (hb hby at_244) rfl ?_
    refine g_bastoreN X131 hx hZ e131 Ar131 4 (by decide) (by decide) (by decide) (hb hby at_245) rfl ?_
    intro T132 h132 X132 e132 W132 Ar132
    have N132 := Fr.snoc X132 N131 gn_a127
    have B132_a124 := B131_a124.other W132 ne_a124_a127
    have Zc132 : n0 ≤ h132.size := by rw [W132.size]; exact Zc131
    refine g_dup X132 hx (hb hby at_246) rfl rfl ?_
    refine g_iconst (v := (5 : Int32)) X132 hx (hb hby at_247) (by decide) rfl ?_
    refine g_lload_n (i := 0) X132 hx (hb hby at_248) (by rfl) rfl ?_
    refine g_bipush (v := (40 : Int32)) X132 hx (hb hby at_249) (by decide) rfl ?_
    refine g_lushr X132 hx (hb hby at_251) rfl ?_
    refine g_l2i X132 hx (hb hby at_252) rfl ?_
    refine g_i2b X132 hx (hb hby at_253) rfl ?_
    refine g_bastoreN X132 hx hZ e132 Ar132 5 (by decide) (by decide) (by decide) (hb hby at_254) rfl ?_
    intro T133 h133 X133 e133 W133 Ar133
    have N133 := Fr.snoc X133 N132 gn_a127
    have B133_a124 := B132_a124.other W133 ne_a124_a127
    have Zc133 : n0 ≤ h133.size := by rw [W133.size]; exact Zc132
    refine g_dup X133 hx (hb hby at_255) rfl rfl ?_
    refine g_bipush (v := (6 : Int32)) X133 hx (hb hby at_256) (by decide) rfl ?_
    refine g_lload_n (i := 0) X133 hx (hb hby at_258) (by rfl) rfl ?_
    refine g_bipush (v := (48 : Int32)) X133 hx (hb hby at_259) (by decide) rfl ?_
    refine g_lushr X133 hx (hb hby at_261) rfl ?_
    refine g_l2i X133 hx (hb hby at_262) rfl ?_
    refine g_i2b X133 hx (hb hby at_263) rfl ?_
    refine g_bastoreN X133 hx hZ e133 Ar133 6 (by decide) (by decide) (by decide) (hb hby at_264) rfl ?_
    intro T134 h134 X134 e134 W134 Ar134
    have N134 := Fr.snoc X134 N133 gn_a127
    have B134_a124 := B133_a124.other W134 ne_a124_a127
    have Zc134 : n0 ≤ h134.size := by rw [W134.size]; exact Zc133
    refine g_dup X134 hx (hb hby at_265) rfl rfl ?_
    refine g_bipush (v := (7 : Int32)) X134 hx (hb hby at_266) (by decide) rfl ?_
    refine g_lload_n (i := 0) X134 hx (hb hby at_268) (by rfl) rfl ?_
    refine g_bipush (v := (56 : Int32)) X134 hx (hb hby at_269) (by decide) rfl ?_
    refine g_lushr X134 hx (hb hby at_271) rfl ?_
    refine g_l2i X134 hx (hb hby at_272) rfl ?_
    refine g_i2b X134 hx (hb hby at_273) rfl ?_
    refine g_bastoreN X134 hx hZ e134 Ar134 7 (by decide) (by decide) (by decide) (hb hby at_274) rfl ?_
    intro T135 h135 X135 e135 W135 Ar135
    have N135 := Fr.snoc X135 N134 gn_a127
    have B135_a124 := B134_a124.other W135 ne_a124_a127
    have Zc135 : n0 ≤ h135.size := by rw [W135.size]; exact Zc134
    refine g_dup X135 hx (hb hby at_275) rfl rfl ?_
    refine g_bipush (v := (8 : Int32)) X135 hx (hb hby at_276) (by decide) rfl ?_
    refine g_iload_n (i := 2) X135 hx (hb hby at_278) (by rfl) rfl ?_
    refine g_i2b X135 hx (hb hby at_279) rfl ?_
    refine g_bastoreN X135 hx hZ e135 Ar135 8 (by decide) (by decide) (by decide) (hb hby at_280) rfl ?_
    intro T136 h136 X136 e136 W136 Ar136
    have N136 := Fr.snoc X136 N135 gn_a127
    have B136_a124 := B135_a124.other W136 ne_a124_a127
    have Zc136 : n0 ≤ h136.size := by rw [W136.size]; exact Zc135
    refine g_dup X136 hx (hb hby at_281) rfl rfl ?_
    refine g_bipush (v := (9 : Int32)) X136 hx (hb hby at_282) (by decide) rfl ?_
    refine g_iload_n (i := 2) X136 hx (hb hby at_284) (by rfl) rfl ?_
    refine g_bipush (v := (8 : Int32)) X136 hx (hb hby at_285) (by decide) rfl ?_
    refine g_iushr X136 hx (hb hby at_287) rfl ?_
    refine g_i2b X136 hx (hb hby at_288) rfl ?_
    refine g_bastoreN X136 hx hZ e136 Ar136 9 (by decide) (by decide) (by decide) (hb hby at_289) rfl ?_
    intro T137 h137 X137 e137 W137 Ar137
    have N137 := Fr.snoc X137 N136 gn_a127
    have B137_a124 := B136_a124.other W137 ne_a124_a127
    have Zc137 : n0 ≤ h137.size := by rw [W137.size]; exact Zc136
    refine g_dup X137 hx (hb hby at_290) rfl rfl ?_
    refine g_bipush (v := (10 : Int32)) X137 hx (hb hby at_291) (by decide) rfl ?_
    refine g_iload_n (i := 2) X137 hx (hb hby at_293) (by rfl) rfl ?_
    refine g_bipush (v := (16 : Int32)) X137 hx (hb hby at_294) (by decide) rfl ?_
    refine g_iushr X137 hx (hb hby at_296) rfl ?_
    refine g_i2b X137 hx (hb hby at_297) rfl ?_
    refine g_bastoreN X137 hx hZ e137 Ar137 10 (by decide) (by decide) (by decide) (hb hby at_298) rfl ?_
    intro T138 h138 X138 e138 W138 Ar138
    have N138 := Fr.snoc X138 N137 gn_a127
    have B138_a124 := B137_a124.other W138 ne_a124_a127
    have Zc138 : n0 ≤ h138.size := by rw [W138.size]; exact Zc137
    refine g_dup X138 hx (hb hby at_299) rfl rfl ?_
    refine g_bipush (v := (11 : Int32)) X138 hx (hb hby at_300) (by decide) rfl ?_
    refine g_iload_n (i := 2) X138 hx (hb hby at_302) (by rfl) rfl ?_
    refine g_bipush (v := (24 : Int32)) X138 hx (hb hby at_303) (by decide) rfl ?_
    refine g_iushr X138 hx (hb hby at_305) rfl ?_
    refine g_i2b X138 hx (hb hby at_306) rfl ?_
    refine g_bastoreN X138 hx hZ e138 Ar138 11 (by decide) (by decide) (by decide) (hb hby at_307) rfl ?_
    intro T139 h139 X139 e139 W139 Ar139
    have N139 := Fr.snoc X139 N138 gn_a127
    have B139_a124 := B138_a124.other W139 ne_a124_a127
    have Zc139 : n0 ≤ h139.size := by rw [W139.size]; exact Zc138
    refine g_astore (i := 14) X139 hx #[.val (.long p0), .second, .val (.int p1), .val (.long p2), .second, .val (.int p3), .val (.int p4), .val (.int (2 : Int32)), .val (.int nrow), .val (.int pad), .val (.int ofs), .val (.int (2 : Int32)), .val (.ref a124), .val (.int strd), .val (.ref a127), .unset, .unset, .unset, .unset, .unset, .unset, .unset] (hb hby at_308) rfl rfl rfl ?_
    refine g_bipush (v := (12 : Int32)) X139 hx (hb hby at_310) (by decide) rfl ?_
    refine g_newarr X139 hx hZ (ty := .long) rfl (wd hw 3 rfl) e139 (hb hby at_312) rfl (by decide) 12 (by decide) (by decide) (by decide) (by decide) ?_
    intro T140 h140 cA140 a140 X140 e140 g140 Ex140 A140
    have ne_a124_a140 : a124 ≠ a140 := fun q => absurd B139_a124.lt (by rw [q, g140]; exact Nat.lt_irrefl _)
    have B140_a124 := B139_a124.ext Ex140
    have ne_a127_a140 : a127 ≠ a140 := fun q => absurd Ar139.lt (by rw [q, g140]; exact Nat.lt_irrefl _)
    have B140_a127 := Ar139.ext Ex140
    have gn_a140 : n0 ≤ a140 := by rw [g140]; exact Zc139
    have Zc140 : n0 ≤ h140.size := Nat.le_trans Zc139 Ex140.1
    have Ar140 : ArJ Z h140 a140 .long 12 (fun _ => 0) := ArJ.new A140 0 rfl
    refine g_dup X140 hx (hb hby at_314) rfl rfl ?_
    refine g_iconst (v := (0 : Int32)) X140 hx (hb hby at_315) (by decide) rfl ?_
    refine g_lload_n (i := 3) X140 hx (hb hby at_316) (by rfl) rfl ?_
    refine g_lastoreN X140 hx hZ e140 Ar140 0 (by decide) (by decide) (by decide) (hb hby at_317) rfl ?_
    intro T141 h141 X141 e141 W141 Ar141
    have N141 := Fr.snoc X141 N139 gn_a140
    have B141_a124 := B140_a124.other W141 ne_a124_a140
    have B141_a127 := B140_a127.other W141 ne_a127_a140
    have Zc141 : n0 ≤ h141.size := by rw [W141.size]; exact Zc140
    refine g_dup X141 hx (hb hby at_318) rfl rfl ?_
    refine g_iconst (v := (1 : Int32)) X141 hx (hb hby at_319) (by decide) rfl ?_
    refine g_lload_n (i := 3) X141 hx (hb hby at_320) (by rfl) rfl ?_
    refine g_lastoreN X141 hx hZ e141 Ar141 1 (by decide) (by decide) (by decide) (hb hby at_321) rfl ?_
    intro T142 h142 X142 e142 W142 Ar142
    have N142 := Fr.snoc X142 N141 gn_a140
    have B142_a124 := B141_a124.other W142 ne_a124_a140
    have B142_a127 := B141_a127.other W142 ne_a127_a140
    have Zc142 : n0 ≤ h142.size := by rw [W142.size]; exact Zc141
    refine g_dup X142 hx (hb hby at_322) rfl rfl ?_
    refine g_iconst (v := (2 : Int32)) X142 hx (hb hby at_323) (by decide) rfl ?_
    refine g_lload_n (i := 3) X142 hx (hb hby at_324) (by rfl) rfl ?_
    refine g_lastoreN X142 hx hZ e142 Ar142 2 (by decide) (by decide) (by decide) (hb hby at_325) rfl ?_
    intro T143 h143 X143 e143 W143 Ar143
    have N143 := Fr.snoc X143 N142 gn_a140
    have B143_a124 := B142_a124.other W143 ne_a124_a140
    have B143_a127 := B142_a127.other W143 ne_a127_a140
    have Zc143 : n0 ≤ h143.size := by rw [W143.size]; exact Zc142
    refine g_dup X143 hx (hb hby at_326) rfl rfl ?_
    refine g_iconst (v := (3 : Int32)) X143 hx (hb hby at_327) (by decide) rfl ?_
    refine g_lload_n (i := 3) X143 hx (hb hby at_328) (by rfl) rfl ?_
    refine g_lastoreN X143 hx hZ e143 Ar143 3 (by decide) (by decide) (by decide) (hb hby at_329) rfl ?_
    intro T144 h144 X144 e144 W144 Ar144
    have N144 := Fr.snoc X144 N143 gn_a140
    have B144_a124 := B143_a124.other W144 ne_a124_a140
    have B144_a127 := B143_a127.other W144 ne_a127_a140
    have Zc144 : n0 ≤ h144.size := by rw [W144.size]; exact Zc143
    refine g_dup X144 hx (hb hby at_330) rfl rfl ?_
    refine g_iconst (v := (4 : Int32)) X144 hx (hb hby at_331) (by decide) rfl ?_
    refine g_lload_n (i := 3) X144 hx (hb hby at_332) (by rfl) rfl ?_
    refine g_lastoreN X144 hx hZ e144 Ar144 4 (by decide) (by decide) (by decide) (hb hby at_333) rfl ?_
    intro T145 h145 X145 e145 W145 Ar145
    have N145 := Fr.snoc X145 N144 gn_a140
    have B145_a124 := B144_a124.other W145 ne_a124_a140
    have B145_a127 := B144_a127.other W145 ne_a127_a140
    have Zc145 : n0 ≤ h145.size := by rw [W145.size]; exact Zc144
    refine g_dup X145 hx (hb hby at_334) rfl rfl ?_
    refine g_iconst (v := (5 : Int32)) X145 hx (hb hby at_335) (by decide) rfl ?_
    refine g_lload_n (i := 3) X145 hx (hb hby at_336) (by rfl) rfl ?_
    refine g_lastoreN X145 hx hZ e145 Ar145 5 (by decide) (by decide) (by decide) (hb hby at_337) rfl ?_
    intro T146 h146 X146 e146 W146 Ar146
    have N146 := Fr.snoc X146 N145 gn_a140
    have B146_a124 := B145_a124.other W146 ne_a124_a140
    have B146_a127 := B145_a127.other W146 ne_a127_a140
    have Zc146 : n0 ≤ h146.size := by rw [W146.size]; exact Zc145
    refine g_dup X146 hx (hb hby at_338) rfl rfl ?_
    refine g_bipush (v := (6 : Int32)) X146 hx (hb hby at_339) (by decide) rfl ?_
    refine g_lload_n (i := 3) X146 hx (hb hby at_341) (by rfl) rfl ?_
    refine g_lastoreN X146 hx hZ e146 Ar146 6 (by decide) (by decide) (by decide) (hb hby at_342) rfl ?_
    intro T147 h147 X147 e147 W147 Ar147
    have N147 := Fr.snoc X147 N146 gn_a140
    have B147_a124 := B146_a124.other W147 ne_a124_a140
    have B147_a127 := B146_a127.other W147 ne_a127_a140
    have Zc147 : n0 ≤ h147.size := by rw [W147.size]; exact Zc146
    refine g_dup X147 hx (hb hby at_343) rfl rfl ?_
    refine g_bipush (v := (7 : Int32)) X147 hx (hb hby at_344) (by decide) rfl ?_
    refine g_lload_n (i := 3) X147 hx (hb hby at_346) (by rfl) rfl ?_
    refine g_lastoreN X147 hx hZ e147 Ar147 7 (by decide) (by decide) (by decide) (hb hby at_347) rfl ?_
    intro T148 h148 X148 e148 W148 Ar148
    have N148 := Fr.snoc X148 N147 gn_a140
    have B148_a124 := B147_a124.other W148 ne_a124_a140
    have B148_a127 := B147_a127.other W148 ne_a127_a140
    have Zc148 : n0 ≤ h148.size := by rw [W148.size]; exact Zc147
    refine g_dup X148 hx (hb hby at_348) rfl rfl ?_
    refine g_bipush (v := (8 : Int32)) X148 hx (hb hby at_349) (by decide) rfl ?_
    refine g_lload_n (i := 3) X148 hx (hb hby at_351) (by rfl) rfl ?_
    refine g_lastoreN X148 hx hZ e148 Ar148 8 (by decide) (by decide) (by decide) (hb hby at_352) rfl ?_
    intro T149 h149 X149 e149 W149 Ar149
    have N149 := Fr.snoc X149 N148 gn_a140
    have B149_a124 := B148_a124.other W149 ne_a124_a140
    have B149_a127 := B148_a127.other W149 ne_a127_a140
    have Zc149 : n0 ≤ h149.size := by rw [W149.size]; exact Zc148
    refine g_dup X149 hx (hb hby at_353) rfl rfl ?_
    refine g_bipush (v := (9 : Int32)) X149 hx (hb hby at_354) (by decide) rfl ?_
    refine g_lload_n (i := 3) X149 hx (hb hby at_356) (by rfl) rfl ?_
    refine g_lastoreN X149 hx hZ e149 Ar149 9 (by decide) (by decide) (by decide) (hb hby at_357) rfl ?_
    intro T150 h150 X150 e150 W150 Ar150
    have N150 := Fr.snoc X150 N149 gn_a140
    have B150_a124 := B149_a124.other W150 ne_a124_a140
    have B150_a127 := B149_a127.other W150 ne_a127_a140
    have Zc150 : n0 ≤ h150.size := by rw [W150.size]; exact Zc149
    refine g_dup X150 hx (hb hby at_358) rfl rfl ?_
    refine g_bipush (v := (10 : Int32)) X150 hx (hb hby at_359) (by decide) rfl ?_
    refine g_lload_n (i := 3) X150 hx (hb hby at_361) (by rfl) rfl ?_
    refine g_lastoreN X150 hx hZ e150 Ar150 10 (by decide) (by decide) (by decide) (hb hby at_362) rfl ?_
    intro T151 h151 X151 e151 W151 Ar151
    have N151 := Fr.snoc X151 N150 gn_a140
    have B151_a124 := B150_a124.other W151 ne_a124_a140
    have B151_a127 := B150_a127.other W151 ne_a127_a140
    have Zc151 : n0 ≤ h151.size := by rw [W151.size]; exact Zc150
    refine g_dup X151 hx (hb hby at_363) rfl rfl ?_
    refine g_bipush (v := (11 : Int32)) X151 hx (hb hby at_364) (by decide) rfl ?_
    refine g_lload_n (i := 3) X151 hx (hb hby at_366) (by rfl) rfl ?_
    refine g_lastoreN X151 hx hZ e151 Ar151 11 (by decide) (by decide) (by decide) (hb hby at_367) rfl ?_
    intro T152 h152 X152 e152 W152 Ar152
    have N152 := Fr.snoc X152 N151 gn_a140
    have B152_a124 := B151_a124.other W152 ne_a124_a140
    have B152_a127 := B151_a127.other W152 ne_a127_a140
    have Zc152 : n0 ≤ h152.size := by rw [W152.size]; exact Zc151
    refine g_astore (i := 15) X152 hx #[.val (.long p0), .second, .val (.int p1), .val (.long p2), .second, .val (.int p3), .val (.int p4), .val (.int (2 : Int32)), .val (.int nrow), .val (.int pad), .val (.int ofs), .val (.int (2 : Int32)), .val (.ref a124), .val (.int strd), .val (.ref a127), .val (.ref a140), .unset, .unset, .unset, .unset, .unset, .unset] (hb hby at_368) rfl rfl rfl ?_
    refine g_aload (i := 12) X152 hx (hb hby at_370) (by rfl) rfl rfl ?_
    refine g_arraylengthI X152 hx hZ e152 B152_a124 (z := (2 : Int32)) (by decide) (hb hby at_372) rfl ?_
    refine g_istore (i := 16) X152 hx #[.val (.long p0), .second, .val (.int p1), .val (.long p2), .second, .val (.int p3), .val (.int p4), .val (.int (2 : Int32)), .val (.int nrow), .val (.int pad), .val (.int ofs), .val (.int (2 : Int32)), .val (.ref a124), .val (.int strd), .val (.ref a127), .val (.ref a140), .val (.int (2 : Int32)), .unset, .unset, .unset, .unset, .unset] (hb hby at_373) rfl rfl ?_
    refine g_aload (i := 12) X152 hx (hb hby at_375) (by rfl) rfl rfl ?_
    refine g_iconst (v := (0 : Int32)) X152 hx (hb hby at_377) (by decide) rfl ?_
    refine g_iaload' X152 hx hZ e152 B152_a124 (by decide) (by decide) (x := (1 : Int32)) rfl (hb hby at_378) rfl ?_
    refine g_istore (i := 17) X152 hx #[.val (.long p0), .second, .val (.int p1), .val (.long p2), .second, .val (.int p3), .val (.int p4), .val (.int (2 : Int32)), .val (.int nrow), .val (.int pad), .val (.int ofs), .val (.int (2 : Int32)), .val (.ref a124), .val (.int strd), .val (.ref a127), .val (.ref a140), .val (.int (2 : Int32)), .val (.int (1 : Int32)), .unset, .unset, .unset, .unset] (hb hby at_379) rfl rfl ?_
    refine g_iload (i := 16) X152 hx (hb hby at_381) (by rfl) rfl ?_
    refine g_iconst (v := (1 : Int32)) X152 hx (hb hby at_383) (by decide) rfl ?_
    refine g_icmp_le X152 hx (hb hby at_384) (by decide) (pt := 394) (by decide) rfl (fun q_ => absurd (by decide) q_) (fun _ => ?_)
    refine g_aload (i := 12) X152 hx (hb hby at_387) (by rfl) rfl rfl ?_
    refine g_iconst (v := (1 : Int32)) X152 hx (hb hby at_389) (by decide) rfl ?_
    refine g_iaload' X152 hx hZ e152 B152_a124 (by decide) (by decide) (x := (2 : Int32)) rfl (hb hby at_390) rfl ?_
    refine g_goto X152 hx (hb hby at_391) (by decide) (by decide) (pc' := 396) ?_
    refine g_istore (i := 18) X152 hx #[.val (.long p0), .second, .val (.int p1), .val (.long p2), .second, .val (.int p3), .val (.int p4), .val (.int (2 : Int32)), .val (.int nrow), .val (.int pad), .val (.int ofs), .val (.int (2 : Int32)), .val (.ref a124), .val (.int strd), .val (.ref a127), .val (.ref a140), .val (.int (2 : Int32)), .val (.int (1 : Int32)), .val (.int (2 : Int32)), .unset, .unset, .unset] (hb hby at_396) rfl rfl ?_
    refine g_iload (i := 16) X152 hx (hb hby at_398) (by rfl) rfl ?_
    refine g_iconst (v := (2 : Int32)) X152 hx (hb hby at_400) (by decide) rfl ?_
    refine g_icmp_le X152 hx (hb hby at_401) (by decide) (pt := 411) (by decide) rfl (fun _ => ?_) (fun q_ => absurd q_ (by decide))
    refine g_iload (i := 18) X152 hx (hb hby at_411) (by rfl) rfl ?_
    refine g_istore (i := 19) X152 hx #[.val (.long p0), .second, .val (.int p1), .val (.long p2), .second, .val (.int p3), .val (.int p4), .val (.int (2 : Int32)), .val (.int nrow), .val (.int pad), .val (.int ofs), .val (.int (2 : Int32)), .val (.ref a124), .val (.int strd), .val (.ref a127), .val (.ref a140), .val (.int (2 : Int32)), .val (.int (1 : Int32)), .val (.int (2 : Int32)), .val (.int (2 : Int32)), .unset, .unset] (hb hby at_413) rfl rfl ?_
    obtain ⟨S, hS⟩ : ∃ S : Nat, strd.toInt = (S : Int) := ⟨strd.toInt.toNat, by omega⟩
    obtain ⟨f, As, hf⟩ : ∃ f, ArI Z h152 a127 .byte 12 f ∧ ∀ i, i < 12 → f i &&& 255 = own_smp p0 p1 (Int32.ofNat i) := by
      refine ⟨_, B152_a127, fun i hi => ?_⟩
      rcases own_twelve i hi with rfl | rfl | rfl | rfl | rfl | rfl | rfl | rfl | rfl | rfl | rfl | rfl
      · exact (by show _ = own_smp p0 p1 (Int32.ofNat 0); rw [show own_smp p0 p1 (Int32.ofNat 0) = (XT.ushrL p0 (0 : Int32)).toInt32 &&& 255 from if_pos (by decide), own_u0L]; exact own_nb255 _)
      · exact (by show _ = own_smp p0 p1 (Int32.ofNat 1); rw [show own_smp p0 p1 (Int32.ofNat 1) = (XT.ushrL p0 (8 : Int32)).toInt32 &&& 255 from if_pos (by decide)]; exact own_nb255 _)
      · exact (by show _ = own_smp p0 p1 (Int32.ofNat 2); rw [show own_smp p0 p1 (Int32.ofNat 2) = (XT.ushrL p0 (16 : Int32)).toInt32 &&& 255 from if_pos (by decide)]; exact own_nb255 _)
      · exact (by show _ = own_smp p0 p1 (Int32.ofNat 3); rw [show own_smp p0 p1 (Int32.ofNat 3) = (XT.ushrL p0 (24 : Int32)).toInt32 &&& 255 from if_pos (by decide)]; exact own_nb255 _)
      · exact (by show _ = own_smp p0 p1 (Int32.ofNat 4); rw [show own_smp p0 p1 (Int32.ofNat 4) = (XT.ushrL p0 (32 : Int32)).toInt32 &&& 255 from if_pos (by decide)]; exact own_nb255 _)
      · exact (by show _ = own_smp p0 p1 (Int32.ofNat 5); rw [show own_smp p0 p1 (Int32.ofNat 5) = (XT.ushrL p0 (40 : Int32)).toInt32 &&& 255 from if_pos (by decide)]; exact own_nb255 _)
      · exact (by show _ = own_smp p0 p1 (Int32.ofNat 6); rw [show own_smp p0 p1 (Int32.ofNat 6) = (XT.ushrL p0 (48 : Int32)).toInt32 &&& 255 from if_pos (by decide)]; exact own_nb255 _)
      · exact (by show _ = own_smp p0 p1 (Int32.ofNat 7); rw [show own_smp p0 p1 (Int32.ofNat 7) = (XT.ushrL p0 (56 : Int32)).toInt32 &&& 255 from if_pos (by decide)]; exact own_nb255 _)
      · exact (by show _ = own_smp p0 p1 (Int32.ofNat 8); rw [show own_smp p0 p1 (Int32.ofNat 8) = XT.ushr p1 (0 : Int32) &&& 255 from if_neg (by decide), own_u0]; exact own_nb255 _)
      · exact (by show _ = own_smp p0 p1 (Int32.ofNat 9); rw [show own_smp p0 p1 (Int32.ofNat 9) = XT.ushr p1 (8 : Int32) &&& 255 from if_neg (by decide)]; exact own_nb255 _)
      · exact (by show _ = own_smp p0 p1 (Int32.ofNat 10); rw [show own_smp p0 p1 (Int32.ofNat 10) = XT.ushr p1 (16 : Int32) &&& 255 from if_neg (by decide)]; exact own_nb255 _)
      · exact (by show _ = own_smp p0 p1 (Int32.ofNat 11); rw [show own_smp p0 p1 (Int32.ofNat 11) = XT.ushr p1 (24 : Int32) &&& 255 from if_neg (by decide)]; exact own_nb255 _)
    refine g_new X152 hx hZ hown (wd hw 4 rfl) (wd hw 5 rfl) (wd hw 6 rfl) e152 (hb hby at_415) rfl (by decide) (by decide) ?_
    intro T153 h153 a153 X153 e153 g153 Ex153 E153 D153
    have C_a124 := B152_a124.ext Ex153
    have C_a140 := Ar152.ext Ex153
    have As2 := As.ext Ex153
    refine g_dup X153 hx (hb hby at_418) rfl rfl ?_
    refine g_callI X153 hx hZ rfl hown (wd hw 7 rfl) (wd hw 8 rfl) (wd hw 6 rfl) (wd hw 9 rfl) (by decide) e153 (rm_init l Z a0 hw a153 h153) (by rw [hml]; rfl) a153 [] [(.ref a153)] rfl (lenOf pd_79 rfl) rfl (by show 1 + (1 + 11) + 12 ≤ _; decide) (by decide) (by decide) (by decide) (hb hby at_419) rfl ?_
    intro T154 v154 L154 X154 hQ154
    obtain ⟨rfl, rfl, e154⟩ := hQ154
    have N154 := Fr.app N152 (Fr.nil n0)
    show Goes p e below _ T154 (mkF m 422 #[.val (.long p0), .second, .val (.int p1), .val (.long p2), .second, .val (.int p3), .val (.int p4), .val (.int (2 : Int32)), .val (.int nrow), .val (.int pad), .val (.int ofs), .val (.int (2 : Int32)), .val (.ref a124), .val (.int strd), .val (.ref a127), .val (.ref a140), .val (.int (2 : Int32)), .val (.int (1 : Int32)), .val (.int (2 : Int32)), .val (.int (2 : Int32)), .unset, .unset] [(.ref a153)])
    refine g_aload (i := 14) X154 hx (hb hby at_422) (by rfl) rfl rfl ?_
    refine g_iload (i := 10) X154 hx (hb hby at_424) (by rfl) rfl ?_
    refine g_iload (i := 13) X154 hx (hb hby at_426) (by rfl) rfl ?_
    refine g_iload (i := 8) X154 hx (hb hby at_428) (by rfl) rfl ?_
    refine g_aload (i := 12) X154 hx (hb hby at_430) (by rfl) rfl rfl ?_
    refine g_aload (i := 15) X154 hx (hb hby at_432) (by rfl) rfl rfl ?_
    refine g_callV X154 hx hZ hown (wd hw 13 rfl) (wd hw 14 rfl) (wd hw 16 rfl) (wd hw 15 rfl) (wd hw 6 rfl) (wd hw 17 rfl) (by decide) e154 a153 E153 (rm_sum2 l Z a0 hw a153 a127 a124 a140 ofs strd nrow (1 : Int32) (2 : Int32) 2 S R f _ _ h153 n0 As2 C_a124 C_a140 ne_a124_a140 ne_a127_a140 gn_a140 hg_ofs.1 hg_ofs.2 hS (by omega) (by omega) (by omega) hR hR3 rfl (by decide) rfl (by decide) (by decide)) (by rw [hml]; rfl) [(.ref a127), (.int ofs), (.int strd), (.int nrow), (.ref a124), (.ref a140)] [] rfl (lenOf pd_80 rfl) rfl (by show 0 + (13 + 11) + 0 ≤ _; decide) (by decide) (by decide) (by decide) (hb hby at_434) rfl ?_
    intro T155 v155 L155 X155 hQ155
    obtain ⟨g', rfl, N155, Ag', ⟨w0_0, w0_1, w0_2, w0_3⟩, ⟨w1_0, w1_1, w1_2, w1_3⟩, y8, y9, y10, y11⟩ := hQ155
    have N155 := Fr.app N154 N155
    show Goes p e below _ T155 (mkF m 437 #[.val (.long p0), .second, .val (.int p1), .val (.long p2), .second, .val (.int p3), .val (.int p4), .val (.int (2 : Int32)), .val (.int nrow), .val (.int pad), .val (.int ofs), .val (.int (2 : Int32)), .val (.ref a124), .val (.int strd), .val (.ref a127), .val (.ref a140), .val (.int (2 : Int32)), .val (.int (1 : Int32)), .val (.int (2 : Int32)), .val (.int (2 : Int32)), .unset, .unset] [(.int (1 : Int32))])
    refine g_istore (i := 20) X155 hx #[.val (.long p0), .second, .val (.int p1), .val (.long p2), .second, .val (.int p3), .val (.int p4), .val (.int (2 : Int32)), .val (.int nrow), .val (.int pad), .val (.int ofs), .val (.int (2 : Int32)), .val (.ref a124), .val (.int strd), .val (.ref a127), .val (.ref a140), .val (.int (2 : Int32)), .val (.int (1 : Int32)), .val (.int (2 : Int32)), .val (.int (2 : Int32)), .val (.int (1 : Int32)), .unset] (hb hby at_437) rfl rfl ?_
    refine g_iload (i := 20) X155 hx (hb hby at_439) (by rfl) rfl ?_
    refine g_istore (i := 21) X155 hx #[.val (.long p0), .second, .val (.int p1), .val (.long p2), .second, .val (.int p3), .val (.int p4), .val (.int (2 : Int32)), .val (.int nrow), .val (.int pad), .val (.int ofs), .val (.int (2 : Int32)), .val (.ref a124), .val (.int strd), .val (.ref a127), .val (.ref a140), .val (.int (2 : Int32)), .val (.int (1 : Int32)), .val (.int (2 : Int32)), .val (.int (2 : Int32)), .val (.int (1 : Int32)), .val (.int (1 : Int32))] (hb hby at_441) rfl rfl ?_
    refine g_iload (i := 21) X155 hx (hb hby at_443) (by rfl) rfl ?_
    refine g_if_eq X155 hx (hb hby at_445) (by decide) (pt := 482) (by decide) rfl (fun q_ => absurd q_ (by decide)) (fun _ => ?_)
    refine g_aload (i := 15) X155 hx (hb hby at_448) (by rfl) rfl rfl ?_
    refine g_iconst (v := (0 : Int32)) X155 hx (hb hby at_450) (by decide) rfl ?_
    refine g_lload_n (i := 3) X155 hx (hb hby at_451) (by rfl) rfl ?_
    refine g_iconst (v := (1 : Int32)) X155 hx (hb hby at_452) (by decide) rfl ?_
    refine g_iload (i := 8) X155 hx (hb hby at_453) (by rfl) rfl ?_
    refine g_iconst (v := (0 : Int32)) X155 hx (hb hby at_455) (by decide) rfl ?_
    refine g_iload (i := 17) X155 hx (hb hby at_456) (by rfl) rfl ?_
    refine g_lload_n (i := 0) X155 hx (hb hby at_458) (by rfl) rfl ?_
    refine g_iload_n (i := 2) X155 hx (hb hby at_459) (by rfl) rfl ?_
    refine g_iload (i := 10) X155 hx (hb hby at_460) (by rfl) rfl ?_
    refine g_iload (i := 13) X155 hx (hb hby at_462) (by rfl) rfl ?_
    refine g_iload (i := 8) X155 hx (hb hby at_464) (by rfl) rfl ?_
    refine g_iconst (v := (0 : Int32)) X155 hx (hb hby at_466) (by decide) rfl ?_
    refine g_iload (i := 17) X155 hx (hb hby at_467) (by rfl) rfl ?_
    refine g_callS X155 hx hZ hown (wd hw 19 rfl) (wd hw 20 rfl) (wd hw 21 rfl) (wd hw 22 rfl) (by decide) rfl (rm_lvl l Z a0 hw p0 p1 ofs strd nrow (0 : Int32) (1 : Int32) T155.heap) (by rw [hml]; rfl) [(.long p0), (.int p1), (.int ofs), (.int strd), (.int nrow), (.int (0 : Int32)), (.int (1 : Int32))] [(.int (1 : Int32)), (.int (0 : Int32)), (.int nrow), (.int (1 : Int32)), (.long p2), (.int (0 : Int32)), (.ref a140)] rfl (lenOf pd_81 rfl) rfl (by show 8 + (8 + 11) + 38 ≤ _; decide) (by decide) (by decide) (by decide) (hb hby at_469) rfl ?_
    intro T156 v156 L156 X156 hQ156
    obtain ⟨rfl, rfl, e156⟩ := hQ156
    have N156 := Fr.app N155 (Fr.nil n0)
    show Goes p e below _ T156 (mkF m 472 #[.val (.long p0), .second, .val (.int p1), .val (.long p2), .second, .val (.int p3), .val (.int p4), .val (.int (2 : Int32)), .val (.int nrow), .val (.int pad), .val (.int ofs), .val (.int (2 : Int32)), .val (.ref a124), .val (.int strd), .val (.ref a127), .val (.ref a140), .val (.int (2 : Int32)), .val (.int (1 : Int32)), .val (.int (2 : Int32)), .val (.int (2 : Int32)), .val (.int (1 : Int32)), .val (.int (1 : Int32))] [(.long (own_lvl p0 p1 ofs strd nrow (0 : Int32) (1 : Int32))), (.int (1 : Int32)), (.int (0 : Int32)), (.int nrow), (.int (1 : Int32)), (.long p2), (.int (0 : Int32)), (.ref a140)])
    have hl0 : own_blk f S (((1 : Int32)).toInt - ((0 : Int32)).toInt).toNat (ofs.toInt + ((0 : Int32)).toInt).toNat R 0 = (own_lvl p0 p1 ofs strd nrow (0 : Int32) (1 : Int32)) := by
      rcases hg_nrow with rfl | rfl | rfl
      · obtain rfl : R = 1 := by have := hR; rw [show (1 : Int32).toInt = 1 from rfl] at this; omega
        exact (own_lev_0_1_1 hf hg_ofs.1 hg_ofs.2 hS (by omega)).symm
      · obtain rfl : R = 2 := by have := hR; rw [show (2 : Int32).toInt = 2 from rfl] at this; omega
        exact (own_lev_0_1_2 hf hg_ofs.1 hg_ofs.2 hS (by omega)).symm
      · obtain rfl : R = 3 := by have := hR; rw [show (3 : Int32).toInt = 3 from rfl] at this; omega
        exact (own_lev_0_1_3 hf hg_ofs.1 hg_ofs.2 hS (by omega)).symm
    refine g_callS X156 hx hZ hown (wd hw 29 rfl) (wd hw 30 rfl) (wd hw 21 rfl) (wd hw 31 rfl) (by decide) e156 (rm_run1 l Z a0 hw a140 (0 : Int32) p2 nrow (0 : Int32) (1 : Int32) (own_lvl p0 p1 ofs strd nrow (0 : Int32) (1 : Int32)) g' T155.heap Ag' (by decide) w0_0 (w0_1.trans hl0) (w0_2.trans hl0) (w0_3.trans hl0)) (by rw [hml]; rfl) [(.ref a140), (.int (0 : Int32)), (.long p2), (.int (1 : Int32)), (.int nrow), (.int (0 : Int32)), (.int (1 : Int32)), (.long (own_lvl p0 p1 ofs strd nrow (0 : Int32) (1 : Int32)))] [] rfl (lenOf pd_82 rfl) rfl (by show 0 + (11 + 11) + 0 ≤ _; decide) (by decide) (by decide) (by decide) (hb hby at_472) rfl ?_
    intro T157 v157 L157 X157 hQ157
    obtain ⟨rfl, rfl, e157⟩ := hQ157
    have N157 := Fr.app N156 (Fr.nil n0)
    show Goes p e below _ T157 (mkF m 475 #[.val (.long p0), .second, .val (.int p1), .val (.long p2), .second, .val (.int p3), .val (.int p4), .val (.int (2 : Int32)), .val (.int nrow), .val (.int pad), .val (.int ofs), .val (.int (2 : Int32)), .val (.ref a124), .val (.int strd), .val (.ref a127), .val (.ref a140), .val (.int (2 : Int32)), .val (.int (1 : Int32)), .val (.int (2 : Int32)), .val (.int (2 : Int32)), .val (.int (1 : Int32)), .val (.int (1 : Int32))] [(.int (1 : Int32))])
    refine g_if_eq X157 hx (hb hby at_475) (by decide) (pt := 482) (by decide) rfl (fun q_ => absurd q_ (by decide)) (fun _ => ?_)
    refine g_iconst (v := (1 : Int32)) X157 hx (hb hby at_478) (by decide) rfl ?_
    refine g_goto X157 hx (hb hby at_479) (by decide) (by decide) (pc' := 483) ?_
    refine g_istore (i := 21) X157 hx #[.val (.long p0), .second, .val (.int p1), .val (.long p2), .second, .val (.int p3), .val (.int p4), .val (.int (2 : Int32)), .val (.int nrow), .val (.int pad), .val (.int ofs), .val (.int (2 : Int32)), .val (.ref a124), .val (.int strd), .val (.ref a127), .val (.ref a140), .val (.int (2 : Int32)), .val (.int (1 : Int32)), .val (.int (2 : Int32)), .val (.int (2 : Int32)), .val (.int (1 : Int32)), .val (.int (1 : Int32))] (hb hby at_483) rfl rfl ?_
    refine g_iload (i := 21) X157 hx (hb hby at_485) (by rfl) rfl ?_
    refine g_if_eq X157 hx (hb hby at_487) (by decide) (pt := 536) (by decide) rfl (fun q_ => absurd q_ (by decide)) (fun _ => ?_)
    refine g_aload (i := 15) X157 hx (hb hby at_490) (by rfl) rfl rfl ?_
    refine g_iconst (v := (1 : Int32)) X157 hx (hb hby at_492) (by decide) rfl ?_
    refine g_lload_n (i := 3) X157 hx (hb hby at_493) (by rfl) rfl ?_
    refine g_iload (i := 16) X157 hx (hb hby at_494) (by rfl) rfl ?_
    refine g_iconst (v := (1 : Int32)) X157 hx (hb hby at_496) (by decide) rfl ?_
    refine g_icmp_le X157 hx (hb hby at_497) (by decide) (pt := 504) (by decide) rfl (fun q_ => absurd (by decide) q_) (fun _ => ?_)
    refine g_iconst (v := (1 : Int32)) X157 hx (hb hby at_500) (by decide) rfl ?_
    refine g_goto X157 hx (hb hby at_501) (by decide) (by decide) (pc' := 505) ?_
    refine g_iload (i := 8) X157 hx (hb hby at_505) (by rfl) rfl ?_
    refine g_iload (i := 17) X157 hx (hb hby at_507) (by rfl) rfl ?_
    refine g_iload (i := 18) X157 hx (hb hby at_509) (by rfl) rfl ?_
    refine g_lload_n (i := 0) X157 hx (hb hby at_511) (by rfl) rfl ?_
    refine g_iload_n (i := 2) X157 hx (hb hby at_512) (by rfl) rfl ?_
    refine g_iload (i := 10) X157 hx (hb hby at_513) (by rfl) rfl ?_
    refine g_iload (i := 13) X157 hx (hb hby at_515) (by rfl) rfl ?_
    refine g_iload (i := 8) X157 hx (hb hby at_517) (by rfl) rfl ?_
    refine g_iload (i := 17) X157 hx (hb hby at_519) (by rfl) rfl ?_
    refine g_iload (i := 18) X157 hx (hb hby at_521) (by rfl) rfl ?_
    refine g_callS X157 hx hZ hown (wd hw 19 rfl) (wd hw 20 rfl) (wd hw 21 rfl) (wd hw 22 rfl) (by decide) e157 (rm_lvl l Z a0 hw p0 p1 ofs strd nrow (1 : Int32) (2 : Int32) T155.heap) (by rw [hml]; rfl) [(.long p0), (.int p1), (.int ofs), (.int strd), (.int nrow), (.int (1 : Int32)), (.int (2 : Int32))] [(.int (2 : Int32)), (.int (1 : Int32)), (.int nrow), (.int (1 : Int32)), (.long p2), (.int (1 : Int32)), (.ref a140)] rfl (lenOf pd_81 rfl) rfl (by show 8 + (8 + 11) + 38 ≤ _; decide) (by decide) (by decide) (by decide) (hb hby at_523) rfl ?_
    intro T158 v158 L158 X158 hQ158
    obtain ⟨rfl, rfl, e158⟩ := hQ158
    have N158 := Fr.app N157 (Fr.nil n0)
    show Goes p e below _ T158 (mkF m 526 #[.val (.long p0), .second, .val (.int p1), .val (.long p2), .second, .val (.int p3), .val (.int p4), .val (.int (2 : Int32)), .val (.int nrow), .val (.int pad), .val (.int ofs), .val (.int (2 : Int32)), .val (.ref a124), .val (.int strd), .val (.ref a127), .val (.ref a140), .val (.int (2 : Int32)), .val (.int (1 : Int32)), .val (.int (2 : Int32)), .val (.int (2 : Int32)), .val (.int (1 : Int32)), .val (.int (1 : Int32))] [(.long (own_lvl p0 p1 ofs strd nrow (1 : Int32) (2 : Int32))), (.int (2 : Int32)), (.int (1 : Int32)), (.int nrow), (.int (1 : Int32)), (.long p2), (.int (1 : Int32)), (.ref a140)])
    have hl1 : own_blk f S (((2 : Int32)).toInt - ((1 : Int32)).toInt).toNat (ofs.toInt + ((1 : Int32)).toInt).toNat R 0 = (own_lvl p0 p1 ofs strd nrow (1 : Int32) (2 : Int32)) := by
      rcases hg_nrow with rfl | rfl | rfl
      · obtain rfl : R = 1 := by have := hR; rw [show (1 : Int32).toInt = 1 from rfl] at this; omega
        exact (own_lev_1_2_1 hf hg_ofs.1 hg_ofs.2 hS (by omega)).symm
      · obtain rfl : R = 2 := by have := hR; rw [show (2 : Int32).toInt = 2 from rfl] at this; omega
        exact (own_lev_1_2_2 hf hg_ofs.1 hg_ofs.2 hS (by omega)).symm
      · obtain rfl : R = 3 := by have := hR; rw [show (3 : Int32).toInt = 3 from rfl] at this; omega
        exact (own_lev_1_2_3 hf hg_ofs.1 hg_ofs.2 hS (by omega)).symm
    refine g_callS X158 hx hZ hown (wd hw 29 rfl) (wd hw 30 rfl) (wd hw 21 rfl) (wd hw 31 rfl) (by decide) e158 (rm_run1 l Z a0 hw a140 (1 : Int32) p2 nrow (1 : Int32) (2 : Int32) (own_lvl p0 p1 ofs strd nrow (1 : Int32) (2 : Int32)) g' T155.heap Ag' (by decide) w1_0 (w1_1.trans hl1) (w1_2.trans hl1) (w1_3.trans hl1)) (by rw [hml]; rfl) [(.ref a140), (.int (1 : Int32)), (.long p2), (.int (1 : Int32)), (.int nrow), (.int (1 : Int32)), (.int (2 : Int32)), (.long (own_lvl p0 p1 ofs strd nrow (1 : Int32) (2 : Int32)))] [] rfl (lenOf pd_82 rfl) rfl (by show 0 + (11 + 11) + 0 ≤ _; decide) (by decide) (by decide) (by decide) (hb hby at_526) rfl ?_
    intro T159 v159 L159 X159 hQ159
    obtain ⟨rfl, rfl, e159⟩ := hQ159
    have N159 := Fr.app N158 (Fr.nil n0)
    show Goes p e below _ T159 (mkF m 529 #[.val (.long p0), .second, .val (.int p1), .val (.long p2), .second, .val (.int p3), .val (.int p4), .val (.int (2 : Int32)), .val (.int nrow), .val (.int pad), .val (.int ofs), .val (.int (2 : Int32)), .val (.ref a124), .val (.int strd), .val (.ref a127), .val (.ref a140), .val (.int (2 : Int32)), .val (.int (1 : Int32)), .val (.int (2 : Int32)), .val (.int (2 : Int32)), .val (.int (1 : Int32)), .val (.int (1 : Int32))] [(.int (1 : Int32))])
    refine g_if_eq X159 hx (hb hby at_529) (by decide) (pt := 536) (by decide) rfl (fun q_ => absurd q_ (by decide)) (fun _ => ?_)
    refine g_iconst (v := (1 : Int32)) X159 hx (hb hby at_532) (by decide) rfl ?_
    refine g_goto X159 hx (hb hby at_533) (by decide) (by decide) (pc' := 537) ?_
    refine g_istore (i := 21) X159 hx #[.val (.long p0), .second, .val (.int p1), .val (.long p2), .second, .val (.int p3), .val (.int p4), .val (.int (2 : Int32)), .val (.int nrow), .val (.int pad), .val (.int ofs), .val (.int (2 : Int32)), .val (.ref a124), .val (.int strd), .val (.ref a127), .val (.ref a140), .val (.int (2 : Int32)), .val (.int (1 : Int32)), .val (.int (2 : Int32)), .val (.int (2 : Int32)), .val (.int (1 : Int32)), .val (.int (1 : Int32))] (hb hby at_537) rfl rfl ?_
    refine g_iload (i := 21) X159 hx (hb hby at_539) (by rfl) rfl ?_
    refine g_if_eq X159 hx (hb hby at_541) (by decide) (pt := 590) (by decide) rfl (fun q_ => absurd q_ (by decide)) (fun _ => ?_)
    refine g_aload (i := 15) X159 hx (hb hby at_544) (by rfl) rfl rfl ?_
    refine g_iconst (v := (2 : Int32)) X159 hx (hb hby at_546) (by decide) rfl ?_
    refine g_lload_n (i := 3) X159 hx (hb hby at_547) (by rfl) rfl ?_
    refine g_iload (i := 16) X159 hx (hb hby at_548) (by rfl) rfl ?_
    refine g_iconst (v := (2 : Int32)) X159 hx (hb hby at_550) (by decide) rfl ?_
    refine g_icmp_le X159 hx (hb hby at_551) (by decide) (pt := 558) (by decide) rfl (fun _ => ?_) (fun q_ => absurd q_ (by decide))
    refine g_iconst (v := (0 : Int32)) X159 hx (hb hby at_558) (by decide) rfl ?_
    refine g_iload (i := 8) X159 hx (hb hby at_559) (by rfl) rfl ?_
    refine g_iload (i := 18) X159 hx (hb hby at_561) (by rfl) rfl ?_
    refine g_iload (i := 19) X159 hx (hb hby at_563) (by rfl) rfl ?_
    refine g_lload_n (i := 0) X159 hx (hb hby at_565) (by rfl) rfl ?_
    refine g_iload_n (i := 2) X159 hx (hb hby at_566) (by rfl) rfl ?_
    refine g_iload (i := 10) X159 hx (hb hby at_567) (by rfl) rfl ?_
    refine g_iload (i := 13) X159 hx (hb hby at_569) (by rfl) rfl ?_
    refine g_iload (i := 8) X159 hx (hb hby at_571) (by rfl) rfl ?_
    refine g_iload (i := 18) X159 hx (hb hby at_573) (by rfl) rfl ?_
    refine g_iload (i := 19) X159 hx (hb hby at_575) (by rfl) rfl ?_
    refine g_callS X159 hx hZ hown (wd hw 19 rfl) (wd hw 20 rfl) (wd hw 21 rfl) (wd hw 22 rfl) (by decide) e159 (rm_lvl l Z a0 hw p0 p1 ofs strd nrow (2 : Int32) (2 : Int32) T155.heap) (by rw [hml]; rfl) [(.long p0), (.int p1), (.int ofs), (.int strd), (.int nrow), (.int (2 : Int32)), (.int (2 : Int32))] [(.int (2 : Int32)), (.int (2 : Int32)), (.int nrow), (.int (0 : Int32)), (.long p2), (.int (2 : Int32)), (.ref a140)] rfl (lenOf pd_81 rfl) rfl (by show 8 + (8 + 11) + 38 ≤ _; decide) (by decide) (by decide) (by decide) (hb hby at_577) rfl ?_
    intro T160 v160 L160 X160 hQ160
    obtain ⟨rfl, rfl, e160⟩ := hQ160
    have N160 := Fr.app N159 (Fr.nil n0)
    show Goes p e below _ T160 (mkF m 580 #[.val (.long p0), .second, .val (.int p1), .val (.long p2), .second, .val (.int p3), .val (.int p4), .val (.int (2 : Int32)), .val (.int nrow), .val (.int pad), .val (.int ofs), .val (.int (2 : Int32)), .val (.ref a124), .val (.int strd), .val (.ref a127), .val (.ref a140), .val (.int (2 : Int32)), .val (.int (1 : Int32)), .val (.int (2 : Int32)), .val (.int (2 : Int32)), .val (.int (1 : Int32)), .val (.int (1 : Int32))] [(.long (own_lvl p0 p1 ofs strd nrow (2 : Int32) (2 : Int32))), (.int (2 : Int32)), (.int (2 : Int32)), (.int nrow), (.int (0 : Int32)), (.long p2), (.int (2 : Int32)), (.ref a140)])
    refine g_callS X160 hx hZ hown (wd hw 29 rfl) (wd hw 30 rfl) (wd hw 21 rfl) (wd hw 31 rfl) (by decide) e160 (rm_run0 l Z a0 hw a140 (2 : Int32) p2 nrow (2 : Int32) (2 : Int32) (own_lvl p0 p1 ofs strd nrow (2 : Int32) (2 : Int32)) g' T155.heap Ag' (by decide) y8 y9 y10 y11) (by rw [hml]; rfl) [(.ref a140), (.int (2 : Int32)), (.long p2), (.int (0 : Int32)), (.int nrow), (.int (2 : Int32)), (.int (2 : Int32)), (.long (own_lvl p0 p1 ofs strd nrow (2 : Int32) (2 : Int32)))] [] rfl (lenOf pd_82 rfl) rfl (by show 0 + (11 + 11) + 0 ≤ _; decide) (by decide) (by decide) (by decide) (hb hby at_580) rfl ?_
    intro T161 v161 L161 X161 hQ161
    obtain ⟨rfl, rfl, e161⟩ := hQ161
    have N161 := Fr.app N160 (Fr.nil n0)
    show Goes p e below _ T161 (mkF m 583 #[.val (.long p0), .second, .val (.int p1), .val (.long p2), .second, .val (.int p3), .val (.int p4), .val (.int (2 : Int32)), .val (.int nrow), .val (.int pad), .val (.int ofs), .val (.int (2 : Int32)), .val (.ref a124), .val (.int strd), .val (.ref a127), .val (.ref a140), .val (.int (2 : Int32)), .val (.int (1 : Int32)), .val (.int (2 : Int32)), .val (.int (2 : Int32)), .val (.int (1 : Int32)), .val (.int (1 : Int32))] [(.int (1 : Int32))])
    refine g_if_eq X161 hx (hb hby at_583) (by decide) (pt := 590) (by decide) rfl (fun q_ => absurd q_ (by decide)) (fun _ => ?_)
    refine g_iconst (v := (1 : Int32)) X161 hx (hb hby at_586) (by decide) rfl ?_
    refine g_goto X161 hx (hb hby at_587) (by decide) (by decide) (pc' := 591) ?_
    refine g_istore (i := 21) X161 hx #[.val (.long p0), .second, .val (.int p1), .val (.long p2), .second, .val (.int p3), .val (.int p4), .val (.int (2 : Int32)), .val (.int nrow), .val (.int pad), .val (.int ofs), .val (.int (2 : Int32)), .val (.ref a124), .val (.int strd), .val (.ref a127), .val (.ref a140), .val (.int (2 : Int32)), .val (.int (1 : Int32)), .val (.int (2 : Int32)), .val (.int (2 : Int32)), .val (.int (1 : Int32)), .val (.int (1 : Int32))] (hb hby at_591) rfl rfl ?_
    refine g_iload (i := 21) X161 hx (hb hby at_593) (by rfl) rfl ?_
    exact g_retN X161 hx (t := .boolean) (by simp) hlk hret e161 (by decide) (by decide) (hb hby at_595) ⟨rfl, N161⟩
  · have Zc := Z0
    refine g_iload (i := 7) X0 hx (hb hby at_36) (by rfl) rfl ?_
    refine g_if_ne X0 hx (hb hby at_38) (by decide) (pt := 56) (by decide) rfl (fun _ => ?_) (fun q_ => absurd q_ (by decide))
    refine g_iload (i := 7) X0 hx (hb hby at_56) (by rfl) rfl ?_
    refine g_iconst (v := (1 : Int32)) X0 hx (hb hby at_58) (by decide) rfl ?_
    refine g_icmp_ne X0 hx (hb hby at_59) (by decide) (pt := 77) (by decide) rfl (fun _ => ?_) (fun q_ => absurd q_ (by decide))
    refine g_iload (i := 7) X0 hx (hb hby at_77) (by rfl) rfl ?_
    refine g_iconst (v := (2 : Int32)) X0 hx (hb hby at_79) (by decide) rfl ?_
    refine g_icmp_ne X0 hx (hb hby at_80) (by decide) (pt := 102) (by decide) rfl (fun _ => ?_) (fun q_ => absurd q_ (by decide))
    refine g_iload (i := 7) X0 hx (hb hby at_102) (by rfl) rfl ?_
    refine g_iconst (v := (3 : Int32)) X0 hx (hb hby at_104) (by decide) rfl ?_
    refine g_icmp_ne X0 hx (hb hby at_105) (by decide) (pt := 123) (by decide) rfl (fun q_ => absurd (by decide) q_) (fun _ => ?_)
    refine g_iconst (v := (3 : Int32)) X0 hx (hb hby at_108) (by decide) rfl ?_
    refine g_istore (i := 11) X0 hx #[.val (.long p0), .second, .val (.int p1), .val (.long p2), .second, .val (.int p3), .val (.int p4), .val (.int (3 : Int32)), .val (.int nrow), .val (.int pad), .val (.int ofs), .val (.int (3 : Int32)), .unset, .unset, .unset, .unset, .unset, .unset, .unset, .unset, .unset, .unset] (hb hby at_109) rfl rfl ?_
    refine g_iconst (v := (1 : Int32)) X0 hx (hb hby at_111) (by decide) rfl ?_
    refine g_newarr X0 hx hZ (ty := .int) rfl (wd hw 1 rfl) e0 (hb hby at_112) rfl (by decide) 1 (by decide) (by decide) (by decide) (by decide) ?_
    intro T162 h162 cA162 a162 X162 e162 g162 Ex162 A162
    have gn_a162 : n0 ≤ a162 := by rw [g162]; exact Zc
    have Zc162 : n0 ≤ h162.size := Nat.le_trans Zc Ex162.1
    have Ar162 : ArI Z h162 a162 .int 1 (fun _ => 0) := ArI.new A162 0 rfl
    refine g_dup X162 hx (hb hby at_114) rfl rfl ?_
    refine g_iconst (v := (0 : Int32)) X162 hx (hb hby at_115) (by decide) rfl ?_
    refine g_iconst (v := (3 : Int32)) X162 hx (hb hby at_116) (by decide) rfl ?_
    refine g_iastoreN X162 hx hZ e162 Ar162 0 (by decide) (by decide) (by decide) (hb hby at_117) rfl ?_
    intro T163 h163 X163 e163 W163 Ar163
    have N163 := Fr.snoc X163 (Fr.nil n0) gn_a162
    have Zc163 : n0 ≤ h163.size := by rw [W163.size]; exact Zc162
    refine g_astore (i := 12) X163 hx #[.val (.long p0), .second, .val (.int p1), .val (.long p2), .second, .val (.int p3), .val (.int p4), .val (.int (3 : Int32)), .val (.int nrow), .val (.int pad), .val (.int ofs), .val (.int (3 : Int32)), .val (.ref a162), .unset, .unset, .unset, .unset, .unset, .unset, .unset, .unset, .unset] (hb hby at_118) rfl rfl rfl ?_
    refine g_goto X163 hx (hb hby at_120) (by decide) (by decide) (pc' := 193) ?_
    refine g_iload (i := 11) X163 hx (hb hby at_193) (by rfl) rfl ?_
    refine g_iload (i := 9) X163 hx (hb hby at_195) (by rfl) rfl ?_
    refine g_iadd X163 hx (hb hby at_197) rfl ?_
    refine g_istore (i := 13) X163 hx #[.val (.long p0), .second, .val (.int p1), .val (.long p2), .second, .val (.int p3), .val (.int p4), .val (.int (3 : Int32)), .val (.int nrow), .val (.int pad), .val (.int ofs), .val (.int (3 : Int32)), .val (.ref a162), .val (.int ((3 : Int32) + pad)), .unset, .unset, .unset, .unset, .unset, .unset, .unset, .unset] (hb hby at_198) rfl rfl ?_
    have hst : (((3 : Int32) + pad)).toInt = 3 + pad.toInt := by have e := c_iadd (3 : Int32) pad; have r := rng32 (((3 : Int32) + pad)); rw [show ((3 : Int32)).toInt = 3 from rfl] at e; omega
    revert hst
    generalize ((3 : Int32) + pad) = strd
    intro hst
    refine g_bipush (v := (12 : Int32)) X163 hx (hb hby at_200) (by decide) rfl ?_
    refine g_newarr X163 hx hZ (ty := .byte) rfl (wd hw 2 rfl) e163 (hb hby at_202) rfl (by decide) 12 (by decide) (by decide) (by decide) (by decide) ?_
    intro T164 h164 cA164 a164 X164 e164 g164 Ex164 A164
    have ne_a162_a164 : a162 ≠ a164 := fun q => absurd Ar163.lt (by rw [q, g164]; exact Nat.lt_irrefl _)
    have B164_a162 := Ar163.ext Ex164
    have gn_a164 : n0 ≤ a164 := by rw [g164]; exact Zc163
    have Zc164 : n0 ≤ h164.size := Nat.le_trans Zc163 Ex164.1
    have Ar164 : ArI Z h164 a164 .byte 12 (fun _ => 0) := ArI.new A164 0 rfl
    refine g_dup X164 hx (hb hby at_204) rfl rfl ?_
    refine g_iconst (v := (0 : Int32)) X164 hx (hb hby at_205) (by decide) rfl ?_
    refine g_lload_n (i := 0) X164 hx (hb hby at_206) (by rfl) rfl ?_
    refine g_l2i X164 hx (hb hby at_207) rfl ?_
    refine g_i2b X164 hx (hb hby at_208) rfl ?_
    refine g_bastoreN X164 hx hZ e164 Ar164 0 (by decide) (by decide) (by decide) (hb hby at_209) rfl ?_
    intro T165 h165 X165 e165 W165 Ar165
    have N165 := Fr.snoc X165 N163 gn_a164
    have B165_a162 := B164_a162.other W165 ne_a162_a164
    have Zc165 : n0 ≤ h165.size := by rw [W165.size]; exact Zc164
    refine g_dup X165 hx (hb hby at_210) rfl rfl ?_
    refine g_iconst (v := (1 : Int32)) X165 hx (hb hby at_211) (by decide) rfl ?_
    refine g_lload_n (i := 0) X165 hx (hb hby at_212) (by rfl) rfl ?_
    refine g_bipush (v := (8 : Int32)) X165 hx (hb hby at_213) (by decide) rfl ?_
    refine g_lushr X165 hx (hb hby at_215) rfl ?_
    refine g_l2i X165 hx (hb hby at_216) rfl ?_
    refine g_i2b X165 hx (hb hby at_217) rfl ?_
    refine g_bastoreN X165 hx hZ e165 Ar165 1 (by decide) (by decide) (by decide) (hb hby at_218) rfl ?_
    intro T166 h166 X166 e166 W166 Ar166
    have N166 := Fr.snoc X166 N165 gn_a164
    have B166_a162 := B165_a162.other W166 ne_a162_a164
    have Zc166 : n0 ≤ h166.size := by rw [W166.size]; exact Zc165
    refine g_dup X166 hx (hb hby at_219) rfl rfl ?_
    refine g_iconst (v := (2 : Int32)) X166 hx (hb hby at_220) (by decide) rfl ?_
    refine g_lload_n (i := 0) X166 hx (hb hby at_221) (by rfl) rfl ?_
    refine g_bipush (v := (16 : Int32)) X166 hx (hb hby at_222) (by decide) rfl ?_
    refine g_lushr X166 hx (hb hby at_224) rfl ?_
    refine g_l2i X166 hx (hb hby at_225) rfl ?_
    refine g_i2b X166 hx (hb hby at_226) rfl ?_
    refine g_bastoreN X166 hx hZ e166 Ar166 2 (by decide) (by decide) (by decide) (hb hby at_227) rfl ?_
    intro T167 h167 X167 e167 W167 Ar167
    have N167 := Fr.snoc X167 N166 gn_a164
    have B167_a162 := B166_a162.other W167 ne_a162_a164
    have Zc167 : n0 ≤ h167.size := by rw [W167.size]; exact Zc166
    refine g_dup X167 hx (hb hby at_228) rfl rfl ?_
    refine g_iconst (v := (3 : Int32)) X167 hx (hb hby at_229) (by decide) rfl ?_
    refine g_lload_n (i := 0) X167 hx (hb hby at_230) (by rfl) rfl ?_
    refine g_bipush (v := (24 : Int32)) X167 hx (hb hby at_231) (by decide) rfl ?_
    refine g_lushr X167 hx (hb hby at_233) rfl ?_
    refine g_l2i X167 hx (hb hby at_234) rfl ?_
    refine g_i2b X167 hx (hb hby at_235) rfl ?_
    refine g_bastoreN X167 hx hZ e167 Ar167 3 (by decide) (by decide) (by decide) (hb hby at_236) rfl ?_
    intro T168 h168 X168 e168 W168 Ar168
    have N168 := Fr.snoc X168 N167 gn_a164
    have B168_a162 := B167_a162.other W168 ne_a162_a164
    have Zc168 : n0 ≤ h168.size := by rw [W168.size]; exact Zc167
    refine g_dup X168 hx (hb hby at_237) rfl rfl ?_
    refine g_iconst (v := (4 : Int32)) X168 hx (hb hby at_238) (by decide) rfl ?_
    refine g_lload_n (i := 0) X168 hx (hb hby at_239) (by rfl) rfl ?_
    refine g_bipush (v := (32 : Int32)) X168 hx (hb hby at_240) (by decide) rfl ?_
    refine g_lushr X168 hx (hb hby at_242) rfl ?_
    refine g_l2i X168 hx (hb hby at_243) rfl ?_
    refine g_i2b X168 hx (hb hby at_244) rfl ?_
    refine g_bastoreN X168 hx hZ e168 Ar168 4 (by decide) (by decide) (by decide) (hb hby at_245) rfl ?_
    intro T169 h169 X169 e169 W169 Ar169
    have N169 := Fr.snoc X169 N168 gn_a164
    have B169_a162 := B168_a162.other W169 ne_a162_a164
    have Zc169 : n0 ≤ h169.size := by rw [W169.size]; exact Zc168
    refine g_dup X169 hx (hb hby at_246) rfl rfl ?_
    refine g_iconst (v := (5 : Int32)) X169 hx (hb hby at_247) (by decide) rfl ?_
    refine g_lload_n (i := 0) X169 hx (hb hby at_248) (by rfl) rfl ?_
    refine g_bipush (v := (40 : Int32)) X169 hx (hb hby at_249) (by decide) rfl ?_
    refine g_lushr X169 hx (hb hby at_251) rfl ?_
    refine g_l2i X169 hx (hb hby at_252) rfl ?_
    refine g_i2b X169 hx (hb hby at_253) rfl ?_
    refine g_bastoreN X169 hx hZ e169 Ar169 5 (by decide) (by decide) (by decide) (hb hby at_254) rfl ?_
    intro T170 h170 X170 e170 W170 Ar170
    have N170 := Fr.snoc X170 N169 gn_a164
    have B170_a162 := B169_a162.other W170 ne_a162_a164
    have Zc170 : n0 ≤ h170.size := by rw [W170.size]; exact Zc169
    refine g_dup X170 hx (hb hby at_255) rfl rfl ?_
    refine g_bipush (v := (6 : Int32)) X170 hx (hb hby at_256) (by decide) rfl ?_
    refine g_lload_n (i := 0) X170 hx (hb hby at_258) (by rfl) rfl ?_
    refine g_bipush (v := (48 : Int32)) X170 hx (hb hby at_259) (by decide) rfl ?_
    refine g_lushr X170 hx (hb hby at_261) rfl ?_
    refine g_l2i X170 hx (hb hby at_262) rfl ?_
    refine g_i2b X170 hx (hb hby at_263) rfl ?_
    refine g_bastoreN X170 hx hZ e170 Ar170 6 (by decide) (by decide) (by decide) (hb hby at_264) rfl ?_
    intro T171 h171 X171 e171 W171 Ar171
    have N171 := Fr.snoc X171 N170 gn_a164
    have B171_a162 := B170_a162.other W171 ne_a162_a164
    have Zc171 : n0 ≤ h171.size := by rw [W171.size]; exact Zc170
    refine g_dup X171 hx (hb hby at_265) rfl rfl ?_
    refine g_bipush (v := (7 : Int32)) X171 hx (hb hby at_266) (by decide) rfl ?_
    refine g_lload_n (i := 0) X171 hx (hb hby at_268) (by rfl) rfl ?_
    refine g_bipush (v := (56 : Int32)) X171 hx (hb hby at_269) (by decide) rfl ?_
    refine g_lushr X171 hx (hb hby at_271) rfl ?_
    refine g_l2i X171 hx (hb hby at_272) rfl ?_
    refine g_i2b X171 hx (hb hby at_273) rfl ?_
    refine g_bastoreN X171 hx hZ e171 Ar171 7 (by decide) (by decide) (by decide) (hb hby at_274) rfl ?_
    intro T172 h172 X172 e172 W172 Ar172
    have N172 := Fr.snoc X172 N171 gn_a164
    have B172_a162 := B171_a162.other W172 ne_a162_a164
    have Zc172 : n0 ≤ h172.size := by rw [W172.size]; exact Zc171
    refine g_dup X172 hx (hb hby at_275) rfl rfl ?_
    refine g_bipush (v := (8 : Int32)) X172 hx (hb hby at_276) (by decide) rfl ?_
    refine g_iload_n (i := 2) X172 hx (hb hby at_278) (by rfl) rfl ?_
    refine g_i2b X172 hx (hb hby at_279) rfl ?_
    refine g_bastoreN X172 hx hZ e172 Ar172 8 (by decide) (by decide) (by decide) (hb hby at_280) rfl ?_
    intro T173 h173 X173 e173 W173 Ar173
    have N173 := Fr.snoc X173 N172 gn_a164
    have B173_a162 := B172_a162.other W173 ne_a162_a164
    have Zc173 : n0 ≤ h173.size := by rw [W173.size]; exact Zc172
    refine g_dup X173 hx (hb hby at_281) rfl rfl ?_
    refine g_bipush (v := (9 : Int32)) X173 hx (hb hby at_282) (by decide) rfl ?_
    refine g_iload_n (i := 2) X173 hx (hb hby at_284) (by rfl) rfl ?_
    refine g_bipush (v := (8 : Int32)) X173 hx (hb hby at_285) (by decide) rfl ?_
    refine g_iushr X173 hx (hb hby at_287) rfl ?_
    refine g_i2b X173 hx (hb hby at_288) rfl ?_
    refine g_bastoreN X173 hx hZ e173 Ar173 9 (by decide) (by decide) (by decide) (hb hby at_289) rfl ?_
    intro T174 h174 X174 e174 W174 Ar174
    have N174 := Fr.snoc X174 N173 gn_a164
    have B174_a162 := B173_a162.other W174 ne_a162_a164
    have Zc174 : n0 ≤ h174.size := by rw [W174.size]; exact Zc173
    refine g_dup X174 hx (hb hby at_290) rfl rfl ?_
    refine g_bipush (v := (10 : Int32)) X174 hx (hb hby at_291) (by decide) rfl ?_
    refine g_iload_n (i := 2) X174 hx (hb hby at_293) (by rfl) rfl ?_
    refine g_bipush (v := (16 : Int32)) X174 hx (hb hby at_294) (by decide) rfl ?_
    refine g_iushr X174 hx (hb hby at_296) rfl ?_
    refine g_i2b X174 hx (hb hby at_297) rfl ?_
    refine g_bastoreN X174 hx hZ e174 Ar174 10 (by decide) (by decide) (by decide) (hb hby at_298) rfl ?_
    intro T175 h175 X175 e175 W175 Ar175
    have N175 := Fr.snoc X175 N174 gn_a164
    have B175_a162 := B174_a162.other W175 ne_a162_a164
    have Zc175 : n0 ≤ h175.size := by rw [W175.size]; exact Zc174
    refine g_dup X175 hx (hb hby at_299) rfl rfl ?_
    refine g_bipush (v := (11 : Int32)) X175 hx (hb hby at_300) (by decide) rfl ?_
    refine g_iload_n (i := 2) X175 hx (hb hby at_302) (by rfl) rfl ?_
    refine g_bipush (v := (24 : Int32)) X175 hx (hb hby at_303) (by decide) rfl ?_
    refine g_iushr X175 hx (hb hby at_305) rfl ?_
    refine g_i2b X175 hx (hb hby at_306) rfl ?_
    refine g_bastoreN X175 hx hZ e175 Ar175 11 (by decide) (by decide) (by decide) (hb hby at_307) rfl ?_
    intro T176 h176 X176 e176 W176 Ar176
    have N176 := Fr.snoc X176 N175 gn_a164
    have B176_a162 := B175_a162.other W176 ne_a162_a164
    have Zc176 : n0 ≤ h176.size := by rw [W176.size]; exact Zc175
    refine g_astore (i := 14) X176 hx #[.val (.long p0), .second, .val (.int p1), .val (.long p2), .second, .val (.int p3), .val (.int p4), .val (.int (3 : Int32)), .val (.int nrow), .val (.int pad), .val (.int ofs), .val (.int (3 : Int32)), .val (.ref a162), .val (.int strd), .val (.ref a164), .unset, .unset, .unset, .unset, .unset, .unset, .unset] (hb hby at_308) rfl rfl rfl ?_
    refine g_bipush (v := (12 : Int32)) X176 hx (hb hby at_310) (by decide) rfl ?_
    refine g_newarr X176 hx hZ (ty := .long) rfl (wd hw 3 rfl) e176 (hb hby at_312) rfl (by decide) 12 (by decide) (by decide) (by decide) (by decide) ?_
    intro T177 h177 cA177 a177 X177 e177 g177 Ex177 A177
    have ne_a162_a177 : a162 ≠ a177 := fun q => absurd B176_a162.lt (by rw [q, g177]; exact Nat.lt_irrefl _)
    have B177_a162 := B176_a162.ext Ex177
    have ne_a164_a177 : a164 ≠ a177 := fun q => absurd Ar176.lt (by rw [q, g177]; exact Nat.lt_irrefl _)
    have B177_a164 := Ar176.ext Ex177
    have gn_a177 : n0 ≤ a177 := by rw [g177]; exact Zc176
    have Zc177 : n0 ≤ h177.size := Nat.le_trans Zc176 Ex177.1
    have Ar177 : ArJ Z h177 a177 .long 12 (fun _ => 0) := ArJ.new A177 0 rfl
    refine g_dup X177 hx (hb hby at_314) rfl rfl ?_
    refine g_iconst (v := (0 : Int32)) X177 hx (hb hby at_315) (by decide) rfl ?_
    refine g_lload_n (i := 3) X177 hx (hb hby at_316) (by rfl) rfl ?_
    refine g_lastoreN X177 hx hZ e177 Ar177 0 (by decide) (by decide) (by decide) (hb hby at_317) rfl ?_
    intro T178 h178 X178 e178 W178 Ar178
    have N178 := Fr.snoc X178 N176 gn_a177
    have B178_a162 := B177_a162.other W178 ne_a162_a177
    have B178_a164 := B177_a164.other W178 ne_a164_a177
    have Zc178 : n0 ≤ h178.size := by rw [W178.size]; exact Zc177
    refine g_dup X178 hx (hb hby at_318) rfl rfl ?_
    refine g_iconst (v := (1 : Int32)) X178 hx (hb hby at_319) (by decide) rfl ?_
    refine g_lload_n (i := 3) X178 hx (hb hby at_320) (by rfl) rfl ?_
    refine g_lastoreN X178 hx hZ e178 Ar178 1 (by decide) (by decide) (by decide) (hb hby at_321) rfl ?_
    intro T179 h179 X179 e179 W179 Ar179
    have N179 := Fr.snoc X179 N178 gn_a177
    have B179_a162 := B178_a162.other W179 ne_a162_a177
    have B179_a164 := B178_a164.other W179 ne_a164_a177
    have Zc179 : n0 ≤ h179.size := by rw [W179.size]; exact Zc178
    refine g_dup X179 hx (hb hby at_322) rfl rfl ?_
    refine g_iconst (v := (2 : Int32)) X179 hx (hb hby at_323) (by decide) rfl ?_
    refine g_lload_n (i := 3) X179 hx (hb hby at_324) (by rfl) rfl ?_
    refine g_lastoreN X179 hx hZ e179 Ar179 2 (by decide) (by decide) (by decide) (hb hby at_325) rfl ?_
    intro T180 h180 X180 e180 W180 Ar180
    have N180 := Fr.snoc X180 N179 gn_a177
    have B180_a162 := B179_a162.other W180 ne_a162_a177
    have B180_a164 := B179_a164.other W180 ne_a164_a177
    have Zc180 : n0 ≤ h180.size := by rw [W180.size]; exact Zc179
    refine g_dup X180 hx (hb hby at_326) rfl rfl ?_
    refine g_iconst (v := (3 : Int32)) X180 hx (hb hby at_327) (by decide) rfl ?_
    refine g_lload_n (i := 3) X180 hx (hb hby at_328) (by rfl) rfl ?_
    refine g_lastoreN X180 hx hZ e180 Ar180 3 (by decide) (by decide) (by decide) (hb hby at_329) rfl ?_
    intro T181 h181 X181 e181 W181 Ar181
    have N181 := Fr.snoc X181 N180 gn_a177
    have B181_a162 := B180_a162.other W181 ne_a162_a177
    have B181_a164 := B180_a164.other W181 ne_a164_a177
    have Zc181 : n0 ≤ h181.size := by rw [W181.size]; exact Zc180
    refine g_dup X181 hx (hb hby at_330) rfl rfl ?_
    refine g_iconst (v := (4 : Int32)) X181 hx (hb hby at_331) (by decide) rfl ?_
    refine g_lload_n (i := 3) X181 hx (hb hby at_332) (by rfl) rfl ?_
    refine g_lastoreN X181 hx hZ e181 Ar181 4 (by decide) (by decide) (by decide) (hb hby at_333) rfl ?_
    intro T182 h182 X182 e182 W182 Ar182
    have N182 := Fr.snoc X182 N181 gn_a177
    have B182_a162 := B181_a162.other W182 ne_a162_a177
    have B182_a164 := B181_a164.other W182 ne_a164_a177
    have Zc182 : n0 ≤ h182.size := by rw [W182.size]; exact Zc181
    refine g_dup X182 hx (hb hby at_334) rfl rfl ?_
    refine g_iconst (v := (5 : Int32)) X182 hx (hb hby at_335) (by decide) rfl ?_
    refine g_lload_n (i := 3) X182 hx (hb hby at_336) (by rfl) rfl ?_
    refine g_lastoreN X182 hx hZ e182 Ar182 5 (by decide) (by decide) (by decide) (hb hby at_337) rfl ?_
    intro T183 h183 X183 e183 W183 Ar183
    have N183 := Fr.snoc X183 N182 gn_a177
    have B183_a162 := B182_a162.other W183 ne_a162_a177
    have B183_a164 := B182_a164.other W183 ne_a164_a177
    have Zc183 : n0 ≤ h183.size := by rw [W183.size]; exact Zc182
    refine g_dup X183 hx (hb hby at_338) rfl rfl ?_
    refine g_bipush (v := (6 : Int32)) X183 hx (hb hby at_339) (by decide) rfl ?_
    refine g_lload_n (i := 3) X183 hx (hb hby at_341) (by rfl) rfl ?_
    refine g_lastoreN X183 hx hZ e183 Ar183 6 (by decide) (by decide) (by decide) (hb hby at_342) rfl ?_
    intro T184 h184 X184 e184 W184 Ar184
    have N184 := Fr.snoc X184 N183 gn_a177
    have B184_a162 := B183_a162.other W184 ne_a162_a177
    have B184_a164 := B183_a164.other W184 ne_a164_a177
    have Zc184 : n0 ≤ h184.size := by rw [W184.size]; exact Zc183
    refine g_dup X184 hx (hb hby at_343) rfl rfl ?_
    refine g_bipush (v := (7 : Int32)) X184 hx (hb hby at_344) (by decide) rfl ?_
    refine g_lload_n (i := 3) X184 hx (hb hby at_346) (by rfl) rfl ?_
    refine g_lastoreN X184 hx hZ e184 Ar184 7 (by decide) (by decide) (by decide) (hb hby at_347) rfl ?_
    intro T185 h185 X185 e185 W185 Ar185
    have N185 := Fr.snoc X185 N184 gn_a177
    have B185_a162 := B184_a162.other W185 ne_a162_a177
    have B185_a164 := B184_a164.other W185 ne_a164_a177
    have Zc185 : n0 ≤ h185.size := by rw [W185.size]; exact Zc184
    refine g_dup X185 hx (hb hby at_348) rfl rfl ?_
    refine g_bipush (v := (8 : Int32)) X185 hx (hb hby at_349) (by decide) rfl ?_
    refine g_lload_n (i := 3) X185 hx (hb hby at_351) (by rfl) rfl ?_
    refine g_lastoreN X185 hx hZ e185 Ar185 8 (by decide) (by decide) (by decide) (hb hby at_352) rfl ?_
    intro T186 h186 X186 e186 W186 Ar186
    have N186 := Fr.snoc X186 N185 gn_a177
    have B186_a162 := B185_a162.other W186 ne_a162_a177
    have B186_a164 := B185_a164.other W186 ne_a164_a177
    have Zc186 : n0 ≤ h186.size := by rw [W186.size]; exact Zc185
    refine g_dup X186 hx (hb hby at_353) rfl rfl ?_
    refine g_bipush (v := (9 : Int32)) X186 hx (hb hby at_354) (by decide) rfl ?_
    refine g_lload_n (i := 3) X186 hx (hb hby at_356) (by rfl) rfl ?_
    refine g_lastoreN X186 hx hZ e186 Ar186 9 (by decide) (by decide) (by decide) (hb hby at_357) rfl ?_
    intro T187 h187 X187 e187 W187 Ar187
    have N187 := Fr.snoc X187 N186 gn_a177
    have B187_a162 := B186_a162.other W187 ne_a162_a177
    have B187_a164 := B186_a164.other W187 ne_a164_a177
    have Zc187 : n0 ≤ h187.size := by rw [W187.size]; exact Zc186
    refine g_dup X187 hx (hb hby at_358) rfl rfl ?_
    refine g_bipush (v := (10 : Int32)) X187 hx (hb hby at_359) (by decide) rfl ?_
    refine g_lload_n (i := 3) X187 hx (hb hby at_361) (by rfl) rfl ?_
    refine g_lastoreN X187 hx hZ e187 Ar187 10 (by decide) (by decide) (by decide) (hb hby at_362) rfl ?_
    intro T188 h188 X188 e188 W188 Ar188
    have N188 := Fr.snoc X188 N187 gn_a177
    have B188_a162 := B187_a162.other W188 ne_a162_a177
    have B188_a164 := B187_a164.other W188 ne_a164_a177
    have Zc188 : n0 ≤ h188.size := by rw [W188.size]; exact Zc187
    refine g_dup X188 hx (hb hby at_363) rfl rfl ?_
    refine g_bipush (v := (11 : Int32)) X188 hx (hb hby at_364) (by decide) rfl ?_
    refine g_lload_n (i := 3) X188 hx (hb hby at_366) (by rfl) rfl ?_
    refine g_lastoreN X188 hx hZ e188 Ar188 11 (by decide) (by decide) (by decide) (hb hby at_367) rfl ?_
    intro T189 h189 X189 e189 W189 Ar189
    have N189 := Fr.snoc X189 N188 gn_a177
    have B189_a162 := B188_a162.other W189 ne_a162_a177
    have B189_a164 := B188_a164.other W189 ne_a164_a177
    have Zc189 : n0 ≤ h189.size := by rw [W189.size]; exact Zc188
    refine g_astore (i := 15) X189 hx #[.val (.long p0), .second, .val (.int p1), .val (.long p2), .second, .val (.int p3), .val (.int p4), .val (.int (3 : Int32)), .val (.int nrow), .val (.int pad), .val (.int ofs), .val (.int (3 : Int32)), .val (.ref a162), .val (.int strd), .val (.ref a164), .val (.ref a177), .unset, .unset, .unset, .unset, .unset, .unset] (hb hby at_368) rfl rfl rfl ?_
    refine g_aload (i := 12) X189 hx (hb hby at_370) (by rfl) rfl rfl ?_
    refine g_arraylengthI X189 hx hZ e189 B189_a162 (z := (1 : Int32)) (by decide) (hb hby at_372) rfl ?_
    refine g_istore (i := 16) X189 hx #[.val (.long p0), .second, .val (.int p1), .val (.long p2), .second, .val (.int p3), .val (.int p4), .val (.int (3 : Int32)), .val (.int nrow), .val (.int pad), .val (.int ofs), .val (.int (3 : Int32)), .val (.ref a162), .val (.int strd), .val (.ref a164), .val (.ref a177), .val (.int (1 : Int32)), .unset, .unset, .unset, .unset, .unset] (hb hby at_373) rfl rfl ?_
    refine g_aload (i := 12) X189 hx (hb hby at_375) (by rfl) rfl rfl ?_
    refine g_iconst (v := (0 : Int32)) X189 hx (hb hby at_377) (by decide) rfl ?_
    refine g_iaload' X189 hx hZ e189 B189_a162 (by decide) (by decide) (x := (3 : Int32)) rfl (hb hby at_378) rfl ?_
    refine g_istore (i := 17) X189 hx #[.val (.long p0), .second, .val (.int p1), .val (.long p2), .second, .val (.int p3), .val (.int p4), .val (.int (3 : Int32)), .val (.int nrow), .val (.int pad), .val (.int ofs), .val (.int (3 : Int32)), .val (.ref a162), .val (.int strd), .val (.ref a164), .val (.ref a177), .val (.int (1 : Int32)), .val (.int (3 : Int32)), .unset, .unset, .unset, .unset] (hb hby at_379) rfl rfl ?_
    refine g_iload (i := 16) X189 hx (hb hby at_381) (by rfl) rfl ?_
    refine g_iconst (v := (1 : Int32)) X189 hx (hb hby at_383) (by decide) rfl ?_
    refine g_icmp_le X189 hx (hb hby at_384) (by decide) (pt := 394) (by decide) rfl (fun _ => ?_) (fun q_ => absurd q_ (by decide))
    refine g_iload (i := 17) X189 hx (hb hby at_394) (by rfl) rfl ?_
    refine g_istore (i := 18) X189 hx #[.val (.long p0), .second, .val (.int p1), .val (.long p2), .second, .val (.int p3), .val (.int p4), .val (.int (3 : Int32)), .val (.int nrow), .val (.int pad), .val (.int ofs), .val (.int (3 : Int32)), .val (.ref a162), .val (.int strd), .val (.ref a164), .val (.ref a177), .val (.int (1 : Int32)), .val (.int (3 : Int32)), .val (.int (3 : Int32)), .unset, .unset, .unset] (hb hby at_396) rfl rfl ?_
    refine g_iload (i := 16) X189 hx (hb hby at_398) (by rfl) rfl ?_
    refine g_iconst (v := (2 : Int32)) X189 hx (hb hby at_400) (by decide) rfl ?_
    refine g_icmp_le X189 hx (hb hby at_401) (by decide) (pt := 411) (by decide) rfl (fun _ => ?_) (fun q_ => absurd q_ (by decide))
    refine g_iload (i := 18) X189 hx (hb hby at_411) (by rfl) rfl ?_
    refine g_istore (i := 19) X189 hx #[.val (.long p0), .second, .val (.int p1), .val (.long p2), .second, .val (.int p3), .val (.int p4), .val (.int (3 : Int32)), .val (.int nrow), .val (.int pad), .val (.int ofs), .val (.int (3 : Int32)), .val (.ref a162), .val (.int strd), .val (.ref a164), .val (.ref a177), .val (.int (1 : Int32)), .val (.int (3 : Int32)), .val (.int (3 : Int32)), .val (.int (3 : Int32)), .unset, .unset] (hb hby at_413) rfl rfl ?_
    obtain ⟨S, hS⟩ : ∃ S : Nat, strd.toInt = (S : Int) := ⟨strd.toInt.toNat, by omega⟩
    obtain ⟨f, As, hf⟩ : ∃ f, ArI Z h189 a164 .byte 12 f ∧ ∀ i, i < 12 → f i &&& 255 = own_smp p0 p1 (Int32.ofNat i) := by
      refine ⟨_, B189_a164, fun i hi => ?_⟩
      rcases own_twelve i hi with rfl | rfl | rfl | rfl | rfl | rfl | rfl | rfl | rfl | rfl | rfl | rfl
      · exact (by show _ = own_smp p0 p1 (Int32.ofNat 0); rw [show own_smp p0 p1 (Int32.ofNat 0) = (XT.ushrL p0 (0 : Int32)).toInt32 &&& 255 from if_pos (by decide), own_u0L]; exact own_nb255 _)
      · exact (by show _ = own_smp p0 p1 (Int32.ofNat 1); rw [show own_smp p0 p1 (Int32.ofNat 1) = (XT.ushrL p0 (8 : Int32)).toInt32 &&& 255 from if_pos (by decide)]; exact own_nb255 _)
      · exact (by show _ = own_smp p0 p1 (Int32.ofNat 2); rw [show own_smp p0 p1 (Int32.ofNat 2) = (XT.ushrL p0 (16 : Int32)).toInt32 &&& 255 from if_pos (by decide)]; exact own_nb255 _)
      · exact (by show _ = own_smp p0 p1 (Int32.ofNat 3); rw [show own_smp p0 p1 (Int32.ofNat 3) = (XT.ushrL p0 (24 : Int32)).toInt32 &&& 255 from if_pos (by decide)]; exact own_nb255 _)
      · exact (by show _ = own_smp p0 p1 (Int32.ofNat 4); rw [show own_smp p0 p1 (Int32.ofNat 4) = (XT.ushrL p0 (32 : Int32)).toInt32 &&& 255 from if_pos (by decide)]; exact own_nb255 _)
      · exact (by show _ = own_smp p0 p1 (Int32.ofNat 5); rw [show own_smp p0 p1 (Int32.ofNat 5) = (XT.ushrL p0 (40 : Int32)).toInt32 &&& 255 from if_pos (by decide)]; exact own_nb255 _)
      · exact (by show _ = own_smp p0 p1 (Int32.ofNat 6); rw [show own_smp p0 p1 (Int32.ofNat 6) = (XT.ushrL p0 (48 : Int32)).toInt32 &&& 255 from if_pos (by decide)]; exact own_nb255 _)
      · exact (by show _ = own_smp p0 p1 (Int32.ofNat 7); rw [show own_smp p0 p1 (Int32.ofNat 7) = (XT.ushrL p0 (56 : Int32)).toInt32 &&& 255 from if_pos (by decide)]; exact own_nb255 _)
      · exact (by show _ = own_smp p0 p1 (Int32.ofNat 8); rw [show own_smp p0 p1 (Int32.ofNat 8) = XT.ushr p1 (0 : Int32) &&& 255 from if_neg (by decide), own_u0]; exact own_nb255 _)
      · exact (by show _ = own_smp p0 p1 (Int32.ofNat 9); rw [show own_smp p0 p1 (Int32.ofNat 9) = XT.ushr p1 (8 : Int32) &&& 255 from if_neg (by decide)]; exact own_nb255 _)
      · exact (by show _ = own_smp p0 p1 (Int32.ofNat 10); rw [show own_smp p0 p1 (Int32.ofNat 10) = XT.ushr p1 (16 : Int32) &&& 255 from if_neg (by decide)]; exact own_nb255 _)
      · exact (by show _ = own_smp p0 p1 (Int32.ofNat 11); rw [show own_smp p0 p1 (Int32.ofNat 11) = XT.ushr p1 (24 : Int32) &&& 255 from if_neg (by decide)]; exact own_nb255 _)
    refine g_new X189 hx hZ hown (wd hw 4 rfl) (wd hw 5 rfl) (wd hw 6 rfl) e189 (hb hby at_415) rfl (by decide) (by decide) ?_
    intro T190 h190 a190 X190 e190 g190 Ex190 E190 D190
    have C_a162 := B189_a162.ext Ex190
    have C_a177 := Ar189.ext Ex190
    have As2 := As.ext Ex190
    refine g_dup X190 hx (hb hby at_418) rfl rfl ?_
    refine g_callI X190 hx hZ rfl hown (wd hw 7 rfl) (wd hw 8 rfl) (wd hw 6 rfl) (wd hw 9 rfl) (by decide) e190 (rm_init l Z a0 hw a190 h190) (by rw [hml]; rfl) a190 [] [(.ref a190)] rfl (lenOf pd_79 rfl) rfl (by show 1 + (1 + 11) + 12 ≤ _; decide) (by decide) (by decide) (by decide) (hb hby at_419) rfl ?_
    intro T191 v191 L191 X191 hQ191
    obtain ⟨rfl, rfl, e191⟩ := hQ191
    have N191 := Fr.app N189 (Fr.nil n0)
    show Goes p e below _ T191 (mkF m 422 #[.val (.long p0), .second, .val (.int p1), .val (.long p2), .second, .val (.int p3), .val (.int p4), .val (.int (3 : Int32)), .val (.int nrow), .val (.int pad), .val (.int ofs), .val (.int (3 : Int32)), .val (.ref a162), .val (.int strd), .val (.ref a164), .val (.ref a177), .val (.int (1 : Int32)), .val (.int (3 : Int32)), .val (.int (3 : Int32)), .val (.int (3 : Int32)), .unset, .unset] [(.ref a190)])
    refine g_aload (i := 14) X191 hx (hb hby at_422) (by rfl) rfl rfl ?_
    refine g_iload (i := 10) X191 hx (hb hby at_424) (by rfl) rfl ?_
    refine g_iload (i := 13) X191 hx (hb hby at_426) (by rfl) rfl ?_
    refine g_iload (i := 8) X191 hx (hb hby at_428) (by rfl) rfl ?_
    refine g_aload (i := 12) X191 hx (hb hby at_430) (by rfl) rfl rfl ?_
    refine g_aload (i := 15) X191 hx (hb hby at_432) (by rfl) rfl rfl ?_
    refine g_callV X191 hx hZ hown (wd hw 13 rfl) (wd hw 14 rfl) (wd hw 16 rfl) (wd hw 15 rfl) (wd hw 6 rfl) (wd hw 17 rfl) (by decide) e191 a190 E190 (rm_sum1 l Z a0 hw a190 a164 a162 a177 ofs strd nrow (3 : Int32) 3 S R f _ _ h190 n0 As2 C_a162 C_a177 ne_a162_a177 ne_a164_a177 gn_a177 hg_ofs.1 hg_ofs.2 hS (by omega) (by omega) (by omega) hR hR3 rfl (by decide) (by decide)) (by rw [hml]; rfl) [(.ref a164), (.int ofs), (.int strd), (.int nrow), (.ref a162), (.ref a177)] [] rfl (lenOf pd_80 rfl) rfl (by show 0 + (13 + 11) + 0 ≤ _; decide) (by decide) (by decide) (by decide) (hb hby at_434) rfl ?_
    intro T192 v192 L192 X192 hQ192
    obtain ⟨g', rfl, N192, Ag', ⟨w0_0, w0_1, w0_2, w0_3⟩, y4, y5, y6, y7, y8, y9, y10, y11⟩ := hQ192
    have N192 := Fr.app N191 N192
    show Goes p e below _ T192 (mkF m 437 #[.val (.long p0), .second, .val (.int p1), .val (.long p2), .second, .val (.int p3), .val (.int p4), .val (.int (3 : Int32)), .val (.int nrow), .val (.int pad), .val (.int ofs), .val (.int (3 : Int32)), .val (.ref a162), .val (.int strd), .val (.ref a164), .val (.ref a177), .val (.int (1 : Int32)), .val (.int (3 : Int32)), .val (.int (3 : Int32)), .val (.int (3 : Int32)), .unset, .unset] [(.int (1 : Int32))])
    refine g_istore (i := 20) X192 hx #[.val (.long p0), .second, .val (.int p1), .val (.long p2), .second, .val (.int p3), .val (.int p4), .val (.int (3 : Int32)), .val (.int nrow), .val (.int pad), .val (.int ofs), .val (.int (3 : Int32)), .val (.ref a162), .val (.int strd), .val (.ref a164), .val (.ref a177), .val (.int (1 : Int32)), .val (.int (3 : Int32)), .val (.int (3 : Int32)), .val (.int (3 : Int32)), .val (.int (1 : Int32)), .unset] (hb hby at_437) rfl rfl ?_
    refine g_iload (i := 20) X192 hx (hb hby at_439) (by rfl) rfl ?_
    refine g_istore (i := 21) X192 hx #[.val (.long p0), .second, .val (.int p1), .val (.long p2), .second, .val (.int p3), .val (.int p4), .val (.int (3 : Int32)), .val (.int nrow), .val (.int pad), .val (.int ofs), .val (.int (3 : Int32)), .val (.ref a162), .val (.int strd), .val (.ref a164), .val (.ref a177), .val (.int (1 : Int32)), .val (.int (3 : Int32)), .val (.int (3 : Int32)), .val (.int (3 : Int32)), .val (.int (1 : Int32)), .val (.int (1 : Int32))] (hb hby at_441) rfl rfl ?_
    refine g_iload (i := 21) X192 hx (hb hby at_443) (by rfl) rfl ?_
    refine g_if_eq X192 hx (hb hby at_445) (by decide) (pt := 482) (by decide) rfl (fun q_ => absurd q_ (by decide)) (fun _ => ?_)
    refine g_aload (i := 15) X192 hx (hb hby at_448) (by rfl) rfl rfl ?_
    refine g_iconst (v := (0 : Int32)) X192 hx (hb hby at_450) (by decide) rfl ?_
    refine g_lload_n (i := 3) X192 hx (hb hby at_451) (by rfl) rfl ?_
    refine g_iconst (v := (1 : Int32)) X192 hx (hb hby at_452) (by decide) rfl ?_
    refine g_iload (i := 8) X192 hx (hb hby at_453) (by rfl) rfl ?_
    refine g_iconst (v := (0 : Int32)) X192 hx (hb hby at_455) (by decide) rfl ?_
    refine g_iload (i := 17) X192 hx (hb hby at_456) (by rfl) rfl ?_
    refine g_lload_n (i := 0) X192 hx (hb hby at_458) (by rfl) rfl ?_
    refine g_iload_n (i := 2) X192 hx (hb hby at_459) (by rfl) rfl ?_
    refine g_iload (i := 10) X192 hx (hb hby at_460) (by rfl) rfl ?_
    refine g_iload (i := 13) X192 hx (hb hby at_462) (by rfl) rfl ?_
    refine g_iload (i := 8) X192 hx (hb hby at_464) (by rfl) rfl ?_
    refine g_iconst (v := (0 : Int32)) X192 hx (hb hby at_466) (by decide) rfl ?_
    refine g_iload (i := 17) X192 hx (hb hby at_467) (by rfl) rfl ?_
    refine g_callS X192 hx hZ hown (wd hw 19 rfl) (wd hw 20 rfl) (wd hw 21 rfl) (wd hw 22 rfl) (by decide) rfl (rm_lvl l Z a0 hw p0 p1 ofs strd nrow (0 : Int32) (3 : Int32) T192.heap) (by rw [hml]; rfl) [(.long p0), (.int p1), (.int ofs), (.int strd), (.int nrow), (.int (0 : Int32)), (.int (3 : Int32))] [(.int (3 : Int32)), (.int (0 : Int32)), (.int nrow), (.int (1 : Int32)), (.long p2), (.int (0 : Int32)), (.ref a177)] rfl (lenOf pd_81 rfl) rfl (by show 8 + (8 + 11) + 38 ≤ _; decide) (by decide) (by decide) (by decide) (hb hby at_469) rfl ?_
    intro T193 v193 L193 X193 hQ193
    obtain ⟨rfl, rfl, e193⟩ := hQ193
    have N193 := Fr.app N192 (Fr.nil n0)
    show Goes p e below _ T193 (mkF m 472 #[.val (.long p0), .second, .val (.int p1), .val (.long p2), .second, .val (.int p3), .val (.int p4), .val (.int (3 : Int32)), .val (.int nrow), .val (.int pad), .val (.int ofs), .val (.int (3 : Int32)), .val (.ref a162), .val (.int strd), .val (.ref a164), .val (.ref a177), .val (.int (1 : Int32)), .val (.int (3 : Int32)), .val (.int (3 : Int32)), .val (.int (3 : Int32)), .val (.int (1 : Int32)), .val (.int (1 : Int32))] [(.long (own_lvl p0 p1 ofs strd nrow (0 : Int32) (3 : Int32))), (.int (3 : Int32)), (.int (0 : Int32)), (.int nrow), (.int (1 : Int32)), (.long p2), (.int (0 : Int32)), (.ref a177)])
    have hl0 : own_blk f S (((3 : Int32)).toInt - ((0 : Int32)).toInt).toNat (ofs.toInt + ((0 : Int32)).toInt).toNat R 0 = (own_lvl p0 p1 ofs strd nrow (0 : Int32) (3 : Int32)) := by
      rcases hg_nrow with rfl | rfl | rfl
      · obtain rfl : R = 1 := by have := hR; rw [show (1 : Int32).toInt = 1 from rfl] at this; omega
        exact (own_lev_0_3_1 hf hg_ofs.1 hg_ofs.2 hS (by omega)).symm
      · obtain rfl : R = 2 := by have := hR; rw [show (2 : Int32).toInt = 2 from rfl] at this; omega
        exact (own_lev_0_3_2 hf hg_ofs.1 hg_ofs.2 hS (by omega)).symm
      · obtain rfl : R = 3 := by have := hR; rw [show (3 : Int32).toInt = 3 from rfl] at this; omega
        exact (own_lev_0_3_3 hf hg_ofs.1 hg_ofs.2 hS (by omega)).symm
    refine g_callS X193 hx hZ hown (wd hw 29 rfl) (wd hw 30 rfl) (wd hw 21 rfl) (wd hw 31 rfl) (by decide) e193 (rm_run1 l Z a0 hw a177 (0 : Int32) p2 nrow (0 : Int32) (3 : Int32) (own_lvl p0 p1 ofs strd nrow (0 : Int32) (3 : Int32)) g' T192.heap Ag' (by decide) w0_0 (w0_1.trans hl0) (w0_2.trans hl0) (w0_3.trans hl0)) (by rw [hml]; rfl) [(.ref a177), (.int (0 : Int32)), (.long p2), (.int (1 : Int32)), (.int nrow), (.int (0 : Int32)), (.int (3 : Int32)), (.long (own_lvl p0 p1 ofs strd nrow (0 : Int32) (3 : Int32)))] [] rfl (lenOf pd_82 rfl) rfl (by show 0 + (11 + 11) + 0 ≤ _; decide) (by decide) (by decide) (by decide) (hb hby at_472) rfl ?_
    intro T194 v194 L194 X194 hQ194
    obtain ⟨rfl, rfl, e194⟩ := hQ194
    have N194 := Fr.app N193 (Fr.nil n0)
    show Goes p e below _ T194 (mkF m 475 #[.val (.long p0), .second, .val (.int p1), .val (.long p2), .second, .val (.int p3), .val (.int p4), .val (.int (3 : Int32)), .val (.int nrow), .val (.int pad), .val (.int ofs), .val (.int (3 : Int32)), .val (.ref a162), .val (.int strd), .val (.ref a164), .val (.ref a177), .val (.int (1 : Int32)), .val (.int (3 : Int32)), .val (.int (3 : Int32)), .val (.int (3 : Int32)), .val (.int (1 : Int32)), .val (.int (1 : Int32))] [(.int (1 : Int32))])
    refine g_if_eq X194 hx (hb hby at_475) (by decide) (pt := 482) (by decide) rfl (fun q_ => absurd q_ (by decide)) (fun _ => ?_)
    refine g_iconst (v := (1 : Int32)) X194 hx (hb hby at_478) (by decide) rfl ?_
    refine g_goto X194 hx (hb hby at_479) (by decide) (by decide) (pc' := 483) ?_
    refine g_istore (i := 21) X194 hx #[.val (.long p0), .second, .val (.int p1), .val (.long p2), .second, .val (.int p3), .val (.int p4), .val (.int (3 : Int32)), .val (.int nrow), .val (.int pad), .val (.int ofs), .val (.int (3 : Int32)), .val (.ref a162), .val (.int strd), .val (.ref a164), .val (.ref a177), .val (.int (1 : Int32)), .val (.int (3 : Int32)), .val (.int (3 : Int32)), .val (.int (3 : Int32)), .val (.int (1 : Int32)), .val (.int (1 : Int32))] (hb hby at_483) rfl rfl ?_
    refine g_iload (i := 21) X194 hx (hb hby at_485) (by rfl) rfl ?_
    refine g_if_eq X194 hx (hb hby at_487) (by decide) (pt := 536) (by decide) rfl (fun q_ => absurd q_ (by decide)) (fun _ => ?_)
    refine g_aload (i := 15) X194 hx (hb hby at_490) (by rfl) rfl rfl ?_
    refine g_iconst (v := (1 : Int32)) X194 hx (hb hby at_492) (by decide) rfl ?_
    refine g_lload_n (i := 3) X194 hx (hb hby at_493) (by rfl) rfl ?_
    refine g_iload (i := 16) X194 hx (hb hby at_494) (by rfl) rfl ?_
    refine g_iconst (v := (1 : Int32)) X194 hx (hb hby at_496) (by decide) rfl ?_
    refine g_icmp_le X194 hx (hb hby at_497) (by decide) (pt := 504) (by decide) rfl (fun _ => ?_) (fun q_ => absurd q_ (by decide))
    refine g_iconst (v := (0 : Int32)) X194 hx (hb hby at_504) (by decide) rfl ?_
    refine g_iload (i := 8) X194 hx (hb hby at_505) (by rfl) rfl ?_
    refine g_iload (i := 17) X194 hx (hb hby at_507) (by rfl) rfl ?_
    refine g_iload (i := 18) X194 hx (hb hby at_509) (by rfl) rfl ?_
    refine g_lload_n (i := 0) X194 hx (hb hby at_511) (by rfl) rfl ?_
    refine g_iload_n (i := 2) X194 hx (hb hby at_512) (by rfl) rfl ?_
    refine g_iload (i := 10) X194 hx (hb hby at_513) (by rfl) rfl ?_
    refine g_iload (i := 13) X194 hx (hb hby at_515) (by rfl) rfl ?_
    refine g_iload (i := 8) X194 hx (hb hby at_517) (by rfl) rfl ?_
    refine g_iload (i := 17) X194 hx (hb hby at_519) (by rfl) rfl ?_
    refine g_iload (i := 18) X194 hx (hb hby at_521) (by rfl) rfl ?_
    refine g_callS X194 hx hZ hown (wd hw 19 rfl) (wd hw 20 rfl) (wd hw 21 rfl) (wd hw 22 rfl) (by decide) e194 (rm_lvl l Z a0 hw p0 p1 ofs strd nrow (3 : Int32) (3 : Int32) T192.heap) (by rw [hml]; rfl) [(.long p0), (.int p1), (.int ofs), (.int strd), (.int nrow), (.int (3 : Int32)), (.int (3 : Int32))] [(.int (3 : Int32)), (.int (3 : Int32)), (.int nrow), (.int (0 : Int32)), (.long p2), (.int (1 : Int32)), (.ref a177)] rfl (lenOf pd_81 rfl) rfl (by show 8 + (8 + 11) + 38 ≤ _; decide) (by decide) (by decide) (by decide) (hb hby at_523) rfl ?_
    intro T195 v195 L195 X195 hQ195
    obtain ⟨rfl, rfl, e195⟩ := hQ195
    have N195 := Fr.app N194 (Fr.nil n0)
    show Goes p e below _ T195 (mkF m 526 #[.val (.long p0), .second, .val (.int p1), .val (.long p2), .second, .val (.int p3), .val (.int p4), .val (.int (3 : Int32)), .val (.int nrow), .val (.int pad), .val (.int ofs), .val (.int (3 : Int32)), .val (.ref a162), .val (.int strd), .val (.ref a164), .val (.ref a177), .val (.int (1 : Int32)), .val (.int (3 : Int32)), .val (.int (3 : Int32)), .val (.int (3 : Int32)), .val (.int (1 : Int32)), .val (.int (1 : Int32))] [(.long (own_lvl p0 p1 ofs strd nrow (3 : Int32) (3 : Int32))), (.int (3 : Int32)), (.int (3 : Int32)), (.int nrow), (.int (0 : Int32)), (.long p2), (.int (1 : Int32)), (.ref a177)])
    refine g_callS X195 hx hZ hown (wd hw 29 rfl) (wd hw 30 rfl) (wd hw 21 rfl) (wd hw 31 rfl) (by decide) e195 (rm_run0 l Z a0 hw a177 (1 : Int32) p2 nrow (3 : Int32) (3 : Int32) (own_lvl p0 p1 ofs strd nrow (3 : Int32) (3 : Int32)) g' T192.heap Ag' (by decide) y4 y5 y6 y7) (by rw [hml]; rfl) [(.ref a177), (.int (1 : Int32)), (.long p2), (.int (0 : Int32)), (.int nrow), (.int (3 : Int32)), (.int (3 : Int32)), (.long (own_lvl p0 p1 ofs strd nrow (3 : Int32) (3 : Int32)))] [] rfl (lenOf pd_82 rfl) rfl (by show 0 + (11 + 11) + 0 ≤ _; decide) (by decide) (by decide) (by decide) (hb hby at_526) rfl ?_
    intro T196 v196 L196 X196 hQ196
    obtain ⟨rfl, rfl, e196⟩ := hQ196
    have N196 := Fr.app N195 (Fr.nil n0)
    show Goes p e below _ T196 (mkF m 529 #[.val (.long p0), .second, .val (.int p1), .val (.long p2), .second, .val (.int p3), .val (.int p4), .val (.int (3 : Int32)), .val (.int nrow), .val (.int pad), .val (.int ofs), .val (.int (3 : Int32)), .val (.ref a162), .val (.int strd), .val (.ref a164), .val (.ref a177), .val (.int (1 : Int32)), .val (.int (3 : Int32)), .val (.int (3 : Int32)), .val (.int (3 : Int32)), .val (.int (1 : Int32)), .val (.int (1 : Int32))] [(.int (1 : Int32))])
    refine g_if_eq X196 hx (hb hby at_529) (by decide) (pt := 536) (by decide) rfl (fun q_ => absurd q_ (by decide)) (fun _ => ?_)
    refine g_iconst (v := (1 : Int32)) X196 hx (hb hby at_532) (by decide) rfl ?_
    refine g_goto X196 hx (hb hby at_533) (by decide) (by decide) (pc' := 537) ?_
    refine g_istore (i := 21) X196 hx #[.val (.long p0), .second, .val (.int p1), .val (.long p2), .second, .val (.int p3), .val (.int p4), .val (.int (3 : Int32)), .val (.int nrow), .val (.int pad), .val (.int ofs), .val (.int (3 : Int32)), .val (.ref a162), .val (.int strd), .val (.ref a164), .val (.ref a177), .val (.int (1 : Int32)), .val (.int (3 : Int32)), .val (.int (3 : Int32)), .val (.int (3 : Int32)), .val (.int (1 : Int32)), .val (.int (1 : Int32))] (hb hby at_537) rfl rfl ?_
    refine g_iload (i := 21) X196 hx (hb hby at_539) (by rfl) rfl ?_
    refine g_if_eq X196 hx (hb hby at_541) (by decide) (pt := 590) (by decide) rfl (fun q_ => absurd q_ (by decide)) (fun _ => ?_)
    refine g_aload (i := 15) X196 hx (hb hby at_544) (by rfl) rfl rfl ?_
    refine g_iconst (v := (2 : Int32)) X196 hx (hb hby at_546) (by decide) rfl ?_
    refine g_lload_n (i := 3) X196 hx (hb hby at_547) (by rfl) rfl ?_
    refine g_iload (i := 16) X196 hx (hb hby at_548) (by rfl) rfl ?_
    refine g_iconst (v := (2 : Int32)) X196 hx (hb hby at_550) (by decide) rfl ?_
    refine g_icmp_le X196 hx (hb hby at_551) (by decide) (pt := 558) (by decide) rfl (fun _ => ?_) (fun q_ => absurd q_ (by decide))
    refine g_iconst (v := (0 : Int32)) X196 hx (hb hby at_558) (by decide) rfl ?_
    refine g_iload (i := 8) X196 hx (hb hby at_559) (by rfl) rfl ?_
    refine g_iload (i := 18) X196 hx (hb hby at_561) (by rfl) rfl ?_
    refine g_iload (i := 19) X196 hx (hb hby at_563) (by rfl) rfl ?_
    refine g_lload_n (i := 0) X196 hx (hb hby at_565) (by rfl) rfl ?_
    refine g_iload_n (i := 2) X196 hx (hb hby at_566) (by rfl) rfl ?_
    refine g_iload (i := 10) X196 hx (hb hby at_567) (by rfl) rfl ?_
    refine g_iload (i := 13) X196 hx (hb hby at_569) (by rfl) rfl ?_
    refine g_iload (i := 8) X196 hx (hb hby at_571) (by rfl) rfl ?_
    refine g_iload (i := 18) X196 hx (hb hby at_573) (by rfl) rfl ?_
    refine g_iload (i := 19) X196 hx (hb hby at_575) (by rfl) rfl ?_
    refine g_callS X196 hx hZ hown (wd hw 19 rfl) (wd hw 20 rfl) (wd hw 21 rfl) (wd hw 22 rfl) (by decide) e196 (rm_lvl l Z a0 hw p0 p1 ofs strd nrow (3 : Int32) (3 : Int32) T192.heap) (by rw [hml]; rfl) [(.long p0), (.int p1), (.int ofs), (.int strd), (.int nrow), (.int (3 : Int32)), (.int (3 : Int32))] [(.int (3 : Int32)), (.int (3 : Int32)), (.int nrow), (.int (0 : Int32)), (.long p2), (.int (2 : Int32)), (.ref a177)] rfl (lenOf pd_81 rfl) rfl (by show 8 + (8 + 11) + 38 ≤ _; decide) (by decide) (by decide) (by decide) (hb hby at_577) rfl ?_
    intro T197 v197 L197 X197 hQ197
    obtain ⟨rfl, rfl, e197⟩ := hQ197
    have N197 := Fr.app N196 (Fr.nil n0)
    show Goes p e below _ T197 (mkF m 580 #[.val (.long p0), .second, .val (.int p1), .val (.long p2), .second, .val (.int p3), .val (.int p4), .val (.int (3 : Int32)), .val (.int nrow), .val (.int pad), .val (.int ofs), .val (.int (3 : Int32)), .val (.ref a162), .val (.int strd), .val (.ref a164), .val (.ref a177), .val (.int (1 : Int32)), .val (.int (3 : Int32)), .val (.int (3 : Int32)), .val (.int (3 : Int32)), .val (.int (1 : Int32)), .val (.int (1 : Int32))] [(.long (own_lvl p0 p1 ofs strd nrow (3 : Int32) (3 : Int32))), (.int (3 : Int32)), (.int (3 : Int32)), (.int nrow), (.int (0 : Int32)), (.long p2), (.int (2 : Int32)), (.ref a177)])
    refine g_callS X197 hx hZ hown (wd hw 29 rfl) (wd hw 30 rfl) (wd hw 21 rfl) (wd hw 31 rfl) (by decide) e197 (rm_run0 l Z a0 hw a177 (2 : Int32) p2 nrow (3 : Int32) (3 : Int32) (own_lvl p0 p1 ofs strd nrow (3 : Int32) (3 : Int32)) g' T192.heap Ag' (by decide) y8 y9 y10 y11) (by rw [hml]; rfl) [(.ref a177), (.int (2 : Int32)), (.long p2), (.int (0 : Int32)), (.int nrow), (.int (3 : Int32)), (.int (3 : Int32)), (.long (own_lvl p0 p1 ofs strd nrow (3 : Int32) (3 : Int32)))] [] rfl (lenOf pd_82 rfl) rfl (by show 0 + (11 + 11) + 0 ≤ _; decide) (by decide) (by decide) (by decide) (hb hby at_580) rfl ?_
    intro T198 v198 L198 X198 hQ198
    obtain ⟨rfl, rfl, e198⟩ := hQ198
    have N198 := Fr.app N197 (Fr.nil n0)
    show Goes p e below _ T198 (mkF m 583 #[.val (.long p0), .second, .val (.int p1), .val (.long p2), .second, .val (.int p3), .val (.int p4), .val (.int (3 : Int32)), .val (.int nrow), .val (.int pad), .val (.int ofs), .val (.int (3 : Int32)), .val (.ref a162), .val (.int strd), .val (.ref a164), .val (.ref a177), .val (.int (1 : Int32)), .val (.int (3 : Int32)), .val (.int (3 : Int32)), .val (.int (3 : Int32)), .val (.int (1 : Int32)), .val (.int (1 : Int32))] [(.int (1 : Int32))])
    refine g_if_eq X198 hx (hb hby at_583) (by decide) (pt := 590) (by decide) rfl (fun q_ => absurd q_ (by decide)) (fun _ => ?_)
    refine g_iconst (v := (1 : Int32)) X198 hx (hb hby at_586) (by decide) rfl ?_
    refine g_goto X198 hx (hb hby at_587) (by decide) (by decide) (pc' := 591) ?_
    refine g_istore (i := 21) X198 hx #[.val (.long p0), .second, .val (.int p1), .val (.long p2), .second, .val (.int p3), .val (.int p4), .val (.int (3 : Int32)), .val (.int nrow), .val (.int pad), .val (.int ofs), .val (.int (3 : Int32)), .val (.ref a162), .val (.int strd), .val (.ref a164), .val (.ref a177), .val (.int (1 : Int32)), .val (.int (3 : Int32)), .val (.int (3 : Int32)), .val (.int (3 : Int32)), .val (.int (1 : Int32)), .val (.int (1 : Int32))] (hb hby at_591) rfl rfl ?_
    refine g_iload (i := 21) X198 hx (hb hby at_593) (by rfl) rfl ?_
    exact g_retN X198 hx (t := .boolean) (by simp) hlk hret e198 (by decide) (by decide) (hb hby at_595) ⟨rfl, N198⟩
  · have Zc := Z0
    refine g_iload (i := 7) X0 hx (hb hby at_36) (by rfl) rfl ?_
    refine g_if_ne X0 hx (hb hby at_38) (by decide) (pt := 56) (by decide) rfl (fun _ => ?_) (fun q_ => absurd q_ (by decide))
    refine g_iload (i := 7) X0 hx (hb hby at_56) (by rfl) rfl ?_
    refine g_iconst (v := (1 : Int32)) X0 hx (hb hby at_58) (by decide) rfl ?_
    refine g_icmp_ne X0 hx (hb hby at_59) (by decide) (pt := 77) (by decide) rfl (fun _ => ?_) (fun q_ => absurd q_ (by decide))
    refine g_iload (i := 7) X0 hx (hb hby at_77) (by rfl) rfl ?_
    refine g_iconst (v := (2 : Int32)) X0 hx (hb hby at_79) (by decide) rfl ?_
    refine g_icmp_ne X0 hx (hb hby at_80) (by decide) (pt := 102) (by decide) rfl (fun _ => ?_) (fun q_ => absurd q_ (by decide))
    refine g_iload (i := 7) X0 hx (hb hby at_102) (by rfl) rfl ?_
    refine g_iconst (v := (3 : Int32)) X0 hx (hb hby at_104) (by decide) rfl ?_
    refine g_icmp_ne X0 hx (hb hby at_105) (by decide) (pt := 123) (by decide) rfl (fun _ => ?_) (fun q_ => absurd q_ (by decide))
    refine g_iload (i := 7) X0 hx (hb hby at_123) (by rfl) rfl ?_
    refine g_iconst (v := (4 : Int32)) X0 hx (hb hby at_125) (by decide) rfl ?_
    refine g_icmp_ne X0 hx (hb hby at_126) (by decide) (pt := 148) (by decide) rfl (fun q_ => absurd (by decide) q_) (fun _ => ?_)
    refine g_iconst (v := (3 : Int32)) X0 hx (hb hby at_129) (by decide) rfl ?_
    refine g_istore (i := 11) X0 hx #[.val (.long p0), .second, .val (.int p1), .val (.long p2), .second, .val (.int p3), .val (.int p4), .val (.int (4 : Int32)), .val (.int nrow), .val (.int pad), .val (.int ofs), .val (.int (3 : Int32)), .unset, .unset, .unset, .unset, .unset, .unset, .unset, .unset, .unset, .unset] (hb hby at_130) rfl rfl ?_
    refine g_iconst (v := (2 : Int32)) X0 hx (hb hby at_132) (by decide) rfl ?_
    refine g_newarr X0 hx hZ (ty := .int) rfl (wd hw 1 rfl) e0 (hb hby at_133) rfl (by decide) 2 (by decide) (by decide) (by decide) (by decide) ?_
    intro T199 h199 cA199 a199 X199 e199 g199 Ex199 A199
    have gn_a199 : n0 ≤ a199 := by rw [g199]; exact Zc
    have Zc199 : n0 ≤ h199.size := Nat.le_trans Zc Ex199.1
    have Ar199 : ArI Z h199 a199 .int 2 (fun _ => 0) := ArI.new A199 0 rfl
    refine g_dup X199 hx (hb hby at_135) rfl rfl ?_
    refine g_iconst (v := (0 : Int32)) X199 hx (hb hby at_136) (by decide) rfl ?_
    refine g_iconst (v := (1 : Int32)) X199 hx (hb hby at_137) (by decide) rfl ?_
    refine g_iastoreN X199 hx hZ e199 Ar199 0 (by decide) (by decide) (by decide) (hb hby at_138) rfl ?_
    intro T200 h200 X200 e200 W200 Ar200
    have N200 := Fr.snoc X200 (Fr.nil n0) gn_a199
    have Zc200 : n0 ≤ h200.size := by rw [W200.size]; exact Zc199
    refine g_dup X200 hx (hb hby at_139) rfl rfl ?_
    refine g_iconst (v := (1 : Int32)) X200 hx (hb hby at_140) (by decide) rfl ?_
    refine g_iconst (v := (3 : Int32)) X200 hx (hb hby at_141) (by decide) rfl ?_
    refine g_iastoreN X200 hx hZ e200 Ar200 1 (by decide) (by decide) (by decide) (hb hby at_142) rfl ?_
    intro T201 h201 X201 e201 W201 Ar201
    have N201 := Fr.snoc X201 N200 gn_a199
    have Zc201 : n0 ≤ h201.size := by rw [W201.size]; exact Zc200
    refine g_astore (i := 12) X201 hx #[.val (.long p0), .second, .val (.int p1), .val (.long p2), .second, .val (.int p3), .val (.int p4), .val (.int (4 : Int32)), .val (.int nrow), .val (.int pad), .val (.int ofs), .val (.int (3 : Int32)), .val (.ref a199), .unset, .unset, .unset, .unset, .unset, .unset, .unset, .unset, .unset] (hb hby at_143) rfl rfl rfl ?_
    refine g_goto X201 hx (hb hby at_145) (by decide) (by decide) (pc' := 193) ?_
    refine g_iload (i := 11) X201 hx (hb hby at_193) (by rfl) rfl ?_
    refine g_iload (i := 9) X201 hx (hb hby at_195) (by rfl) rfl ?_
    refine g_iadd X201 hx (hb hby at_197) rfl ?_
    refine g_istore (i := 13) X201 hx #[.val (.long p0), .second, .val (.int p1), .val (.long p2), .second, .val (.int p3), .val (.int p4), .val (.int (4 : Int32)), .val (.int nrow), .val (.int pad), .val (.int ofs), .val (.int (3 : Int32)), .val (.ref a199), .val (.int ((3 : Int32) + pad)), .unset, .unset, .unset, .unset, .unset, .unset, .unset, .unset] (hb hby at_198) rfl rfl ?_
    have hst : (((3 : Int32) + pad)).toInt = 3 + pad.toInt := by have e := c_iadd (3 : Int32) pad; have r := rng32 (((3 : Int32) + pad)); rw [show ((3 : Int32)).toInt = 3 from rfl] at e; omega
    revert hst
    generalize ((3 : Int32) + pad) = strd
    intro hst
    refine g_bipush (v := (12 : Int32)) X201 hx (hb hby at_200) (by decide) rfl ?_
    refine g_newarr X201 hx hZ (ty := .byte) rfl (wd hw 2 rfl) e201 (hb hby at_202) rfl (by decide) 12 (by decide) (by decide) (by decide) (by decide) ?_
    intro T202 h202 cA202 a202 X202 e202 g202 Ex202 A202
    have ne_a199_a202 : a199 ≠ a202 := fun q => absurd Ar201.lt (by rw [q, g202]; exact Nat.lt_irrefl _)
    have B202_a199 := Ar201.ext Ex202
    have gn_a202 : n0 ≤ a202 := by rw [g202]; exact Zc201
    have Zc202 : n0 ≤ h202.size := Nat.le_trans Zc201 Ex202.1
    have Ar202 : ArI Z h202 a202 .byte 12 (fun _ => 0) := ArI.new A202 0 rfl
    refine g_dup X202 hx (hb hby at_204) rfl rfl ?_
    refine g_iconst (v := (0 : Int32)) X202 hx (hb hby at_205) (by decide) rfl ?_
    refine g_lload_n (i := 0) X202 hx (hb hby at_206) (by rfl) rfl ?_
    refine g_l2i X202 hx (hb hby at_207) rfl ?_
    refine g_i2b X202 hx (hb hby at_208) rfl ?_
    refine g_bastoreN X202 hx hZ e202 Ar202 0 (by decide) (by decide) (by decide) (hb hby at_209) rfl ?_
    intro T203 h203 X203 e203 W203 Ar203
    have N203 := Fr.snoc X203 N201 gn_a202
    have B203_a199 := B202_a199.other W203 ne_a199_a202
    have Zc203 : n0 ≤ h203.size := by rw [W203.size]; exact Zc202
    refine g_dup X203 hx (hb hby at_210) rfl rfl ?_
    refine g_iconst (v := (1 : Int32)) X203 hx (hb hby at_211) (by decide) rfl ?_
    refine g_lload_n (i := 0) X203 hx (hb hby at_212) (by rfl) rfl ?_
    refine g_bipush (v := (8 : Int32)) X203 hx (hb hby at_213) (by decide) rfl ?_
    refine g_lushr X203 hx (hb hby at_215) rfl ?_
    refine g_l2i X203 hx (hb hby at_216) rfl ?_
    refine g_i2b X203 hx (hb hby at_217) rfl ?_
    refine g_bastoreN X203 hx hZ e203 Ar203 1 (by decide) (by decide) (by decide) (hb hby at_218) rfl ?_
    intro T204 h204 X204 e204 W204 Ar204
    have N204 := Fr.snoc X204 N203 gn_a202
    have B204_a199 := B203_a199.other W204 ne_a199_a202
    have Zc204 : n0 ≤ h204.size := by rw [W204.size]; exact Zc203
    refine g_dup X204 hx (hb hby at_219) rfl rfl ?_
    refine g_iconst (v := (2 : Int32)) X204 hx (hb hby at_220) (by decide) rfl ?_
    refine g_lload_n (i := 0) X204 hx (hb hby at_221) (by rfl) rfl ?_
    refine g_bipush (v := (16 : Int32)) X204 hx (hb hby at_222) (by decide) rfl ?_
    refine g_lushr X204 hx (hb hby at_224) rfl ?_
    refine g_l2i X204 hx (hb hby at_225) rfl ?_
    refine g_i2b X204 hx (hb hby at_226) rfl ?_
    refine g_bastoreN X204 hx hZ e204 Ar204 2 (by decide) (by decide) (by decide) (hb hby at_227) rfl ?_
    intro T205 h205 X205 e205 W205 Ar205
    have N205 := Fr.snoc X205 N204 gn_a202
    have B205_a199 := B204_a199.other W205 ne_a199_a202
    have Zc205 : n0 ≤ h205.size := by rw [W205.size]; exact Zc204
    refine g_dup X205 hx (hb hby at_228) rfl rfl ?_
    refine g_iconst (v := (3 : Int32)) X205 hx (hb hby at_229) (by decide) rfl ?_
    refine g_lload_n (i := 0) X205 hx (hb hby at_230) (by rfl) rfl ?_
    refine g_bipush (v := (24 : Int32)) X205 hx (hb hby at_231) (by decide) rfl ?_
    refine g_lushr X205 hx (hb hby at_233) rfl ?_
    refine g_l2i X205 hx (hb hby at_234) rfl ?_
    refine g_i2b X205 hx (hb hby at_235) rfl ?_
    refine g_bastoreN X205 hx hZ e205 Ar205 3 (by decide) (by decide) (by decide) (hb hby at_236) rfl ?_
    intro T206 h206 X206 e206 W206 Ar206
    have N206 := Fr.snoc X206 N205 gn_a202
    have B206_a199 := B205_a199.other W206 ne_a199_a202
    have Zc206 : n0 ≤ h206.size := by rw [W206.size]; exact Zc205
    refine g_dup X206 hx (hb hby at_237) rfl rfl ?_
    refine g_iconst (v := (4 : Int32)) X206 hx (hb hby at_238) (by decide) rfl ?_
    refine g_lload_n (i := 0) X206 hx (hb hby at_239) (by rfl) rfl ?_
    refine g_bipush (v := (32 : Int32)) X206 hx (hb hby at_240) (by decide) rfl ?_
    refine g_lushr X206 hx (hb hby at_242) rfl ?_
    refine g_l2i X206 hx (hb hby at_243) rfl ?_
    refine g_i2b X206 hx (hb hby at_244) rfl ?_
    refine g_bastoreN X206 hx hZ e206 Ar206 4 (by decide) (by decide) (by decide) (hb hby at_245) rfl ?_
    intro T207 h207 X207 e207 W207 Ar207
    have N207 := Fr.snoc X207 N206 gn_a202
    have B207_a199 := B206_a199.other W207 ne_a199_a202
    have Zc207 : n0 ≤ h207.size := by rw [W207.size]; exact Zc206
    refine g_dup X207 hx (hb hby at_246) rfl rfl ?_
    refine g_iconst (v := (5 : Int32)) X207 hx (hb hby at_247) (by decide) rfl ?_
    refine g_lload_n (i := 0) X207 hx (hb hby at_248) (by rfl) rfl ?_
    refine g_bipush (v := (40 : Int32)) X207 hx (hb hby at_249) (by decide) rfl ?_
    refine g_lushr X207 hx (hb hby at_251) rfl ?_
    refine g_l2i X207 hx (hb hby at_252) rfl ?_
    refine g_i2b X207 hx (hb hby at_253) rfl ?_
    refine g_bastoreN X207 hx hZ e207 Ar207 5 (by decide) (by decide) (by decide) (hb hby at_254) rfl ?_
    intro T208 h208 X208 e208 W208 Ar208
    have N208 := Fr.snoc X208 N207 gn_a202
    have B208_a199 := B207_a199.other W208 ne_a199_a202
    have Zc208 : n0 ≤ h208.size := by rw [W208.size]; exact Zc207
    refine g_dup X208 hx (hb hby at_255) rfl rfl ?_
    refine g_bipush (v := (6 : Int32)) X208 hx (hb hby at_256) (by decide) rfl ?_
    refine g_lload_n (i := 0) X208 hx (hb hby at_258) (by rfl) rfl ?_
    refine g_bipush (v := (48 : Int32)) X208 hx (hb hby at_259) (by decide) rfl ?_
    refine g_lushr X208 hx (hb hby at_261) rfl ?_
    refine g_l2i X208 hx (hb hby at_262) rfl ?_
    refine g_i2b X208 hx (hb hby at_263) rfl ?_
    refine g_bastoreN X208 hx hZ e208 Ar208 6 (by decide) (by decide) (by decide) (hb hby at_264) rfl ?_
    intro T209 h209 X209 e209 W209 Ar209
    have N209 := Fr.snoc X209 N208 gn_a202
    have B209_a199 := B208_a199.other W209 ne_a199_a202
    have Zc209 : n0 ≤ h209.size := by rw [W209.size]; exact Zc208
    refine g_dup X209 hx (hb hby at_265) rfl rfl ?_
    refine g_bipush (v := (7 : Int32)) X209 hx (hb hby at_266) (by decide) rfl ?_
    refine g_lload_n (i := 0) X209 hx (hb hby at_268) (by rfl) rfl ?_
    refine g_bipush (v := (56 : Int32)) X209 hx (hb hby at_269) (by decide) rfl ?_
    refine g_lushr X209 hx (hb hby at_271) rfl ?_
    refine g_l2i X209 hx (hb hby at_272) rfl ?_
    refine g_i2b X209 hx (hb hby at_273) rfl ?_
    refine g_bastoreN X209 hx hZ e209 Ar209 7 (by decide) (by decide) (by decide) (hb hby at_274) rfl ?_
    intro T210 h210 X210 e210 W210 Ar210
    have N210 := Fr.snoc X210 N209 gn_a202
    have B210_a199 := B209_a199.other W210 ne_a199_a202
    have Zc210 : n0 ≤ h210.size := by rw [W210.size]; exact Zc209
    refine g_dup X210 hx (hb hby at_275) rfl rfl ?_
    refine g_bipush (v := (8 : Int32)) X210 hx (hb hby at_276) (by decide) rfl ?_
    refine g_iload_n (i := 2) X210 hx (hb hby at_278) (by rfl) rfl ?_
    refine g_i2b X210 hx (hb hby at_279) rfl ?_
    refine g_bastoreN X210 hx hZ e210 Ar210 8 (by decide) (by decide) (by decide) (hb hby at_280) rfl ?_
    intro T211 h211 X211 e211 W211 Ar211
    have N211 := Fr.snoc X211 N210 gn_a202
    have B211_a199 := B210_a199.other W211 ne_a199_a202
    have Zc211 : n0 ≤ h211.size := by rw [W211.size]; exact Zc210
    refine g_dup X211 hx (hb hby at_281) rfl rfl ?_
    refine g_bipush (v := (9 : Int32)) X211 hx (hb hby at_282) (by decide) rfl ?_
    refine g_iload_n (i := 2) X211 hx (hb hby at_284) (by rfl) rfl ?_
    refine g_bipush (v := (8 : Int32)) X211 hx (hb hby at_285) (by decide) rfl ?_
    refine g_iushr X211 hx (hb hby at_287) rfl ?_
    refine g_i2b X211 hx (hb hby at_288) rfl ?_
    refine g_bastoreN X211 hx hZ e211 Ar211 9 (by decide) (by decide) (by decide) (hb hby at_289) rfl ?_
    intro T212 h212 X212 e212 W212 Ar212
    have N212 := Fr.snoc X212 N211 gn_a202
    have B212_a199 := B211_a199.other W212 ne_a199_a202
    have Zc212 : n0 ≤ h212.size := by rw [W212.size]; exact Zc211
    refine g_dup X212 hx (hb hby at_290) rfl rfl ?_
    refine g_bipush (v := (10 : Int32)) X212 hx (hb hby at_291) (by decide) rfl ?_
    refine g_iload_n (i := 2) X212 hx (hb hby at_293) (by rfl) rfl ?_
    refine g_bipush (v := (16 : Int32)) X212 hx (hb hby at_294) (by decide) rfl ?_
    refine g_iushr X212 hx (hb hby at_296) rfl ?_
    refine g_i2b X212 hx (hb hby at_297) rfl ?_
    refine g_bastoreN X212 hx hZ e212 Ar212 10 (by decide) (by decide) (by decide) (hb hby at_298) rfl ?_
    intro T213 h213 X213 e213 W213 Ar213
    have N213 := Fr.snoc X213 N212 gn_a202
    have B213_a199 := B212_a199.other W213 ne_a199_a202
    have Zc213 : n0 ≤ h213.size := by rw [W213.size]; exact Zc212
    refine g_dup X213 hx (hb hby at_299) rfl rfl ?_
    refine g_bipush (v := (11 : Int32)) X213 hx (hb hby at_300) (by decide) rfl ?_
    refine g_iload_n (i := 2) X213 hx (hb hby at_302) (by rfl) rfl ?_
    refine g_bipush (v := (24 : Int32)) X213 hx (hb hby at_303) (by decide) rfl ?_
    refine g_iushr X213 hx (hb hby at_305) rfl ?_
    refine g_i2b X213 hx (hb hby at_306) rfl ?_
    refine g_bastoreN X213 hx hZ e213 Ar213 11 (by decide) (by decide) (by decide) (hb hby at_307) rfl ?_
    intro T214 h214 X214 e214 W214 Ar214
    have N214 := Fr.snoc X214 N213 gn_a202
    have B214_a199 := B213_a199.other W214 ne_a199_a202
    have Zc214 : n0 ≤ h214.size := by rw [W214.size]; exact Zc213
    refine g_astore (i := 14) X214 hx #[.val (.long p0), .second, .val (.int p1), .val (.long p2), .second, .val (.int p3), .val (.int p4), .val (.int (4 : Int32)), .val (.int nrow), .val (.int pad), .val (.int ofs), .val (.int (3 : Int32)), .val (.ref a199), .val (.int strd), .val (.ref a202), .unset, .unset, .unset, .unset, .unset, .unset, .unset] (hb hby at_308) rfl rfl rfl ?_
    refine g_bipush (v := (12 : Int32)) X214 hx (hb hby at_310) (by decide) rfl ?_
    refine g_newarr X214 hx hZ (ty := .long) rfl (wd hw 3 rfl) e214 (hb hby at_312) rfl (by decide) 12 (by decide) (by decide) (by decide) (by decide) ?_
    intro T215 h215 cA215 a215 X215 e215 g215 Ex215 A215
    have ne_a199_a215 : a199 ≠ a215 := fun q => absurd B214_a199.lt (by rw [q, g215]; exact Nat.lt_irrefl _)
    have B215_a199 := B214_a199.ext Ex215
    have ne_a202_a215 : a202 ≠ a215 := fun q => absurd Ar214.lt (by rw [q, g215]; exact Nat.lt_irrefl _)
    have B215_a202 := Ar214.ext Ex215
    have gn_a215 : n0 ≤ a215 := by rw [g215]; exact Zc214
    have Zc215 : n0 ≤ h215.size := Nat.le_trans Zc214 Ex215.1
    have Ar215 : ArJ Z h215 a215 .long 12 (fun _ => 0) := ArJ.new A215 0 rfl
    refine g_dup X215 hx (hb hby at_314) rfl rfl ?_
    refine g_iconst (v := (0 : Int32)) X215 hx (hb hby at_315) (by decide) rfl ?_
    refine g_lload_n (i := 3) X215 hx (hb hby at_316) (by rfl) rfl ?_
    refine g_lastoreN X215 hx hZ e215 Ar215 0 (by decide) (by decide) (by decide) (hb hby at_317) rfl ?_
    intro T216 h216 X216 e216 W216 Ar216
    have N216 := Fr.snoc X216 N214 gn_a215
    have B216_a199 := B215_a199.other W216 ne_a199_a215
    have B216_a202 := B215_a202.other W216 ne_a202_a215
    have Zc216 : n0 ≤ h216.size := by rw [W216.size]; exact Zc215
    refine g_dup X216 hx (hb hby at_318) rfl rfl ?_
    refine g_iconst (v := (1 : Int32)) X216 hx (hb hby at_319) (by decide) rfl ?_
    refine g_lload_n (i := 3) X216 hx (hb hby at_320) (by rfl) rfl ?_
    refine g_lastoreN X216 hx hZ e216 Ar216 1 (by decide) (by decide) (by decide) (hb hby at_321) rfl ?_
    intro T217 h217 X217 e217 W217 Ar217
    have N217 := Fr.snoc X217 N216 gn_a215
    have B217_a199 := B216_a199.other W217 ne_a199_a215
    have B217_a202 := B216_a202.other W217 ne_a202_a215
    have Zc217 : n0 ≤ h217.size := by rw [W217.size]; exact Zc216
    refine g_dup X217 hx (hb hby at_322) rfl rfl ?_
    refine g_iconst (v := (2 : Int32)) X217 hx (hb hby at_323) (by decide) rfl ?_
    refine g_lload_n (i := 3) X217 hx (hb hby at_324) (by rfl) rfl ?_
    refine g_lastoreN X217 hx hZ e217 Ar217 2 (by decide) (by decide) (by decide) (hb hby at_325) rfl ?_
    intro T218 h218 X218 e218 W218 Ar218
    have N218 := Fr.snoc X218 N217 gn_a215
    have B218_a199 := B217_a199.other W218 ne_a199_a215
    have B218_a202 := B217_a202.other W218 ne_a202_a215
    have Zc218 : n0 ≤ h218.size := by rw [W218.size]; exact Zc217
    refine g_dup X218 hx (hb hby at_326) rfl rfl ?_
    refine g_iconst (v := (3 : Int32)) X218 hx (hb hby at_327) (by decide) rfl ?_
    refine g_lload_n (i := 3) X218 hx (hb hby at_328) (by rfl) rfl ?_
    refine g_lastoreN X218 hx hZ e218 Ar218 3 (by decide) (by decide) (by decide) (hb hby at_329) rfl ?_
    intro T219 h219 X219 e219 W219 Ar219
    have N219 := Fr.snoc X219 N218 gn_a215
    have B219_a199 := B218_a199.other W219 ne_a199_a215
    have B219_a202 := B218_a202.other W219 ne_a202_a215
    have Zc219 : n0 ≤ h219.size := by rw [W219.size]; exact Zc218
    refine g_dup X219 hx (hb hby at_330) rfl rfl ?_
    refine g_iconst (v := (4 : Int32)) X219 hx (hb hby at_331) (by decide) rfl ?_
    refine g_lload_n (i := 3) X219 hx (hb hby at_332) (by rfl) rfl ?_
    refine g_lastoreN X219 hx hZ e219 Ar219 4 (by decide) (by decide) (by decide) (hb hby at_333) rfl ?_
    intro T220 h220 X220 e220 W220 Ar220
    have N220 := Fr.snoc X220 N219 gn_a215
    have B220_a199 := B219_a199.other W220 ne_a199_a215
    have B220_a202 := B219_a202.other W220 ne_a202_a215
    have Zc220 : n0 ≤ h220.size := by rw [W220.size]; exact Zc219
    refine g_dup X220 hx (hb hby at_334) rfl rfl ?_
    refine g_iconst (v := (5 : Int32)) X220 hx (hb hby at_335) (by decide) rfl ?_
    refine g_lload_n (i := 3) X220 hx (hb hby at_336) (by rfl) rfl ?_
    refine g_lastoreN X220 hx hZ e220 Ar220 5 (by decide) (by decide) (by decide) (hb hby at_337) rfl ?_
    intro T221 h221 X221 e221 W221 Ar221
    have N221 := Fr.snoc X221 N220 gn_a215
    have B221_a199 := B220_a199.other W221 ne_a199_a215
    have B221_a202 := B220_a202.other W221 ne_a202_a215
    have Zc221 : n0 ≤ h221.size := by rw [W221.size]; exact Zc220
    refine g_dup X221 hx (hb hby at_338) rfl rfl ?_
    refine g_bipush (v := (6 : Int32)) X221 hx (hb hby at_339) (by decide) rfl ?_
    refine g_lload_n (i := 3) X221 hx (hb hby at_341) (by rfl) rfl ?_
    refine g_lastoreN X221 hx hZ e221 Ar221 6 (by decide) (by decide) (by decide) (hb hby at_342) rfl ?_
    intro T222 h222 X222 e222 W222 Ar222
    have N222 := Fr.snoc X222 N221 gn_a215
    have B222_a199 := B221_a199.other W222 ne_a199_a215
    have B222_a202 := B221_a202.other W222 ne_a202_a215
    have Zc222 : n0 ≤ h222.size := by rw [W222.size]; exact Zc221
    refine g_dup X222 hx (hb hby at_343) rfl rfl ?_
    refine g_bipush (v := (7 : Int32)) X222 hx (hb hby at_344) (by decide) rfl ?_
    refine g_lload_n (i := 3) X222 hx (hb hby at_346) (by rfl) rfl ?_
    refine g_lastoreN X222 hx hZ e222 Ar222 7 (by decide) (by decide) (by decide) (hb hby at_347) rfl ?_
    intro T223 h223 X223 e223 W223 Ar223
    have N223 := Fr.snoc X223 N222 gn_a215
    have B223_a199 := B222_a199.other W223 ne_a199_a215
    have B223_a202 := B222_a202.other W223 ne_a202_a215
    have Zc223 : n0 ≤ h223.size := by rw [W223.size]; exact Zc222
    refine g_dup X223 hx (hb hby at_348) rfl rfl ?_
    refine g_bipush (v := (8 : Int32)) X223 hx (hb hby at_349) (by decide) rfl ?_
    refine g_lload_n (i := 3) X223 hx (hb hby at_351) (by rfl) rfl ?_
    refine g_lastoreN X223 hx hZ e223 Ar223 8 (by decide) (by decide) (by decide) (hb hby at_352) rfl ?_
    intro T224 h224 X224 e224 W224 Ar224
    have N224 := Fr.snoc X224 N223 gn_a215
    have B224_a199 := B223_a199.other W224 ne_a199_a215
    have B224_a202 := B223_a202.other W224 ne_a202_a215
    have Zc224 : n0 ≤ h224.size := by rw [W224.size]; exact Zc223
    refine g_dup X224 hx (hb hby at_353) rfl rfl ?_
    refine g_bipush (v := (9 : Int32)) X224 hx (hb hby at_354) (by decide) rfl ?_
    refine g_lload_n (i := 3) X224 hx (hb hby at_356) (by rfl) rfl ?_
    refine g_lastoreN X224 hx hZ e224 Ar224 9 (by decide) (by decide) (by decide) (hb hby at_357) rfl ?_
    intro T225 h225 X225 e225 W225 Ar225
    have N225 := Fr.snoc X225 N224 gn_a215
    have B225_a199 := B224_a199.other W225 ne_a199_a215
    have B225_a202 := B224_a202.other W225 ne_a202_a215
    have Zc225 : n0 ≤ h225.size := by rw [W225.size]; exact Zc224
    refine g_dup X225 hx (hb hby at_358) rfl rfl ?_
    refine g_bipush (v := (10 : Int32)) X225 hx (hb hby at_359) (by decide) rfl ?_
    refine g_lload_n (i := 3) X225 hx (hb hby at_361) (by rfl) rfl ?_
    refine g_lastoreN X225 hx hZ e225 Ar225 10 (by decide) (by decide) (by decide) (hb hby at_362) rfl ?_
    intro T226 h226 X226 e226 W226 Ar226
    have N226 := Fr.snoc X226 N225 gn_a215
    have B226_a199 := B225_a199.other W226 ne_a199_a215
    have B226_a202 := B225_a202.other W226 ne_a202_a215
    have Zc226 : n0 ≤ h226.size := by rw [W226.size]; exact Zc225
    refine g_dup X226 hx (hb hby at_363) rfl rfl ?_
    refine g_bipush (v := (11 : Int32)) X226 hx (hb hby at_364) (by decide) rfl ?_
    refine g_lload_n (i := 3) X226 hx (hb hby at_366) (by rfl) rfl ?_
    refine g_lastoreN X226 hx hZ e226 Ar226 11 (by decide) (by decide) (by decide) (hb hby at_367) rfl ?_
    intro T227 h227 X227 e227 W227 Ar227
    have N227 := Fr.snoc X227 N226 gn_a215
    have B227_a199 := B226_a199.other W227 ne_a199_a215
    have B227_a202 := B226_a202.other W227 ne_a202_a215
    have Zc227 : n0 ≤ h227.size := by rw [W227.size]; exact Zc226
    refine g_astore (i := 15) X227 hx #[.val (.long p0), .second, .val (.int p1), .val (.long p2), .second, .val (.int p3), .val (.int p4), .val (.int (4 : Int32)), .val (.int nrow), .val (.int pad), .val (.int ofs), .val (.int (3 : Int32)), .val (.ref a199), .val (.int strd), .val (.ref a202), .val (.ref a215), .unset, .unset, .unset, .unset, .unset, .unset] (hb hby at_368) rfl rfl rfl ?_
    refine g_aload (i := 12) X227 hx (hb hby at_370) (by rfl) rfl rfl ?_
    refine g_arraylengthI X227 hx hZ e227 B227_a199 (z := (2 : Int32)) (by decide) (hb hby at_372) rfl ?_
    refine g_istore (i := 16) X227 hx #[.val (.long p0), .second, .val (.int p1), .val (.long p2), .second, .val (.int p3), .val (.int p4), .val (.int (4 : Int32)), .val (.int nrow), .val (.int pad), .val (.int ofs), .val (.int (3 : Int32)), .val (.ref a199), .val (.int strd), .val (.ref a202), .val (.ref a215), .val (.int (2 : Int32)), .unset, .unset, .unset, .unset, .unset] (hb hby at_373) rfl rfl ?_
    refine g_aload (i := 12) X227 hx (hb hby at_375) (by rfl) rfl rfl ?_
    refine g_iconst (v := (0 : Int32)) X227 hx (hb hby at_377) (by decide) rfl ?_
    refine g_iaload' X227 hx hZ e227 B227_a199 (by decide) (by decide) (x := (1 : Int32)) rfl (hb hby at_378) rfl ?_
    refine g_istore (i := 17) X227 hx #[.val (.long p0), .second, .val (.int p1), .val (.long p2), .second, .val (.int p3), .val (.int p4), .val (.int (4 : Int32)), .val (.int nrow), .val (.int pad), .val (.int ofs), .val (.int (3 : Int32)), .val (.ref a199), .val (.int strd), .val (.ref a202), .val (.ref a215), .val (.int (2 : Int32)), .val (.int (1 : Int32)), .unset, .unset, .unset, .unset] (hb hby at_379) rfl rfl ?_
    refine g_iload (i := 16) X227 hx (hb hby at_381) (by rfl) rfl ?_
    refine g_iconst (v := (1 : Int32)) X227 hx (hb hby at_383) (by decide) rfl ?_
    refine g_icmp_le X227 hx (hb hby at_384) (by decide) (pt := 394) (by decide) rfl (fun q_ => absurd (by decide) q_) (fun _ => ?_)
    refine g_aload (i := 12) X227 hx (hb hby at_387) (by rfl) rfl rfl ?_
    refine g_iconst (v := (1 : Int32)) X227 hx (hb hby at_389) (by decide) rfl ?_
    refine g_iaload' X227 hx hZ e227 B227_a199 (by decide) (by decide) (x := (3 : Int32)) rfl (hb hby at_390) rfl ?_
    refine g_goto X227 hx (hb hby at_391) (by decide) (by decide) (pc' := 396) ?_
    refine g_istore (i := 18) X227 hx #[.val (.long p0), .second, .val (.int p1), .val (.long p2), .second, .val (.int p3), .val (.int p4), .val (.int (4 : Int32)), .val (.int nrow), .val (.int pad), .val (.int ofs), .val (.int (3 : Int32)), .val (.ref a199), .val (.int strd), .val (.ref a202), .val (.ref a215), .val (.int (2 : Int32)), .val (.int (1 : Int32)), .val (.int (3 : Int32)), .unset, .unset, .unset] (hb hby at_396) rfl rfl ?_
    refine g_iload (i := 16) X227 hx (hb hby at_398) (by rfl) rfl ?_
    refine g_iconst (v := (2 : Int32)) X227 hx (hb hby at_400) (by decide) rfl ?_
    refine g_icmp_le X227 hx (hb hby at_401) (by decide) (pt := 411) (by decide) rfl (fun _ => ?_) (fun q_ => absurd q_ (by decide))
    refine g_iload (i := 18) X227 hx (hb hby at_411) (by rfl) rfl ?_
    refine g_istore (i := 19) X227 hx #[.val (.long p0), .second, .val (.int p1), .val (.long p2), .second, .val (.int p3), .val (.int p4), .val (.int (4 : Int32)), .val (.int nrow), .val (.int pad), .val (.int ofs), .val (.int (3 : Int32)), .val (.ref a199), .val (.int strd), .val (.ref a202), .val (.ref a215), .val (.int (2 : Int32)), .val (.int (1 : Int32)), .val (.int (3 : Int32)), .val (.int (3 : Int32)), .unset, .unset] (hb hby at_413) rfl rfl ?_
    obtain ⟨S, hS⟩ : ∃ S : Nat, strd.toInt = (S : Int) := ⟨strd.toInt.toNat, by omega⟩
    obtain ⟨f, As, hf⟩ : ∃ f, ArI Z h227 a202 .byte 12 f ∧ ∀ i, i < 12 → f i &&& 255 = own_smp p0 p1 (Int32.ofNat i) := by
      refine ⟨_, B227_a202, fun i hi => ?_⟩
      rcases own_twelve i hi with rfl | rfl | rfl | rfl | rfl | rfl | rfl | rfl | rfl | rfl | rfl | rfl
      · exact (by show _ = own_smp p0 p1 (Int32.ofNat 0); rw [show own_smp p0 p1 (Int32.ofNat 0) = (XT.ushrL p0 (0 : Int32)).toInt32 &&& 255 from if_pos (by decide), own_u0L]; exact own_nb255 _)
      · exact (by show _ = own_smp p0 p1 (Int32.ofNat 1); rw [show own_smp p0 p1 (Int32.ofNat 1) = (XT.ushrL p0 (8 : Int32)).toInt32 &&& 255 from if_pos (by decide)]; exact own_nb255 _)
      · exact (by show _ = own_smp p0 p1 (Int32.ofNat 2); rw [show own_smp p0 p1 (Int32.ofNat 2) = (XT.ushrL p0 (16 : Int32)).toInt32 &&& 255 from if_pos (by decide)]; exact own_nb255 _)
      · exact (by show _ = own_smp p0 p1 (Int32.ofNat 3); rw [show own_smp p0 p1 (Int32.ofNat 3) = (XT.ushrL p0 (24 : Int32)).toInt32 &&& 255 from if_pos (by decide)]; exact own_nb255 _)
      · exact (by show _ = own_smp p0 p1 (Int32.ofNat 4); rw [show own_smp p0 p1 (Int32.ofNat 4) = (XT.ushrL p0 (32 : Int32)).toInt32 &&& 255 from if_pos (by decide)]; exact own_nb255 _)
      · exact (by show _ = own_smp p0 p1 (Int32.ofNat 5); rw [show own_smp p0 p1 (Int32.ofNat 5) = (XT.ushrL p0 (40 : Int32)).toInt32 &&& 255 from if_pos (by decide)]; exact own_nb255 _)
      · exact (by show _ = own_smp p0 p1 (Int32.ofNat 6); rw [show own_smp p0 p1 (Int32.ofNat 6) = (XT.ushrL p0 (48 : Int32)).toInt32 &&& 255 from if_pos (by decide)]; exact own_nb255 _)
      · exact (by show _ = own_smp p0 p1 (Int32.ofNat 7); rw [show own_smp p0 p1 (Int32.ofNat 7) = (XT.ushrL p0 (56 : Int32)).toInt32 &&& 255 from if_pos (by decide)]; exact own_nb255 _)
      · exact (by show _ = own_smp p0 p1 (Int32.ofNat 8); rw [show own_smp p0 p1 (Int32.ofNat 8) = XT.ushr p1 (0 : Int32) &&& 255 from if_neg (by decide), own_u0]; exact own_nb255 _)
      · exact (by show _ = own_smp p0 p1 (Int32.ofNat 9); rw [show own_smp p0 p1 (Int32.ofNat 9) = XT.ushr p1 (8 : Int32) &&& 255 from if_neg (by decide)]; exact own_nb255 _)
      · exact (by show _ = own_smp p0 p1 (Int32.ofNat 10); rw [show own_smp p0 p1 (Int32.ofNat 10) = XT.ushr p1 (16 : Int32) &&& 255 from if_neg (by decide)]; exact own_nb255 _)
      · exact (by show _ = own_smp p0 p1 (Int32.ofNat 11); rw [show own_smp p0 p1 (Int32.ofNat 11) = XT.ushr p1 (24 : Int32) &&& 255 from if_neg (by decide)]; exact own_nb255 _)
    refine g_new X227 hx hZ hown (wd hw 4 rfl) (wd hw 5 rfl) (wd hw 6 rfl) e227 (hb hby at_415) rfl (by decide) (by decide) ?_
    intro T228 h228 a228 X228 e228 g228 Ex228 E228 D228
    have C_a199 := B227_a199.ext Ex228
    have C_a215 := Ar227.ext Ex228
    have As2 := As.ext Ex228
    refine g_dup X228 hx (hb hby at_418) rfl rfl ?_
    refine g_callI X228 hx hZ rfl hown (wd hw 7 rfl) (wd hw 8 rfl) (wd hw 6 rfl) (wd hw 9 rfl) (by decide) e228 (rm_init l Z a0 hw a228 h228) (by rw [hml]; rfl) a228 [] [(.ref a228)] rfl (lenOf pd_79 rfl) rfl (by show 1 + (1 + 11) + 12 ≤ _; decide) (by decide) (by decide) (by decide) (hb hby at_419) rfl ?_
    intro T229 v229 L229 X229 hQ229
    obtain ⟨rfl, rfl, e229⟩ := hQ229
    have N229 := Fr.app N227 (Fr.nil n0)
    show Goes p e below _ T229 (mkF m 422 #[.val (.long p0), .second, .val (.int p1), .val (.long p2), .second, .val (.int p3), .val (.int p4), .val (.int (4 : Int32)), .val (.int nrow), .val (.int pad), .val (.int ofs), .val (.int (3 : Int32)), .val (.ref a199), .val (.int strd), .val (.ref a202), .val (.ref a215), .val (.int (2 : Int32)), .val (.int (1 : Int32)), .val (.int (3 : Int32)), .val (.int (3 : Int32)), .unset, .unset] [(.ref a228)])
    refine g_aload (i := 14) X229 hx (hb hby at_422) (by rfl) rfl rfl ?_
    refine g_iload (i := 10) X229 hx (hb hby at_424) (by rfl) rfl ?_
    refine g_iload (i := 13) X229 hx (hb hby at_426) (by rfl) rfl ?_
    refine g_iload (i := 8) X229 hx (hb hby at_428) (by rfl) rfl ?_
    refine g_aload (i := 12) X229 hx (hb hby at_430) (by rfl) rfl rfl ?_
    refine g_aload (i := 15) X229 hx (hb hby at_432) (by rfl) rfl rfl ?_
    refine g_callV X229 hx hZ hown (wd hw 13 rfl) (wd hw 14 rfl) (wd hw 16 rfl) (wd hw 15 rfl) (wd hw 6 rfl) (wd hw 17 rfl) (by decide) e229 a228 E228 (rm_sum2 l Z a0 hw a228 a202 a199 a215 ofs strd nrow (1 : Int32) (3 : Int32) 3 S R f _ _ h228 n0 As2 C_a199 C_a215 ne_a199_a215 ne_a202_a215 gn_a215 hg_ofs.1 hg_ofs.2 hS (by omega) (by omega) (by omega) hR hR3 rfl (by decide) rfl (by decide) (by decide)) (by rw [hml]; rfl) [(.ref a202), (.int ofs), (.int strd), (.int nrow), (.ref a199), (.ref a215)] [] rfl (lenOf pd_80 rfl) rfl (by show 0 + (13 + 11) + 0 ≤ _; decide) (by decide) (by decide) (by decide) (hb hby at_434) rfl ?_
    intro T230 v230 L230 X230 hQ230
    obtain ⟨g', rfl, N230, Ag', ⟨w0_0, w0_1, w0_2, w0_3⟩, ⟨w1_0, w1_1, w1_2, w1_3⟩, y8, y9, y10, y11⟩ := hQ230
    have N230 := Fr.app N229 N230
    show Goes p e below _ T230 (mkF m 437 #[.val (.long p0), .second, .val (.int p1), .val (.long p2), .second, .val (.int p3), .val (.int p4), .val (.int (4 : Int32)), .val (.int nrow), .val (.int pad), .val (.int ofs), .val (.int (3 : Int32)), .val (.ref a199), .val (.int strd), .val (.ref a202), .val (.ref a215), .val (.int (2 : Int32)), .val (.int (1 : Int32)), .val (.int (3 : Int32)), .val (.int (3 : Int32)), .unset, .unset] [(.int (1 : Int32))])
    refine g_istore (i := 20) X230 hx #[.val (.long p0), .second, .val (.int p1), .val (.long p2), .second, .val (.int p3), .val (.int p4), .val (.int (4 : Int32)), .val (.int nrow), .val (.int pad), .val (.int ofs), .val (.int (3 : Int32)), .val (.ref a199), .val (.int strd), .val (.ref a202), .val (.ref a215), .val (.int (2 : Int32)), .val (.int (1 : Int32)), .val (.int (3 : Int32)), .val (.int (3 : Int32)), .val (.int (1 : Int32)), .unset] (hb hby at_437) rfl rfl ?_
    refine g_iload (i := 20) X230 hx (hb hby at_439) (by rfl) rfl ?_
    refine g_istore (i := 21) X230 hx #[.val (.long p0), .second, .val (.int p1), .val (.long p2), .second, .val (.int p3), .val (.int p4), .val (.int (4 : Int32)), .val (.int nrow), .val (.int pad), .val (.int ofs), .val (.int (3 : Int32)), .val (.ref a199), .val (.int strd), .val (.ref a202), .val (.ref a215), .val (.int (2 : Int32)), .val (.int (1 : Int32)), .val (.int (3 : Int32)), .val (.int (3 : Int32)), .val (.int (1 : Int32)), .val (.int (1 : Int32))] (hb hby at_441) rfl rfl ?_
    refine g_iload (i := 21) X230 hx (hb hby at_443) (by rfl) rfl ?_
    refine g_if_eq X230 hx (hb hby at_445) (by decide) (pt := 482) (by decide) rfl (fun q_ => absurd q_ (by decide)) (fun _ => ?_)
    refine g_aload (i := 15) X230 hx (hb hby at_448) (by rfl) rfl rfl ?_
    refine g_iconst (v := (0 : Int32)) X230 hx (hb hby at_450) (by decide) rfl ?_
    refine g_lload_n (i := 3) X230 hx (hb hby at_451) (by rfl) rfl ?_
    refine g_iconst (v := (1 : Int32)) X230 hx (hb hby at_452) (by decide) rfl ?_
    refine g_iload (i := 8) X230 hx (hb hby at_453) (by rfl) rfl ?_
    refine g_iconst (v := (0 : Int32)) X230 hx (hb hby at_455) (by decide) rfl ?_
    refine g_iload (i := 17) X230 hx (hb hby at_456) (by rfl) rfl ?_
    refine g_lload_n (i := 0) X230 hx (hb hby at_458) (by rfl) rfl ?_
    refine g_iload_n (i := 2) X230 hx (hb hby at_459) (by rfl) rfl ?_
    refine g_iload (i := 10) X230 hx (hb hby at_460) (by rfl) rfl ?_
    refine g_iload (i := 13) X230 hx (hb hby at_462) (by rfl) rfl ?_
    refine g_iload (i := 8) X230 hx (hb hby at_464) (by rfl) rfl ?_
    refine g_iconst (v := (0 : Int32)) X230 hx (hb hby at_466) (by decide) rfl ?_
    refine g_iload (i := 17) X230 hx (hb hby at_467) (by rfl) rfl ?_
    refine g_callS X230 hx hZ hown (wd hw 19 rfl) (wd hw 20 rfl) (wd hw 21 rfl) (wd hw 22 rfl) (by decide) rfl (rm_lvl l Z a0 hw p0 p1 ofs strd nrow (0 : Int32) (1 : Int32) T230.heap) (by rw [hml]; rfl) [(.long p0), (.int p1), (.int ofs), (.int strd), (.int nrow), (.int (0 : Int32)), (.int (1 : Int32))] [(.int (1 : Int32)), (.int (0 : Int32)), (.int nrow), (.int (1 : Int32)), (.long p2), (.int (0 : Int32)), (.ref a215)] rfl (lenOf pd_81 rfl) rfl (by show 8 + (8 + 11) + 38 ≤ _; decide) (by decide) (by decide) (by decide) (hb hby at_469) rfl ?_
    intro T231 v231 L231 X231 hQ231
    obtain ⟨rfl, rfl, e231⟩ := hQ231
    have N231 := Fr.app N230 (Fr.nil n0)
    show Goes p e below _ T231 (mkF m 472 #[.val (.long p0), .second, .val (.int p1), .val (.long p2), .second, .val (.int p3), .val (.int p4), .val (.int (4 : Int32)), .val (.int nrow), .val (.int pad), .val (.int ofs), .val (.int (3 : Int32)), .val (.ref a199), .val (.int strd), .val (.ref a202), .val (.ref a215), .val (.int (2 : Int32)), .val (.int (1 : Int32)), .val (.int (3 : Int32)), .val (.int (3 : Int32)), .val (.int (1 : Int32)), .val (.int (1 : Int32))] [(.long (own_lvl p0 p1 ofs strd nrow (0 : Int32) (1 : Int32))), (.int (1 : Int32)), (.int (0 : Int32)), (.int nrow), (.int (1 : Int32)), (.long p2), (.int (0 : Int32)), (.ref a215)])
    have hl0 : own_blk f S (((1 : Int32)).toInt - ((0 : Int32)).toInt).toNat (ofs.toInt + ((0 : Int32)).toInt).toNat R 0 = (own_lvl p0 p1 ofs strd nrow (0 : Int32) (1 : Int32)) := by
      rcases hg_nrow with rfl | rfl | rfl
      · obtain rfl : R = 1 := by have := hR; rw [show (1 : Int32).toInt = 1 from rfl] at this; omega
        exact (own_lev_0_1_1 hf hg_ofs.1 hg_ofs.2 hS (by omega)).symm
      · obtain rfl : R = 2 := by have := hR; rw [show (2 : Int32).toInt = 2 from rfl] at this; omega
        exact (own_lev_0_1_2 hf hg_ofs.1 hg_ofs.2 hS (by omega)).symm
      · obtain rfl : R = 3 := by have := hR; rw [show (3 : Int32).toInt = 3 from rfl] at this; omega
        exact (own_lev_0_1_3 hf hg_ofs.1 hg_ofs.2 hS (by omega)).symm
    refine g_callS X231 hx hZ hown (wd hw 29 rfl) (wd hw 30 rfl) (wd hw 21 rfl) (wd hw 31 rfl) (by decide) e231 (rm_run1 l Z a0 hw a215 (0 : Int32) p2 nrow (0 : Int32) (1 : Int32) (own_lvl p0 p1 ofs strd nrow (0 : Int32) (1 : Int32)) g' T230.heap Ag' (by decide) w0_0 (w0_1.trans hl0) (w0_2.trans hl0) (w0_3.trans hl0)) (by rw [hml]; rfl) [(.ref a215), (.int (0 : Int32)), (.long p2), (.int (1 : Int32)), (.int nrow), (.int (0 : Int32)), (.int (1 : Int32)), (.long (own_lvl p0 p1 ofs strd nrow (0 : Int32) (1 : Int32)))] [] rfl (lenOf pd_82 rfl) rfl (by show 0 + (11 + 11) + 0 ≤ _; decide) (by decide) (by decide) (by decide) (hb hby at_472) rfl ?_
    intro T232 v232 L232 X232 hQ232
    obtain ⟨rfl, rfl, e232⟩ := hQ232
    have N232 := Fr.app N231 (Fr.nil n0)
    show Goes p e below _ T232 (mkF m 475 #[.val (.long p0), .second, .val (.int p1), .val (.long p2), .second, .val (.int p3), .val (.int p4), .val (.int (4 : Int32)), .val (.int nrow), .val (.int pad), .val (.int ofs), .val (.int (3 : Int32)), .val (.ref a199), .val (.int strd), .val (.ref a202), .val (.ref a215), .val (.int (2 : Int32)), .val (.int (1 : Int32)), .val (.int (3 : Int32)), .val (.int (3 : Int32)), .val (.int (1 : Int32)), .val (.int (1 : Int32))] [(.int (1 : Int32))])
    refine g_if_eq X232 hx (hb hby at_475) (by decide) (pt := 482) (by decide) rfl (fun q_ => absurd q_ (by decide)) (fun _ => ?_)
    refine g_iconst (v := (1 : Int32)) X232 hx (hb hby at_478) (by decide) rfl ?_
    refine g_goto X232 hx (hb hby at_479) (by decide) (by decide) (pc' := 483) ?_
    refine g_istore (i := 21) X232 hx #[.val (.long p0), .second, .val (.int p1), .val (.long p2), .second, .val (.int p3), .val (.int p4), .val (.int (4 : Int32)), .val (.int nrow), .val (.int pad), .val (.int ofs), .val (.int (3 : Int32)), .val (.ref a199), .val (.int strd), .val (.ref a202), .val (.ref a215), .val (.int (2 : Int32)), .val (.int (1 : Int32)), .val (.int (3 : Int32)), .val (.int (3 : Int32)), .val (.int (1 : Int32)), .val (.int (1 : Int32))] (hb hby at_483) rfl rfl ?_
    refine g_iload (i := 21) X232 hx (hb hby at_485) (by rfl) rfl ?_
    refine g_if_eq X232 hx (hb hby at_487) (by decide) (pt := 536) (by decide) rfl (fun q_ => absurd q_ (by decide)) (fun _ => ?_)
    refine g_aload (i := 15) X232 hx (hb hby at_490) (by rfl) rfl rfl ?_
    refine g_iconst (v := (1 : Int32)) X232 hx (hb hby at_492) (by decide) rfl ?_
    refine g_lload_n (i := 3) X232 hx (hb hby at_493) (by rfl) rfl ?_
    refine g_iload (i := 16) X232 hx (hb hby at_494) (by rfl) rfl ?_
    refine g_iconst (v := (1 : Int32)) X232 hx (hb hby at_496) (by decide) rfl ?_
    refine g_icmp_le X232 hx (hb hby at_497) (by decide) (pt := 504) (by decide) rfl (fun q_ => absurd (by decide) q_) (fun _ => ?_)
    refine g_iconst (v := (1 : Int32)) X232 hx (hb hby at_500) (by decide) rfl ?_
    refine g_goto X232 hx (hb hby at_501) (by decide) (by decide) (pc' := 505) ?_
    refine g_iload (i := 8) X232 hx (hb hby at_505) (by rfl) rfl ?_
    refine g_iload (i := 17) X232 hx (hb hby at_507) (by rfl) rfl ?_
    refine g_iload (i := 18) X232 hx (hb hby at_509) (by rfl) rfl ?_
    refine g_lload_n (i := 0) X232 hx (hb hby at_511) (by rfl) rfl ?_
    refine g_iload_n (i := 2) X232 hx (hb hby at_512) (by rfl) rfl ?_
    refine g_iload (i := 10) X232 hx (hb hby at_513) (by rfl) rfl ?_
    refine g_iload (i := 13) X232 hx (hb hby at_515) (by rfl) rfl ?_
    refine g_iload (i := 8) X232 hx (hb hby at_517) (by rfl) rfl ?_
    refine g_iload (i := 17) X232 hx (hb hby at_519) (by rfl) rfl ?_
    refine g_iload (i := 18) X232 hx (hb hby at_521) (by rfl) rfl ?_
    refine g_callS X232 hx hZ hown (wd hw 19 rfl) (wd hw 20 rfl) (wd hw 21 rfl) (wd hw 22 rfl) (by decide) e232 (rm_lvl l Z a0 hw p0 p1 ofs strd nrow (1 : Int32) (3 : Int32) T230.heap) (by rw [hml]; rfl) [(.long p0), (.int p1), (.int ofs), (.int strd), (.int nrow), (.int (1 : Int32)), (.int (3 : Int32))] [(.int (3 : Int32)), (.int (1 : Int32)), (.int nrow), (.int (1 : Int32)), (.long p2), (.int (1 : Int32)), (.ref a215)] rfl (lenOf pd_81 rfl) rfl (by show 8 + (8 + 11) + 38 ≤ _; decide) (by decide) (by decide) (by decide) (hb hby at_523) rfl ?_
    intro T233 v233 L233 X233 hQ233
    obtain ⟨rfl, rfl, e233⟩ := hQ233
    have N233 := Fr.app N232 (Fr.nil n0)
    show Goes p e below _ T233 (mkF m 526 #[.val (.long p0), .second, .val (.int p1), .val (.long p2), .second, .val (.int p3), .val (.int p4), .val (.int (4 : Int32)), .val (.int nrow), .val (.int pad), .val (.int ofs), .val (.int (3 : Int32)), .val (.ref a199), .val (.int strd), .val (.ref a202), .val (.ref a215), .val (.int (2 : Int32)), .val (.int (1 : Int32)), .val (.int (3 : Int32)), .val (.int (3 : Int32)), .val (.int (1 : Int32)), .val (.int (1 : Int32))] [(.long (own_lvl p0 p1 ofs strd nrow (1 : Int32) (3 : Int32))), (.int (3 : Int32)), (.int (1 : Int32)), (.int nrow), (.int (1 : Int32)), (.long p2), (.int (1 : Int32)), (.ref a215)])
    have hl1 : own_blk f S (((3 : Int32)).toInt - ((1 : Int32)).toInt).toNat (ofs.toInt + ((1 : Int32)).toInt).toNat R 0 = (own_lvl p0 p1 ofs strd nrow (1 : Int32) (3 : Int32)) := by
      rcases hg_nrow with rfl | rfl | rfl
      · obtain rfl : R = 1 := by have := hR; rw [show (1 : Int32).toInt = 1 from rfl] at this; omega
        exact (own_lev_1_3_1 hf hg_ofs.1 hg_ofs.2 hS (by omega)).symm
      · obtain rfl : R = 2 := by have := hR; rw [show (2 : Int32).toInt = 2 from rfl] at this; omega
        exact (own_lev_1_3_2 hf hg_ofs.1 hg_ofs.2 hS (by omega)).symm
      · obtain rfl : R = 3 := by have := hR; rw [show (3 : Int32).toInt = 3 from rfl] at this; omega
        exact (own_lev_1_3_3 hf hg_ofs.1 hg_ofs.2 hS (by omega)).symm
    refine g_callS X233 hx hZ hown (wd hw 29 rfl) (wd hw 30 rfl) (wd hw 21 rfl) (wd hw 31 rfl) (by decide) e233 (rm_run1 l Z a0 hw a215 (1 : Int32) p2 nrow (1 : Int32) (3 : Int32) (own_lvl p0 p1 ofs strd nrow (1 : Int32) (3 : Int32)) g' T230.heap Ag' (by decide) w1_0 (w1_1.trans hl1) (w1_2.trans hl1) (w1_3.trans hl1)) (by rw [hml]; rfl) [(.ref a215), (.int (1 : Int32)), (.long p2), (.int (1 : Int32)), (.int nrow), (.int (1 : Int32)), (.int (3 : Int32)), (.long (own_lvl p0 p1 ofs strd nrow (1 : Int32) (3 : Int32)))] [] rfl (lenOf pd_82 rfl) rfl (by show 0 + (11 + 11) + 0 ≤ _; decide) (by decide) (by decide) (by decide) (hb hby at_526) rfl ?_
    intro T234 v234 L234 X234 hQ234
    obtain ⟨rfl, rfl, e234⟩ := hQ234
    have N234 := Fr.app N233 (Fr.nil n0)
    show Goes p e below _ T234 (mkF m 529 #[.val (.long p0), .second, .val (.int p1), .val (.long p2), .second, .val (.int p3), .val (.int p4), .val (.int (4 : Int32)), .val (.int nrow), .val (.int pad), .val (.int ofs), .val (.int (3 : Int32)), .val (.ref a199), .val (.int strd), .val (.ref a202), .val (.ref a215), .val (.int (2 : Int32)), .val (.int (1 : Int32)), .val (.int (3 : Int32)), .val (.int (3 : Int32)), .val (.int (1 : Int32)), .val (.int (1 : Int32))] [(.int (1 : Int32))])
    refine g_if_eq X234 hx (hb hby at_529) (by decide) (pt := 536) (by decide) rfl (fun q_ => absurd q_ (by decide)) (fun _ => ?_)
    refine g_iconst (v := (1 : Int32)) X234 hx (hb hby at_532) (by decide) rfl ?_
    refine g_goto X234 hx (hb hby at_533) (by decide) (by decide) (pc' := 537) ?_
    refine g_istore (i := 21) X234 hx #[.val (.long p0), .second, .val (.int p1), .val (.long p2), .second, .val (.int p3), .val (.int p4), .val (.int (4 : Int32)), .val (.int nrow), .val (.int pad), .val (.int ofs), .val (.int (3 : Int32)), .val (.ref a199), .val (.int strd), .val (.ref a202), .val (.ref a215), .val (.int (2 : Int32)), .val (.int (1 : Int32)), .val (.int (3 : Int32)), .val (.int (3 : Int32)), .val (.int (1 : Int32)), .val (.int (1 : Int32))] (hb hby at_537) rfl rfl ?_
    refine g_iload (i := 21) X234 hx (hb hby at_539) (by rfl) rfl ?_
    refine g_if_eq X234 hx (hb hby at_541) (by decide) (pt := 590) (by decide) rfl (fun q_ => absurd q_ (by decide)) (fun _ => ?_)
    refine g_aload (i := 15) X234 hx (hb hby at_544) (by rfl) rfl rfl ?_
    refine g_iconst (v := (2 : Int32)) X234 hx (hb hby at_546) (by decide) rfl ?_
    refine g_lload_n (i := 3) X234 hx (hb hby at_547) (by rfl) rfl ?_
    refine g_iload (i := 16) X234 hx (hb hby at_548) (by rfl) rfl ?_
    refine g_iconst (v := (2 : Int32)) X234 hx (hb hby at_550) (by decide) rfl ?_
    refine g_icmp_le X234 hx (hb hby at_551) (by decide) (pt := 558) (by decide) rfl (fun _ => ?_) (fun q_ => absurd q_ (by decide))
    refine g_iconst (v := (0 : Int32)) X234 hx (hb hby at_558) (by decide) rfl ?_
    refine g_iload (i := 8) X234 hx (hb hby at_559) (by rfl) rfl ?_
    refine g_iload (i := 18) X234 hx (hb hby at_561) (by rfl) rfl ?_
    refine g_iload (i := 19) X234 hx (hb hby at_563) (by rfl) rfl ?_
    refine g_lload_n (i := 0) X234 hx (hb hby at_565) (by rfl) rfl ?_
    refine g_iload_n (i := 2) X234 hx (hb hby at_566) (by rfl) rfl ?_
    refine g_iload (i := 10) X234 hx (hb hby at_567) (by rfl) rfl ?_
    refine g_iload (i := 13) X234 hx (hb hby at_569) (by rfl) rfl ?_
    refine g_iload (i := 8) X234 hx (hb hby at_571) (by rfl) rfl ?_
    refine g_iload (i := 18) X234 hx (hb hby at_573) (by rfl) rfl ?_
    refine g_iload (i := 19) X234 hx (hb hby at_575) (by rfl) rfl ?_
    refine g_callS X234 hx hZ hown (wd hw 19 rfl) (wd hw 20 rfl) (wd hw 21 rfl) (wd hw 22 rfl) (by decide) e234 (rm_lvl l Z a0 hw p0 p1 ofs strd nrow (3 : Int32) (3 : Int32) T230.heap) (by rw [hml]; rfl) [(.long p0), (.int p1), (.int ofs), (.int strd), (.int nrow), (.int (3 : Int32)), (.int (3 : Int32))] [(.int (3 : Int32)), (.int (3 : Int32)), (.int nrow), (.int (0 : Int32)), (.long p2), (.int (2 : Int32)), (.ref a215)] rfl (lenOf pd_81 rfl) rfl (by show 8 + (8 + 11) + 38 ≤ _; decide) (by decide) (by decide) (by decide) (hb hby at_577) rfl ?_
    intro T235 v235 L235 X235 hQ235
    obtain ⟨rfl, rfl, e235⟩ := hQ235
    have N235 := Fr.app N234 (Fr.nil n0)
    show Goes p e below _ T235 (mkF m 580 #[.val (.long p0), .second, .val (.int p1), .val (.long p2), .second, .val (.int p3), .val (.int p4), .val (.int (4 : Int32)), .val (.int nrow), .val (.int pad), .val (.int ofs), .val (.int (3 : Int32)), .val (.ref a199), .val (.int strd), .val (.ref a202), .val (.ref a215), .val (.int (2 : Int32)), .val (.int (1 : Int32)), .val (.int (3 : Int32)), .val (.int (3 : Int32)), .val (.int (1 : Int32)), .val (.int (1 : Int32))] [(.long (own_lvl p0 p1 ofs strd nrow (3 : Int32) (3 : Int32))), (.int (3 : Int32)), (.int (3 : Int32)), (.int nrow), (.int (0 : Int32)), (.long p2), (.int (2 : Int32)), (.ref a215)])
    refine g_callS X235 hx hZ hown (wd hw 29 rfl) (wd hw 30 rfl) (wd hw 21 rfl) (wd hw 31 rfl) (by decide) e235 (rm_run0 l Z a0 hw a215 (2 : Int32) p2 nrow (3 : Int32) (3 : Int32) (own_lvl p0 p1 ofs strd nrow (3 : Int32) (3 : Int32)) g' T230.heap Ag' (by decide) y8 y9 y10 y11) (by rw [hml]; rfl) [(.ref a215), (.int (2 : Int32)), (.long p2), (.int (0 : Int32)), (.int nrow), (.int (3 : Int32)), (.int (3 : Int32)), (.long (own_lvl p0 p1 ofs strd nrow (3 : Int32) (3 : Int32)))] [] rfl (lenOf pd_82 rfl) rfl (by show 0 + (11 + 11) + 0 ≤ _; decide) (by decide) (by decide) (by decide) (hb hby at_580) rfl ?_
    intro T236 v236 L236 X236 hQ236
    obtain ⟨rfl, rfl, e236⟩ := hQ236
    have N236 := Fr.app N235 (Fr.nil n0)
    show Goes p e below _ T236 (mkF m 583 #[.val (.long p0), .second, .val (.int p1), .val (.long p2), .second, .val (.int p3), .val (.int p4), .val (.int (4 : Int32)), .val (.int nrow), .val (.int pad), .val (.int ofs), .val (.int (3 : Int32)), .val (.ref a199), .val (.int strd), .val (.ref a202), .val (.ref a215), .val (.int (2 : Int32)), .val (.int (1 : Int32)), .val (.int (3 : Int32)), .val (.int (3 : Int32)), .val (.int (1 : Int32)), .val (.int (1 : Int32))] [(.int (1 : Int32))])
    refine g_if_eq X236 hx (hb hby at_583) (by decide) (pt := 590) (by decide) rfl (fun q_ => absurd q_ (by decide)) (fun _ => ?_)
    refine g_iconst (v := (1 : Int32)) X236 hx (hb hby at_586) (by decide) rfl ?_
    refine g_goto X236 hx (hb hby at_587) (by decide) (by decide) (pc' := 591) ?_
    refine g_istore (i := 21) X236 hx #[.val (.long p0), .second, .val (.int p1), .val (.long p2), .second, .val (.int p3), .val (.int p4), .val (.int (4 : Int32)), .val (.int nrow), .val (.int pad), .val (.int ofs), .val (.int (3 : Int32)), .val (.ref a199), .val (.int strd), .val (.ref a202), .val (.ref a215), .val (.int (2 : Int32)), .val (.int (1 : Int32)), .val (.int (3 : Int32)), .val (.int (3 : Int32)), .val (.int (1 : Int32)), .val (.int (1 : Int32))] (hb hby at_591) rfl rfl ?_
    refine g_iload (i := 21) X236 hx (hb hby at_593) (by rfl) rfl ?_
    exact g_retN X236 hx (t := .boolean) (by simp) hlk hret e236 (by decide) (by decide) (hb hby at_595) ⟨rfl, N236⟩
  · have Zc := Z0
    refine g_iload (i := 7) X0 hx (hb hby at_36) (by rfl) rfl ?_
    refine g_if_ne X0 hx (hb hby at_38) (by decide) (pt := 56) (by decide) rfl (fun _ => ?_) (fun q_ => absurd q_ (by decide))
    refine g_iload (i := 7) X0 hx (hb hby at_56) (by rfl) rfl ?_
    refine g_iconst (v := (1 : Int32)) X0 hx (hb hby at_58) (by decide) rfl ?_
    refine g_icmp_ne X0 hx (hb hby at_59) (by decide) (pt := 77) (by decide) rfl (fun _ => ?_) (fun q_ => absurd q_ (by decide))
    refine g_iload (i := 7) X0 hx (hb hby at_77) (by rfl) rfl ?_
    refine g_iconst (v := (2 : Int32)) X0 hx (hb hby at_79) (by decide) rfl ?_
    refine g_icmp_ne X0 hx (hb hby at_80) (by decide) (pt := 102) (by decide) rfl (fun _ => ?_) (fun q_ => absurd q_ (by decide))
    refine g_iload (i := 7) X0 hx (hb hby at_102) (by rfl) rfl ?_
    refine g_iconst (v := (3 : Int32)) X0 hx (hb hby at_104) (by decide) rfl ?_
    refine g_icmp_ne X0 hx (hb hby at_105) (by decide) (pt := 123) (by decide) rfl (fun _ => ?_) (fun q_ => absurd q_ (by decide))
    refine g_iload (i := 7) X0 hx (hb hby at_123) (by rfl) rfl ?_
    refine g_iconst (v := (4 : Int32)) X0 hx (hb hby at_125) (by decide) rfl ?_
    refine g_icmp_ne X0 hx (hb hby at_126) (by decide) (pt := 148) (by decide) rfl (fun _ => ?_) (fun q_ => absurd q_ (by decide))
    refine g_iload (i := 7) X0 hx (hb hby at_148) (by rfl) rfl ?_
    refine g_iconst (v := (5 : Int32)) X0 hx (hb hby at_150) (by decide) rfl ?_
    refine g_icmp_ne X0 hx (hb hby at_151) (by decide) (pt := 173) (by decide) rfl (fun q_ => absurd (by decide) q_) (fun _ => ?_)
    refine g_iconst (v := (3 : Int32)) X0 hx (hb hby at_154) (by decide) rfl ?_
    refine g_istore (i := 11) X0 hx #[.val (.long p0), .second, .val (.int p1), .val (.long p2), .second, .val (.int p3), .val (.int p4), .val (.int (5 : Int32)), .val (.int nrow), .val (.int pad), .val (.int ofs), .val (.int (3 : Int32)), .unset, .unset, .unset, .unset, .unset, .unset, .unset, .unset, .unset, .unset] (hb hby at_155) rfl rfl ?_
    refine g_iconst (v := (2 : Int32)) X0 hx (hb hby at_157) (by decide) rfl ?_
    refine g_newarr X0 hx hZ (ty := .int) rfl (wd hw 1 rfl) e0 (hb hby at_158) rfl (by decide) 2 (by decide) (by decide) (by decide) (by decide) ?_
    intro T237 h237 cA237 a237 X237 e237 g237 Ex237 A237
    have gn_a237 : n0 ≤ a237 := by rw [g237]; exact Zc
    have Zc237 : n0 ≤ h237.size := Nat.le_trans Zc Ex237.1
    have Ar237 : ArI Z h237 a237 .int 2 (fun _ => 0) := ArI.new A237 0 rfl
    refine g_dup X237 hx (hb hby at_160) rfl rfl ?_
    refine g_iconst (v := (0 : Int32)) X237 hx (hb hby at_161) (by decide) rfl ?_
    refine g_iconst (v := (2 : Int32)) X237 hx (hb hby at_162) (by decide) rfl ?_
    refine g_iastoreN X237 hx hZ e237 Ar237 0 (by decide) (by decide) (by decide) (hb hby at_163) rfl ?_
    intro T238 h238 X238 e238 W238 Ar238
    have N238 := Fr.snoc X238 (Fr.nil n0) gn_a237
    have Zc238 : n0 ≤ h238.size := by rw [W238.size]; exact Zc237
    refine g_dup X238 hx (hb hby at_164) rfl rfl ?_
    refine g_iconst (v := (1 : Int32)) X238 hx (hb hby at_165) (by decide) rfl ?_
    refine g_iconst (v := (3 : Int32)) X238 hx (hb hby at_166) (by decide) rfl ?_
    refine g_iastoreN X238 hx hZ e238 Ar238 1 (by decide) (by decide) (by decide) (hb hby at_167) rfl ?_
    intro T239 h239 X239 e239 W239 Ar239
    have N239 := Fr.snoc X239 N238 gn_a237
    have Zc239 : n0 ≤ h239.size := by rw [W239.size]; exact Zc238
    refine g_astore (i := 12) X239 hx #[.val (.long p0), .second, .val (.int p1), .val (.long p2), .second, .val (.int p3), .val (.int p4), .val (.int (5 : Int32)), .val (.int nrow), .val (.int pad), .val (.int ofs), .val (.int (3 : Int32)), .val (.ref a237), .unset, .unset, .unset, .unset, .unset, .unset, .unset, .unset, .unset] (hb hby at_168) rfl rfl rfl ?_
    refine g_goto X239 hx (hb hby at_170) (by decide) (by decide) (pc' := 193) ?_
    refine g_iload (i := 11) X239 hx (hb hby at_193) (by rfl) rfl ?_
    refine g_iload (i := 9) X239 hx (hb hby at_195) (by rfl) rfl ?_
    refine g_iadd X239 hx (hb hby at_197) rfl ?_
    refine g_istore (i := 13) X239 hx #[.val (.long p0), .second, .val (.int p1), .val (.long p2), .second, .val (.int p3), .val (.int p4), .val (.int (5 : Int32)), .val (.int nrow), .val (.int pad), .val (.int ofs), .val (.int (3 : Int32)), .val (.ref a237), .val (.int ((3 : Int32) + pad)), .unset, .unset, .unset, .unset, .unset, .unset, .unset, .unset] (hb hby at_198) rfl rfl ?_
    have hst : (((3 : Int32) + pad)).toInt = 3 + pad.toInt := by have e := c_iadd (3 : Int32) pad; have r := rng32 (((3 : Int32) + pad)); rw [show ((3 : Int32)).toInt = 3 from rfl] at e; omega
    revert hst
    generalize ((3 : Int32) + pad) = strd
    intro hst
    refine g_bipush (v := (12 : Int32)) X239 hx (hb hby at_200) (by decide) rfl ?_
    refine g_newarr X239 hx hZ (ty := .byte) rfl (wd hw 2 rfl) e239 (hb hby at_202) rfl (by decide) 12 (by decide) (by decide) (by decide) (by decide) ?_
    intro T240 h240 cA240 a240 X240 e240 g240 Ex240 A240
    have ne_a237_a240 : a237 ≠ a240 := fun q => absurd Ar239.lt (by rw [q, g240]; exact Nat.lt_irrefl _)
    have B240_a237 := Ar239.ext Ex240
    have gn_a240 : n0 ≤ a240 := by rw [g240]; exact Zc239
    have Zc240 : n0 ≤ h240.size := Nat.le_trans Zc239 Ex240.1
    have Ar240 : ArI Z h240 a240 .byte 12 (fun _ => 0) := ArI.new A240 0 rfl
    refine g_dup X240 hx (hb hby at_204) rfl rfl ?_
    refine g_iconst (v := (0 : Int32)) X240 hx (hb hby at_205) (by decide) rfl ?_
    refine g_lload_n (i := 0) X240 hx (hb hby at_206) (by rfl) rfl ?_
    refine g_l2i X240 hx (hb hby at_207) rfl ?_
    refine g_i2b X240 hx (hb hby at_208) rfl ?_
    refine g_bastoreN X240 hx hZ e240 Ar240 0 (by decide) (by decide) (by decide) (hb hby at_209) rfl ?_
    intro T241 h241 X241 e241 W241 Ar241
    have N241 := Fr.snoc X241 N239 gn_a240
    have B241_a237 := B240_a237.other W241 ne_a237_a240
    have Zc241 : n0 ≤ h241.size := by rw [W241.size]; exact Zc240
    refine g_dup X241 hx (hb hby at_210) rfl rfl ?_
    refine g_iconst (v := (1 : Int32)) X241 hx (hb hby at_211) (by decide) rfl ?_
    refine g_lload_n (i := 0) X241 hx (hb hby at_212) (by rfl) rfl ?_
    refine g_bipush (v := (8 : Int32)) X241 hx (hb hby at_213) (by decide) rfl ?_
    refine g_lushr X241 hx (hb hby at_215) rfl ?_
    refine g_l2i X241 hx (hb hby at_216) rfl ?_
    refine g_i2b X241 hx (hb hby at_217) rfl ?_
    refine g_bastoreN X241 hx hZ e241 Ar241 1 (by decide) (by decide) (by decide) (hb hby at_218) rfl ?_
    intro T242 h242 X242 e242 W242 Ar242
    have N242 := Fr.snoc X242 N241 gn_a240
    have B242_a237 := B241_a237.other W242 ne_a237_a240
    have Zc242 : n0 ≤ h242.size := by rw [W242.size]; exact Zc241
    refine g_dup X242 hx (hb hby at_219) rfl rfl ?_
    refine g_iconst (v := (2 : Int32)) X242 hx (hb hby at_220) (by decide) rfl ?_
    refine g_lload_n (i := 0) X242 hx (hb hby at_221) (by rfl) rfl ?_
    refine g_bipush (v := (16 : Int32)) X242 hx (hb hby at_222) (by decide) rfl ?_
    refine g_lushr X242 hx (hb hby at_224) rfl ?_
    refine g_l2i X242 hx (hb hby at_225) rfl ?_
    refine g_i2b X242 hx (hb hby at_226) rfl ?_
    refine g_bastoreN X242 hx hZ e242 Ar242 2 (by decide) (by decide) (by decide) (hb hby at_227) rfl ?_
    intro T243 h243 X243 e243 W243 Ar243
    have N243 := Fr.snoc X243 N242 gn_a240
    have B243_a237 := B242_a237.other W243 ne_a237_a240
    have Zc243 : n0 ≤ h243.size := by rw [W243.size]; exact Zc242
    refine g_dup X243 hx (hb hby at_228) rfl rfl ?_
    refine g_iconst (v := (3 : Int32)) X243 hx (hb hby at_229) (by decide) rfl ?_
    refine g_lload_n (i := 0) X243 hx (hb hby at_230) (by rfl) rfl ?_
    refine g_bipush (v := (24 : Int32)) X243 hx (hb hby at_231) (by decide) rfl ?_
    refine g_lushr X243 hx (hb hby at_233) rfl ?_
    refine g_l2i X243 hx (hb hby at_234) rfl ?_
    refine g_i2b X243 hx (hb hby at_235) rfl ?_
    refine g_bastoreN X243 hx hZ e243 Ar243 3 (by decide) (by decide) (by decide) (hb hby at_236) rfl ?_
    intro T244 h244 X244 e244 W244 Ar244
    have N244 := Fr.snoc X244 N243 gn_a240
    have B244_a237 := B243_a237.other W244 ne_a237_a240
    have Zc244 : n0 ≤ h244.size := by rw [W244.size]; exact Zc243
    refine g_dup X244 hx (hb hby at_237) rfl rfl ?_
    refine g_iconst (v := (4 : Int32)) X244 hx (hb hby at_238) (by decide) rfl ?_
    refine g_lload_n (i := 0) X244 hx (hb hby at_239) (by rfl) rfl ?_
    refine g_bipush (v := (32 : Int32)) X244 hx (hb hby at_240) (by decide) rfl ?_
    refine g_lushr X244 hx (hb hby at_242) rfl ?_
    refine g_l2i X244 hx (hb hby at_243) rfl ?_
    refine g_i2b X244 hx (hb hby at_244) rfl ?_
    refine g_bastoreN X244 hx hZ e244 Ar244 4 (by decide) (by decide) (by decide) (hb hby at_245) rfl ?_
    intro T245 h245 X245 e245 W245 Ar245
    have N245 := Fr.snoc X245 N244 gn_a240
    have B245_a237 := B244_a237.other W245 ne_a237_a240
    have Zc245 : n0 ≤ h245.size := by rw [W245.size]; exact Zc244
    refine g_dup X245 hx (hb hby at_246) rfl rfl ?_
    refine g_iconst (v := (5 : Int32)) X245 hx (hb hby at_247) (by decide) rfl ?_
    refine g_lload_n (i := 0) X245 hx (hb hby at_248) (by rfl) rfl ?_
    refine g_bipush (v := (40 : Int32)) X245 hx (hb hby at_249) (by decide) rfl ?_
    refine g_lushr X245 hx (hb hby at_251) rfl ?_
    refine g_l2i X245 hx (hb hby at_252) rfl ?_
    refine g_i2b X245 hx (hb hby at_253) rfl ?_
    refine g_bastoreN X245 hx hZ e245 Ar245 5 (by decide) (by decide) (by decide) (hb hby at_254) rfl ?_
    intro T246 h246 X246 e246 W246 Ar246
    have N246 := Fr.snoc X246 N245 gn_a240
    have B246_a237 := B245_a237.other W246 ne_a237_a240
    have Zc246 : n0 ≤ h246.size := by rw [W246.size]; exact Zc245
    refine g_dup X246 hx (hb hby at_255) rfl rfl ?_
    refine g_bipush (v := (6 : Int32)) X246 hx (hb hby at_256) (by decide) rfl ?_
    refine g_lload_n (i := 0) X246 hx (hb hby at_258) (by rfl) rfl ?_
    refine g_bipush (v := (48 : Int32)) X246 hx (hb hby at_259) (by decide) rfl ?_
    refine g_lushr X246 hx (hb hby at_261) rfl ?_
    refine g_l2i X246 hx (hb hby at_262) rfl ?_
    refine g_i2b X246 hx (hb hby at_263) rfl ?_
    refine g_bastoreN X246 hx hZ e246 Ar246 6 (by decide) (by decide) (by decide) (hb hby at_264) rfl ?_
    intro T247 h247 X247 e247 W247 Ar247
    have N247 := Fr.snoc X247 N246 gn_a240
    have B247_a237 := B246_a237.other W247 ne_a237_a240
    have Zc247 : n0 ≤ h247.size := by rw [W247.size]; exact Zc246
    refine g_dup X247 hx (hb hby at_265) rfl rfl ?_
    refine g_bipush (v := (7 : Int32)) X247 hx (hb hby at_266) (by decide) rfl ?_
    refine g_lload_n (i := 0) X247 hx (hb hby at_268) (by rfl) rfl ?_
    refine g_bipush (v := (56 : Int32)) X247 hx (hb hby at_269) (by decide) rfl ?_
    refine g_lushr X247 hx (hb hby at_271) rfl ?_
    refine g_l2i X247 hx (hb hby at_272) rfl ?_
    refine g_i2b X247 hx (hb hby at_273) rfl ?_
    refine g_bastoreN X247 hx hZ e247 Ar247 7 (by decide) (by decide) (by decide) (hb hby at_274) rfl ?_
    intro T248 h248 X248 e248 W248 Ar248
    have N248 := Fr.snoc X248 N247 gn_a240
    have B248_a237 := B247_a237.other W248 ne_a237_a240
    have Zc248 : n0 ≤ h248.size := by rw [W248.size]; exact Zc247
    refine g_dup X248 hx (hb hby at_275) rfl rfl ?_
    refine g_bipush (v := (8 : Int32)) X248 hx (hb hby at_276) (by decide) rfl ?_
    refine g_iload_n (i := 2) X248 hx (hb hby at_278) (by rfl) rfl ?_
    refine g_i2b X248 hx (hb hby at_279) rfl ?_
    refine g_bastoreN X248 hx hZ e248 Ar248 8 (by decide) (by decide) (by decide) (hb hby at_280) rfl ?_
    intro T249 h249 X249 e249 W249 Ar249
    have N249 := Fr.snoc X249 N248 gn_a240
    have B249_a237 := B248_a237.other W249 ne_a237_a240
    have Zc249 : n0 ≤ h249.size := by rw [W249.size]; exact Zc248
    refine g_dup X249 hx (hb hby at_281) rfl rfl ?_
    refine g_bipush (v := (9 : Int32)) X249 hx (hb hby at_282) (by decide) rfl ?_
    refine g_iload_n (i := 2) X249 hx (hb hby at_284) (by rfl) rfl ?_
    refine g_bipush (v := (8 : Int32)) X249 hx (hb hby at_285) (by decide) rfl ?_
    refine g_iushr X249 hx (hb hby at_287) rfl ?_
    refine g_i2b X249 hx (hb hby at_288) rfl ?_
    refine g_bastoreN X249 hx hZ e249 Ar249 9 (by decide) (by decide) (by decide) (hb hby at_289) rfl ?_
    intro T250 h250 X250 e250 W250 Ar250
    have N250 := Fr.snoc X250 N249 gn_a240
    have B250_a237 := B249_a237.other W250 ne_a237_a240
    have Zc250 : n0 ≤ h250.size := by rw [W250.size]; exact Zc249
    refine g_dup X250 hx (hb hby at_290) rfl rfl ?_
    refine g_bipush (v := (10 : Int32)) X250 hx (hb hby at_291) (by decide) rfl ?_
    refine g_iload_n (i := 2) X250 hx (hb hby at_293) (by rfl) rfl ?_
    refine g_bipush (v := (16 : Int32)) X250 hx (hb hby at_294) (by decide) rfl ?_
    refine g_iushr X250 hx (hb hby at_296) rfl ?_
    refine g_i2b X250 hx (hb hby at_297) rfl ?_
    refine g_bastoreN X250 hx hZ e250 Ar250 10 (by decide) (by decide) (by decide) (hb hby at_298) rfl ?_
    intro T251 h251 X251 e251 W251 Ar251
    have N251 := Fr.snoc X251 N250 gn_a240
    have B251_a237 := B250_a237.other W251 ne_a237_a240
    have Zc251 : n0 ≤ h251.size := by rw [W251.size]; exact Zc250
    refine g_dup X251 hx (hb hby at_299) rfl rfl ?_
    refine g_bipush (v := (11 : Int32)) X251 hx (hb hby at_300) (by decide) rfl ?_
    refine g_iload_n (i := 2) X251 hx (hb hby at_302) (by rfl) rfl ?_
    refine g_bipush (v := (24 : Int32)) X251 hx (hb hby at_303) (by decide) rfl ?_
    refine g_iushr X251 hx (hb hby at_305) rfl ?_
    refine g_i2b X251 hx (hb hby at_306) rfl ?_
    refine g_bastoreN X251 hx hZ e251 Ar251 11 (by decide) (by decide) (by decide) (hb hby at_307) rfl ?_
    intro T252 h252 X252 e252 W252 Ar252
    have N252 := Fr.snoc X252 N251 gn_a240
    have B252_a237 := B251_a237.other W252 ne_a237_a240
    have Zc252 : n0 ≤ h252.size := by rw [W252.size]; exact Zc251
    refine g_astore (i := 14) X252 hx #[.val (.long p0), .second, .val (.int p1), .val (.long p2), .second, .val (.int p3), .val (.int p4), .val (.int (5 : Int32)), .val (.int nrow), .val (.int pad), .val (.int ofs), .val (.int (3 : Int32)), .val (.ref a237), .val (.int strd), .val (.ref a240), .unset, .unset, .unset, .unset, .unset, .unset, .unset] (hb hby at_308) rfl rfl rfl ?_
    refine g_bipush (v := (12 : Int32)) X252 hx (hb hby at_310) (by decide) rfl ?_
    refine g_newarr X252 hx hZ (ty := .long) rfl (wd hw 3 rfl) e252 (hb hby at_312) rfl (by decide) 12 (by decide) (by decide) (by decide) (by decide) ?_
    intro T253 h253 cA253 a253 X253 e253 g253 Ex253 A253
    have ne_a237_a253 : a237 ≠ a253 := fun q => absurd B252_a237.lt (by rw [q, g253]; exact Nat.lt_irrefl _)
    have B253_a237 := B252_a237.ext Ex253
    have ne_a240_a253 : a240 ≠ a253 := fun q => absurd Ar252.lt (by rw [q, g253]; exact Nat.lt_irrefl _)
    have B253_a240 := Ar252.ext Ex253
    have gn_a253 : n0 ≤ a253 := by rw [g253]; exact Zc252
    have Zc253 : n0 ≤ h253.size := Nat.le_trans Zc252 Ex253.1
    have Ar253 : ArJ Z h253 a253 .long 12 (fun _ => 0) := ArJ.new A253 0 rfl
    refine g_dup X253 hx (hb hby at_314) rfl rfl ?_
    refine g_iconst (v := (0 : Int32)) X253 hx (hb hby at_315) (by decide) rfl ?_
    refine g_lload_n (i := 3) X253 hx (hb hby at_316) (by rfl) rfl ?_
    refine g_lastoreN X253 hx hZ e253 Ar253 0 (by decide) (by decide) (by decide) (hb hby at_317) rfl ?_
    intro T254 h254 X254 e254 W254 Ar254
    have N254 := Fr.snoc X254 N252 gn_a253
    have B254_a237 := B253_a237.other W254 ne_a237_a253
    have B254_a240 := B253_a240.other W254 ne_a240_a253
    have Zc254 : n0 ≤ h254.size := by rw [W254.size]; exact Zc253
    refine g_dup X254 hx (hb hby at_318) rfl rfl ?_
    refine g_iconst (v := (1 : Int32)) X254 hx (hb hby at_319) (by decide) rfl ?_
    refine g_lload_n (i := 3) X254 hx (hb hby at_320) (by rfl) rfl ?_
    refine g_lastoreN X254 hx hZ e254 Ar254 1 (by decide) (by decide) (by decide) (hb hby at_321) rfl ?_
    intro T255 h255 X255 e255 W255 Ar255
    have N255 := Fr.snoc X255 N254 gn_a253
    have B255_a237 := B254_a237.other W255 ne_a237_a253
    have B255_a240 := B254_a240.other W255 ne_a240_a253
    have Zc255 : n0 ≤ h255.size := by rw [W255.size]; exact Zc254
    refine g_dup X255 hx (hb hby at_322) rfl rfl ?_
    refine g_iconst (v := (2 : Int32)) X255 hx (hb hby at_323) (by decide) rfl ?_
    refine g_lload_n (i := 3) X255 hx (hb hby at_324) (by rfl) rfl ?_
    refine g_lastoreN X255 hx hZ e255 Ar255 2 (by decide) (by decide) (by decide) (hb hby at_325) rfl ?_
    intro T256 h256 X256 e256 W256 Ar256
    have N256 := Fr.snoc X256 N255 gn_a253
    have B256_a237 := B255_a237.other W256 ne_a237_a253
    have B256_a240 := B255_a240.other W256 ne_a240_a253
    have Zc256 : n0 ≤ h256.size := by rw [W256.size]; exact Zc255
    refine g_dup X256 hx (hb hby at_326) rfl rfl ?_
    refine g_iconst (v := (3 : Int32)) X256 hx (hb hby at_327) (by decide) rfl ?_
    refine g_lload_n (i := 3) X256 hx (hb hby at_328) (by rfl) rfl ?_
    refine g_lastoreN X256 hx hZ e256 Ar256 3 (by decide) (by decide) (by decide) (hb hby at_329) rfl ?_
    intro T257 h257 X257 e257 W257 Ar257
    have N257 := Fr.snoc X257 N256 gn_a253
    have B257_a237 := B256_a237.other W257 ne_a237_a253
    have B257_a240 := B256_a240.other W257 ne_a240_a253
    have Zc257 : n0 ≤ h257.size := by rw [W257.size]; exact Zc256
    refine g_dup X257 hx (hb hby at_330) rfl rfl ?_
    refine g_iconst (v := (4 : Int32)) X257 hx (hb hby at_331) (by decide) rfl ?_
    refine g_lload_n (i := 3) X257 hx (hb hby at_332) (by rfl) rfl ?_
    refine g_lastoreN X257 hx hZ e257 Ar257 4 (by decide) (by decide) (by decide) (hb hby at_333) rfl ?_
    intro T258 h258 X258 e258 W258 Ar258
    have N258 := Fr.snoc X258 N257 gn_a253
    have B258_a237 := B257_a237.other W258 ne_a237_a253
    have B258_a240 := B257_a240.other W258 ne_a240_a253
    have Zc258 : n0 ≤ h258.size := by rw [W258.size]; exact Zc257
    refine g_dup X258 hx (hb hby at_334) rfl rfl ?_
    refine g_iconst (v := (5 : Int32)) X258 hx (hb hby at_335) (by decide) rfl ?_
    refine g_lload_n (i := 3) X258 hx (hb hby at_336) (by rfl) rfl ?_
    refine g_lastoreN X258 hx hZ e258 Ar258 5 (by decide) (by decide) (by decide) (hb hby at_337) rfl ?_
    intro T259 h259 X259 e259 W259 Ar259
    have N259 := Fr.snoc X259 N258 gn_a253
    have B259_a237 := B258_a237.other W259 ne_a237_a253
    have B259_a240 := B258_a240.other W259 ne_a240_a253
    have Zc259 : n0 ≤ h259.size := by rw [W259.size]; exact Zc258
    refine g_dup X259 hx (hb hby at_338) rfl rfl ?_
    refine g_bipush (v := (6 : Int32)) X259 hx (hb hby at_339) (by decide) rfl ?_
    refine g_lload_n (i := 3) X259 hx (hb hby at_341) (by rfl) rfl ?_
    refine g_lastoreN X259 hx hZ e259 Ar259 6 (by decide) (by decide) (by decide) (hb hby at_342) rfl ?_
    intro T260 h260 X260 e260 W260 Ar260
    have N260 := Fr.snoc X260 N259 gn_a253
    have B260_a237 := B259_a237.other W260 ne_a237_a253
    have B260_a240 := B259_a240.other W260 ne_a240_a253
    have Zc260 : n0 ≤ h260.size := by rw [W260.size]; exact Zc259
    refine g_dup X260 hx (hb hby at_343) rfl rfl ?_
    refine g_bipush (v := (7 : Int32)) X260 hx (hb hby at_344) (by decide) rfl ?_
    refine g_lload_n (i := 3) X260 hx (hb hby at_346) (by rfl) rfl ?_
    refine g_lastoreN X260 hx hZ e260 Ar260 7 (by decide) (by decide) (by decide) (hb hby at_347) rfl ?_
    intro T261 h261 X261 e261 W261 Ar261
    have N261 := Fr.snoc X261 N260 gn_a253
    have B261_a237 := B260_a237.other W261 ne_a237_a253
    have B261_a240 := B260_a240.other W261 ne_a240_a253
    have Zc261 : n0 ≤ h261.size := by rw [W261.size]; exact Zc260
    refine g_dup X261 hx (hb hby at_348) rfl rfl ?_
    refine g_bipush (v := (8 : Int32)) X261 hx (hb hby at_349) (by decide) rfl ?_
    refine g_lload_n (i := 3) X261 hx (hb hby at_351) (by rfl) rfl ?_
    refine g_lastoreN X261 hx hZ e261 Ar261 8 (by decide) (by decide) (by decide) (hb hby at_352) rfl ?_
    intro T262 h262 X262 e262 W262 Ar262
    have N262 := Fr.snoc X262 N261 gn_a253
    have B262_a237 := B261_a237.other W262 ne_a237_a253
    have B262_a240 := B261_a240.other W262 ne_a240_a253
    have Zc262 : n0 ≤ h262.size := by rw [W262.size]; exact Zc261
    refine g_dup X262 hx (hb hby at_353) rfl rfl ?_
    refine g_bipush (v := (9 : Int32)) X262 hx (hb hby at_354) (by decide) rfl ?_
    refine g_lload_n (i := 3) X262 hx (hb hby at_356) (by rfl) rfl ?_
    refine g_lastoreN X262 hx hZ e262 Ar262 9 (by decide) (by decide) (by decide) (hb hby at_357) rfl ?_
    intro T263 h263 X263 e263 W263 Ar263
    have N263 := Fr.snoc X263 N262 gn_a253
    have B263_a237 := B262_a237.other W263 ne_a237_a253
    have B263_a240 := B262_a240.other W263 ne_a240_a253
    have Zc263 : n0 ≤ h263.size := by rw [W263.size]; exact Zc262
    refine g_dup X263 hx (hb hby at_358) rfl rfl ?_
    refine g_bipush (v := (10 : Int32)) X263 hx (hb hby at_359) (by decide) rfl ?_
    refine g_lload_n (i := 3) X263 hx (hb hby at_361) (by rfl) rfl ?_
    refine g_lastoreN X263 hx hZ e263 Ar263 10 (by decide) (by decide) (by decide) (hb hby at_362) rfl ?_
    intro T264 h264 X264 e264 W264 Ar264
    have N264 := Fr.snoc X264 N263 gn_a253
    have B264_a237 := B263_a237.other W264 ne_a237_a253
    have B264_a240 := B263_a240.other W264 ne_a240_a253
    have Zc264 : n0 ≤ h264.size := by rw [W264.size]; exact Zc263
    refine g_dup X264 hx (hb hby at_363) rfl rfl ?_
    refine g_bipush (v := (11 : Int32)) X264 hx (hb hby at_364) (by decide) rfl ?_
    refine g_lload_n (i := 3) X264 hx (hb hby at_366) (by rfl) rfl ?_
    refine g_lastoreN X264 hx hZ e264 Ar264 11 (by decide) (by decide) (by decide) (hb hby at_367) rfl ?_
    intro T265 h265 X265 e265 W265 Ar265
    have N265 := Fr.snoc X265 N264 gn_a253
    have B265_a237 := B264_a237.other W265 ne_a237_a253
    have B265_a240 := B264_a240.other W265 ne_a240_a253
    have Zc265 : n0 ≤ h265.size := by rw [W265.size]; exact Zc264
    refine g_astore (i := 15) X265 hx #[.val (.long p0), .second, .val (.int p1), .val (.long p2), .second, .val (.int p3), .val (.int p4), .val (.int (5 : Int32)), .val (.int nrow), .val (.int pad), .val (.int ofs), .val (.int (3 : Int32)), .val (.ref a237), .val (.int strd), .val (.ref a240), .val (.ref a253), .unset, .unset, .unset, .unset, .unset, .unset] (hb hby at_368) rfl rfl rfl ?_
    refine g_aload (i := 12) X265 hx (hb hby at_370) (by rfl) rfl rfl ?_
    refine g_arraylengthI X265 hx hZ e265 B265_a237 (z := (2 : Int32)) (by decide) (hb hby at_372) rfl ?_
    refine g_istore (i := 16) X265 hx #[.val (.long p0), .second, .val (.int p1), .val (.long p2), .second, .val (.int p3), .val (.int p4), .val (.int (5 : Int32)), .val (.int nrow), .val (.int pad), .val (.int ofs), .val (.int (3 : Int32)), .val (.ref a237), .val (.int strd), .val (.ref a240), .val (.ref a253), .val (.int (2 : Int32)), .unset, .unset, .unset, .unset, .unset] (hb hby at_373) rfl rfl ?_
    refine g_aload (i := 12) X265 hx (hb hby at_375) (by rfl) rfl rfl ?_
    refine g_iconst (v := (0 : Int32)) X265 hx (hb hby at_377) (by decide) rfl ?_
    refine g_iaload' X265 hx hZ e265 B265_a237 (by decide) (by decide) (x := (2 : Int32)) rfl (hb hby at_378) rfl ?_
    refine g_istore (i := 17) X265 hx #[.val (.long p0), .second, .val (.int p1), .val (.long p2), .second, .val (.int p3), .val (.int p4), .val (.int (5 : Int32)), .val (.int nrow), .val (.int pad), .val (.int ofs), .val (.int (3 : Int32)), .val (.ref a237), .val (.int strd), .val (.ref a240), .val (.ref a253), .val (.int (2 : Int32)), .val (.int (2 : Int32)), .unset, .unset, .unset, .unset] (hb hby at_379) rfl rfl ?_
    refine g_iload (i := 16) X265 hx (hb hby at_381) (by rfl) rfl ?_
    refine g_iconst (v := (1 : Int32)) X265 hx (hb hby at_383) (by decide) rfl ?_
    refine g_icmp_le X265 hx (hb hby at_384) (by decide) (pt := 394) (by decide) rfl (fun q_ => absurd (by decide) q_) (fun _ => ?_)
    refine g_aload (i := 12) X265 hx (hb hby at_387) (by rfl) rfl rfl ?_
    refine g_iconst (v := (1 : Int32)) X265 hx (hb hby at_389) (by decide) rfl ?_
    refine g_iaload' X265 hx hZ e265 B265_a237 (by decide) (by decide) (x := (3 : Int32)) rfl (hb hby at_390) rfl ?_
    refine g_goto X265 hx (hb hby at_391) (by decide) (by decide) (pc' := 396) ?_
    refine g_istore (i := 18) X265 hx #[.val (.long p0), .second, .val (.int p1), .val (.long p2), .second, .val (.int p3), .val (.int p4), .val (.int (5 : Int32)), .val (.int nrow), .val (.int pad), .val (.int ofs), .val (.int (3 : Int32)), .val (.ref a237), .val (.int strd), .val (.ref a240), .val (.ref a253), .val (.int (2 : Int32)), .val (.int (2 : Int32)), .val (.int (3 : Int32)), .unset, .unset, .unset] (hb hby at_396) rfl rfl ?_
    refine g_iload (i := 16) X265 hx (hb hby at_398) (by rfl) rfl ?_
    refine g_iconst (v := (2 : Int32)) X265 hx (hb hby at_400) (by decide) rfl ?_
    refine g_icmp_le X265 hx (hb hby at_401) (by decide) (pt := 411) (by decide) rfl (fun _ => ?_) (fun q_ => absurd q_ (by decide))
    refine g_iload (i := 18) X265 hx (hb hby at_411) (by rfl) rfl ?_
    refine g_istore (i := 19) X265 hx #[.val (.long p0), .second, .val (.int p1), .val (.long p2), .second, .val (.int p3), .val (.int p4), .val (.int (5 : Int32)), .val (.int nrow), .val (.int pad), .val (.int ofs), .val (.int (3 : Int32)), .val (.ref a237), .val (.int strd), .val (.ref a240), .val (.ref a253), .val (.int (2 : Int32)), .val (.int (2 : Int32)), .val (.int (3 : Int32)), .val (.int (3 : Int32)), .unset, .unset] (hb hby at_413) rfl rfl ?_
    obtain ⟨S, hS⟩ : ∃ S : Nat, strd.toInt = (S : Int) := ⟨strd.toInt.toNat, by omega⟩
    obtain ⟨f, As, hf⟩ : ∃ f, ArI Z h265 a240 .byte 12 f ∧ ∀ i, i < 12 → f i &&& 255 = own_smp p0 p1 (Int32.ofNat i) := by
      refine ⟨_, B265_a240, fun i hi => ?_⟩
      rcases own_twelve i hi with rfl | rfl | rfl | rfl | rfl | rfl | rfl | rfl | rfl | rfl | rfl | rfl
      · exact (by show _ = own_smp p0 p1 (Int32.ofNat 0); rw [show own_smp p0 p1 (Int32.ofNat 0) = (XT.ushrL p0 (0 : Int32)).toInt32 &&& 255 from if_pos (by decide), own_u0L]; exact own_nb255 _)
      · exact (by show _ = own_smp p0 p1 (Int32.ofNat 1); rw [show own_smp p0 p1 (Int32.ofNat 1) = (XT.ushrL p0 (8 : Int32)).toInt32 &&& 255 from if_pos (by decide)]; exact own_nb255 _)
      · exact (by show _ = own_smp p0 p1 (Int32.ofNat 2); rw [show own_smp p0 p1 (Int32.ofNat 2) = (XT.ushrL p0 (16 : Int32)).toInt32 &&& 255 from if_pos (by decide)]; exact own_nb255 _)
      · exact (by show _ = own_smp p0 p1 (Int32.ofNat 3); rw [show own_smp p0 p1 (Int32.ofNat 3) = (XT.ushrL p0 (24 : Int32)).toInt32 &&& 255 from if_pos (by decide)]; exact own_nb255 _)
      · exact (by show _ = own_smp p0 p1 (Int32.ofNat 4); rw [show own_smp p0 p1 (Int32.ofNat 4) = (XT.ushrL p0 (32 : Int32)).toInt32 &&& 255 from if_pos (by decide)]; exact own_nb255 _)
      · exact (by show _ = own_smp p0 p1 (Int32.ofNat 5); rw [show own_smp p0 p1 (Int32.ofNat 5) = (XT.ushrL p0 (40 : Int32)).toInt32 &&& 255 from if_pos (by decide)]; exact own_nb255 _)
      · exact (by show _ = own_smp p0 p1 (Int32.ofNat 6); rw [show own_smp p0 p1 (Int32.ofNat 6) = (XT.ushrL p0 (48 : Int32)).toInt32 &&& 255 from if_pos (by decide)]; exact own_nb255 _)
      · exact (by show _ = own_smp p0 p1 (Int32.ofNat 7); rw [show own_smp p0 p1 (Int32.ofNat 7) = (XT.ushrL p0 (56 : Int32)).toInt32 &&& 255 from if_pos (by decide)]; exact own_nb255 _)
      · exact (by show _ = own_smp p0 p1 (Int32.ofNat 8); rw [show own_smp p0 p1 (Int32.ofNat 8) = XT.ushr p1 (0 : Int32) &&& 255 from if_neg (by decide), own_u0]; exact own_nb255 _)
      · exact (by show _ = own_smp p0 p1 (Int32.ofNat 9); rw [show own_smp p0 p1 (Int32.ofNat 9) = XT.ushr p1 (8 : Int32) &&& 255 from if_neg (by decide)]; exact own_nb255 _)
      · exact (by show _ = own_smp p0 p1 (Int32.ofNat 10); rw [show own_smp p0 p1 (Int32.ofNat 10) = XT.ushr p1 (16 : Int32) &&& 255 from if_neg (by decide)]; exact own_nb255 _)
      · exact (by show _ = own_smp p0 p1 (Int32.ofNat 11); rw [show own_smp p0 p1 (Int32.ofNat 11) = XT.ushr p1 (24 : Int32) &&& 255 from if_neg (by decide)]; exact own_nb255 _)
    refine g_new X265 hx hZ hown (wd hw 4 rfl) (wd hw 5 rfl) (wd hw 6 rfl) e265 (hb hby at_415) rfl (by decide) (by decide) ?_
    intro T266 h266 a266 X266 e266 g266 Ex266 E266 D266
    have C_a237 := B265_a237.ext Ex266
    have C_a253 := Ar265.ext Ex266
    have As2 := As.ext Ex266
    refine g_dup X266 hx (hb hby at_418) rfl rfl ?_
    refine g_callI X266 hx hZ rfl hown (wd hw 7 rfl) (wd hw 8 rfl) (wd hw 6 rfl) (wd hw 9 rfl) (by decide) e266 (rm_init l Z a0 hw a266 h266) (by rw [hml]; rfl) a266 [] [(.ref a266)] rfl (lenOf pd_79 rfl) rfl (by show 1 + (1 + 11) + 12 ≤ _; decide) (by decide) (by decide) (by decide) (hb hby at_419) rfl ?_
    intro T267 v267 L267 X267 hQ267
    obtain ⟨rfl, rfl, e267⟩ := hQ267
    have N267 := Fr.app N265 (Fr.nil n0)
    show Goes p e below _ T267 (mkF m 422 #[.val (.long p0), .second, .val (.int p1), .val (.long p2), .second, .val (.int p3), .val (.int p4), .val (.int (5 : Int32)), .val (.int nrow), .val (.int pad), .val (.int ofs), .val (.int (3 : Int32)), .val (.ref a237), .val (.int strd), .val (.ref a240), .val (.ref a253), .val (.int (2 : Int32)), .val (.int (2 : Int32)), .val (.int (3 : Int32)), .val (.int (3 : Int32)), .unset, .unset] [(.ref a266)])
    refine g_aload (i := 14) X267 hx (hb hby at_422) (by rfl) rfl rfl ?_
    refine g_iload (i := 10) X267 hx (hb hby at_424) (by rfl) rfl ?_
    refine g_iload (i := 13) X267 hx (hb hby at_426) (by rfl) rfl ?_
    refine g_iload (i := 8) X267 hx (hb hby at_428) (by rfl) rfl ?_
    refine g_aload (i := 12) X267 hx (hb hby at_430) (by rfl) rfl rfl ?_
    refine g_aload (i := 15) X267 hx (hb hby at_432) (by rfl) rfl rfl ?_
    refine g_callV X267 hx hZ hown (wd hw 13 rfl) (wd hw 14 rfl) (wd hw 16 rfl) (wd hw 15 rfl) (wd hw 6 rfl) (wd hw 17 rfl) (by decide) e267 a266 E266 (rm_sum2 l Z a0 hw a266 a240 a237 a253 ofs strd nrow (2 : Int32) (3 : Int32) 3 S R f _ _ h266 n0 As2 C_a237 C_a253 ne_a237_a253 ne_a240_a253 gn_a253 hg_ofs.1 hg_ofs.2 hS (by omega) (by omega) (by omega) hR hR3 rfl (by decide) rfl (by decide) (by decide)) (by rw [hml]; rfl) [(.ref a240), (.int ofs), (.int strd), (.int nrow), (.ref a237), (.ref a253)] [] rfl (lenOf pd_80 rfl) rfl (by show 0 + (13 + 11) + 0 ≤ _; decide) (by decide) (by decide) (by decide) (hb hby at_434) rfl ?_
    intro T268 v268 L268 X268 hQ268
    obtain ⟨g', rfl, N268, Ag', ⟨w0_0, w0_1, w0_2, w0_3⟩, ⟨w1_0, w1_1, w1_2, w1_3⟩, y8, y9, y10, y11⟩ := hQ268
    have N268 := Fr.app N267 N268
    show Goes p e below _ T268 (mkF m 437 #[.val (.long p0), .second, .val (.int p1), .val (.long p2), .second, .val (.int p3), .val (.int p4), .val (.int (5 : Int32)), .val (.int nrow), .val (.int pad), .val (.int ofs), .val (.int (3 : Int32)), .val (.ref a237), .val (.int strd), .val (.ref a240), .val (.ref a253), .val (.int (2 : Int32)), .val (.int (2 : Int32)), .val (.int (3 : Int32)), .val (.int (3 : Int32)), .unset, .unset] [(.int (1 : Int32))])
    refine g_istore (i := 20) X268 hx #[.val (.long p0), .second, .val (.int p1), .val (.long p2), .second, .val (.int p3), .val (.int p4), .val (.int (5 : Int32)), .val (.int nrow), .val (.int pad), .val (.int ofs), .val (.int (3 : Int32)), .val (.ref a237), .val (.int strd), .val (.ref a240), .val (.ref a253), .val (.int (2 : Int32)), .val (.int (2 : Int32)), .val (.int (3 : Int32)), .val (.int (3 : Int32)), .val (.int (1 : Int32)), .unset] (hb hby at_437) rfl rfl ?_
    refine g_iload (i := 20) X268 hx (hb hby at_439) (by rfl) rfl ?_
    refine g_istore (i := 21) X268 hx #[.val (.long p0), .second, .val (.int p1), .val (.long p2), .second, .val (.int p3), .val (.int p4), .val (.int (5 : Int32)), .val (.int nrow), .val (.int pad), .val (.int ofs), .val (.int (3 : Int32)), .val (.ref a237), .val (.int strd), .val (.ref a240), .val (.ref a253), .val (.int (2 : Int32)), .val (.int (2 : Int32)), .val (.int (3 : Int32)), .val (.int (3 : Int32)), .val (.int (1 : Int32)), .val (.int (1 : Int32))] (hb hby at_441) rfl rfl ?_
    refine g_iload (i := 21) X268 hx (hb hby at_443) (by rfl) rfl ?_
    refine g_if_eq X268 hx (hb hby at_445) (by decide) (pt := 482) (by decide) rfl (fun q_ => absurd q_ (by decide)) (fun _ => ?_)
    refine g_aload (i := 15) X268 hx (hb hby at_448) (by rfl) rfl rfl ?_
    refine g_iconst (v := (0 : Int32)) X268 hx (hb hby at_450) (by decide) rfl ?_
    refine g_lload_n (i := 3) X268 hx (hb hby at_451) (by rfl) rfl ?_
    refine g_iconst (v := (1 : Int32)) X268 hx (hb hby at_452) (by decide) rfl ?_
    refine g_iload (i := 8) X268 hx (hb hby at_453) (by rfl) rfl ?_
    refine g_iconst (v := (0 : Int32)) X268 hx (hb hby at_455) (by decide) rfl ?_
    refine g_iload (i := 17) X268 hx (hb hby at_456) (by rfl) rfl ?_
    refine g_lload_n (i := 0) X268 hx (hb hby at_458) (by rfl) rfl ?_
    refine g_iload_n (i := 2) X268 hx (hb hby at_459) (by rfl) rfl ?_
    refine g_iload (i := 10) X268 hx (hb hby at_460) (by rfl) rfl ?_
    refine g_iload (i := 13) X268 hx (hb hby at_462) (by rfl) rfl ?_
    refine g_iload (i := 8) X268 hx (hb hby at_464) (by rfl) rfl ?_
    refine g_iconst (v := (0 : Int32)) X268 hx (hb hby at_466) (by decide) rfl ?_
    refine g_iload (i := 17) X268 hx (hb hby at_467) (by rfl) rfl ?_
    refine g_callS X268 hx hZ hown (wd hw 19 rfl) (wd hw 20 rfl) (wd hw 21 rfl) (wd hw 22 rfl) (by decide) rfl (rm_lvl l Z a0 hw p0 p1 ofs strd nrow (0 : Int32) (2 : Int32) T268.heap) (by rw [hml]; rfl) [(.long p0), (.int p1), (.int ofs), (.int strd), (.int nrow), (.int (0 : Int32)), (.int (2 : Int32))] [(.int (2 : Int32)), (.int (0 : Int32)), (.int nrow), (.int (1 : Int32)), (.long p2), (.int (0 : Int32)), (.ref a253)] rfl (lenOf pd_81 rfl) rfl (by show 8 + (8 + 11) + 38 ≤ _; decide) (by decide) (by decide) (by decide) (hb hby at_469) rfl ?_
    intro T269 v269 L269 X269 hQ269
    obtain ⟨rfl, rfl, e269⟩ := hQ269
    have N269 := Fr.app N268 (Fr.nil n0)
    show Goes p e below _ T269 (mkF m 472 #[.val (.long p0), .second, .val (.int p1), .val (.long p2), .second, .val (.int p3), .val (.int p4), .val (.int (5 : Int32)), .val (.int nrow), .val (.int pad), .val (.int ofs), .val (.int (3 : Int32)), .val (.ref a237), .val (.int strd), .val (.ref a240), .val (.ref a253), .val (.int (2 : Int32)), .val (.int (2 : Int32)), .val (.int (3 : Int32)), .val (.int (3 : Int32)), .val (.int (1 : Int32)), .val (.int (1 : Int32))] [(.long (own_lvl p0 p1 ofs strd nrow (0 : Int32) (2 : Int32))), (.int (2 : Int32)), (.int (0 : Int32)), (.int nrow), (.int (1 : Int32)), (.long p2), (.int (0 : Int32)), (.ref a253)])
    have hl0 : own_blk f S (((2 : Int32)).toInt - ((0 : Int32)).toInt).toNat (ofs.toInt + ((0 : Int32)).toInt).toNat R 0 = (own_lvl p0 p1 ofs strd nrow (0 : Int32) (2 : Int32)) := by
      rcases hg_nrow with rfl | rfl | rfl
      · obtain rfl : R = 1 := by have := hR; rw [show (1 : Int32).toInt = 1 from rfl] at this; omega
        exact (own_lev_0_2_1 hf hg_ofs.1 hg_ofs.2 hS (by omega)).symm
      · obtain rfl : R = 2 := by have := hR; rw [show (2 : Int32).toInt = 2 from rfl] at this; omega
        exact (own_lev_0_2_2 hf hg_ofs.1 hg_ofs.2 hS (by omega)).symm
      · obtain rfl : R = 3 := by have := hR; rw [show (3 : Int32).toInt = 3 from rfl] at this; omega
        exact (own_lev_0_2_3 hf hg_ofs.1 hg_ofs.2 hS (by omega)).symm
    refine g_callS X269 hx hZ hown (wd hw 29 rfl) (wd hw 30 rfl) (wd hw 21 rfl) (wd hw 31 rfl) (by decide) e269 (rm_run1 l Z a0 hw a253 (0 : Int32) p2 nrow (0 : Int32) (2 : Int32) (own_lvl p0 p1 ofs strd nrow (0 : Int32) (2 : Int32)) g' T268.heap Ag' (by decide) w0_0 (w0_1.trans hl0) (w0_2.trans hl0) (w0_3.trans hl0)) (by rw [hml]; rfl) [(.ref a253), (.int (0 : Int32)), (.long p2), (.int (1 : Int32)), (.int nrow), (.int (0 : Int32)), (.int (2 : Int32)), (.long (own_lvl p0 p1 ofs strd nrow (0 : Int32) (2 : Int32)))] [] rfl (lenOf pd_82 rfl) rfl (by show 0 + (11 + 11) + 0 ≤ _; decide) (by decide) (by decide) (by decide) (hb hby at_472) rfl ?_
    intro T270 v270 L270 X270 hQ270
    obtain ⟨rfl, rfl, e270⟩ := hQ270
    have N270 := Fr.app N269 (Fr.nil n0)
    show Goes p e below _ T270 (mkF m 475 #[.val (.long p0), .second, .val (.int p1), .val (.long p2), .second, .val (.int p3), .val (.int p4), .val (.int (5 : Int32)), .val (.int nrow), .val (.int pad), .val (.int ofs), .val (.int (3 : Int32)), .val (.ref a237), .val (.int strd), .val (.ref a240), .val (.ref a253), .val (.int (2 : Int32)), .val (.int (2 : Int32)), .val (.int (3 : Int32)), .val (.int (3 : Int32)), .val (.int (1 : Int32)), .val (.int (1 : Int32))] [(.int (1 : Int32))])
    refine g_if_eq X270 hx (hb hby at_475) (by decide) (pt := 482) (by decide) rfl (fun q_ => absurd q_ (by decide)) (fun _ => ?_)
    refine g_iconst (v := (1 : Int32)) X270 hx (hb hby at_478) (by decide) rfl ?_
    refine g_goto X270 hx (hb hby at_479) (by decide) (by decide) (pc' := 483) ?_
    refine g_istore (i := 21) X270 hx #[.val (.long p0), .second, .val (.int p1), .val (.long p2), .second, .val (.int p3), .val (.int p4), .val (.int (5 : Int32)), .val (.int nrow), .val (.int pad), .val (.int ofs), .val (.int (3 : Int32)), .val (.ref a237), .val (.int strd), .val (.ref a240), .val (.ref a253), .val (.int (2 : Int32)), .val (.int (2 : Int32)), .val (.int (3 : Int32)), .val (.int (3 : Int32)), .val (.int (1 : Int32)), .val (.int (1 : Int32))] (hb hby at_483) rfl rfl ?_
    refine g_iload (i := 21) X270 hx (hb hby at_485) (by rfl) rfl ?_
    refine g_if_eq X270 hx (hb hby at_487) (by decide) (pt := 536) (by decide) rfl (fun q_ => absurd q_ (by decide)) (fun _ => ?_)
    refine g_aload (i := 15) X270 hx (hb hby at_490) (by rfl) rfl rfl ?_
    refine g_iconst (v := (1 : Int32)) X270 hx (hb hby at_492) (by decide) rfl ?_
    refine g_lload_n (i := 3) X270 hx (hb hby at_493) (by rfl) rfl ?_
    refine g_iload (i := 16) X270 hx (hb hby at_494) (by rfl) rfl ?_
    refine g_iconst (v := (1 : Int32)) X270 hx (hb hby at_496) (by decide) rfl ?_
    refine g_icmp_le X270 hx (hb hby at_497) (by decide) (pt := 504) (by decide) rfl (fun q_ => absurd (by decide) q_) (fun _ => ?_)
    refine g_iconst (v := (1 : Int32)) X270 hx (hb hby at_500) (by decide) rfl ?_
    refine g_goto X270 hx (hb hby at_501) (by decide) (by decide) (pc' := 505) ?_
    refine g_iload (i := 8) X270 hx (hb hby at_505) (by rfl) rfl ?_
    refine g_iload (i := 17) X270 hx (hb hby at_507) (by rfl) rfl ?_
    refine g_iload (i := 18) X270 hx (hb hby at_509) (by rfl) rfl ?_
    refine g_lload_n (i := 0) X270 hx (hb hby at_511) (by rfl) rfl ?_
    refine g_iload_n (i := 2) X270 hx (hb hby at_512) (by rfl) rfl ?_
    refine g_iload (i := 10) X270 hx (hb hby at_513) (by rfl) rfl ?_
    refine g_iload (i := 13) X270 hx (hb hby at_515) (by rfl) rfl ?_
    refine g_iload (i := 8) X270 hx (hb hby at_517) (by rfl) rfl ?_
    refine g_iload (i := 17) X270 hx (hb hby at_519) (by rfl) rfl ?_
    refine g_iload (i := 18) X270 hx (hb hby at_521) (by rfl) rfl ?_
    refine g_callS X270 hx hZ hown (wd hw 19 rfl) (wd hw 20 rfl) (wd hw 21 rfl) (wd hw 22 rfl) (by decide) e270 (rm_lvl l Z a0 hw p0 p1 ofs strd nrow (2 : Int32) (3 : Int32) T268.heap) (by rw [hml]; rfl) [(.long p0), (.int p1), (.int ofs), (.int strd), (.int nrow), (.int (2 : Int32)), (.int (3 : Int32))] [(.int (3 : Int32)), (.int (2 : Int32)), (.int nrow), (.int (1 : Int32)), (.long p2), (.int (1 : Int32)), (.ref a253)] rfl (lenOf pd_81 rfl) rfl (by show 8 + (8 + 11) + 38 ≤ _; decide) (by decide) (by decide) (by decide) (hb hby at_523) rfl ?_
    intro T271 v271 L271 X271 hQ271
    obtain ⟨rfl, rfl, e271⟩ := hQ271
    have N271 := Fr.app N270 (Fr.nil n0)
    show Goes p e below _ T271 (mkF m 526 #[.val (.long p0), .second, .val (.int p1), .val (.long p2), .second, .val (.int p3), .val (.int p4), .val (.int (5 : Int32)), .val (.int nrow), .val (.int pad), .val (.int ofs), .val (.int (3 : Int32)), .val (.ref a237), .val (.int strd), .val (.ref a240), .val (.ref a253), .val (.int (2 : Int32)), .val (.int (2 : Int32)), .val (.int (3 : Int32)), .val (.int (3 : Int32)), .val (.int (1 : Int32)), .val (.int (1 : Int32))] [(.long (own_lvl p0 p1 ofs strd nrow (2 : Int32) (3 : Int32))), (.int (3 : Int32)), (.int (2 : Int32)), (.int nrow), (.int (1 : Int32)), (.long p2), (.int (1 : Int32)), (.ref a253)])
    have hl1 : own_blk f S (((3 : Int32)).toInt - ((2 : Int32)).toInt).toNat (ofs.toInt + ((2 : Int32)).toInt).toNat R 0 = (own_lvl p0 p1 ofs strd nrow (2 : Int32) (3 : Int32)) := by
      rcases hg_nrow with rfl | rfl | rfl
      · obtain rfl : R = 1 := by have := hR; rw [show (1 : Int32).toInt = 1 from rfl] at this; omega
        exact (own_lev_2_3_1 hf hg_ofs.1 hg_ofs.2 hS (by omega)).symm
      · obtain rfl : R = 2 := by have := hR; rw [show (2 : Int32).toInt = 2 from rfl] at this; omega
        exact (own_lev_2_3_2 hf hg_ofs.1 hg_ofs.2 hS (by omega)).symm
      · obtain rfl : R = 3 := by have := hR; rw [show (3 : Int32).toInt = 3 from rfl] at this; omega
        exact (own_lev_2_3_3 hf hg_ofs.1 hg_ofs.2 hS (by omega)).symm
    refine g_callS X271 hx hZ hown (wd hw 29 rfl) (wd hw 30 rfl) (wd hw 21 rfl) (wd hw 31 rfl) (by decide) e271 (rm_run1 l Z a0 hw a253 (1 : Int32) p2 nrow (2 : Int32) (3 : Int32) (own_lvl p0 p1 ofs strd nrow (2 : Int32) (3 : Int32)) g' T268.heap Ag' (by decide) w1_0 (w1_1.trans hl1) (w1_2.trans hl1) (w1_3.trans hl1)) (by rw [hml]; rfl) [(.ref a253), (.int (1 : Int32)), (.long p2), (.int (1 : Int32)), (.int nrow), (.int (2 : Int32)), (.int (3 : Int32)), (.long (own_lvl p0 p1 ofs strd nrow (2 : Int32) (3 : Int32)))] [] rfl (lenOf pd_82 rfl) rfl (by show 0 + (11 + 11) + 0 ≤ _; decide) (by decide) (by decide) (by decide) (hb hby at_526) rfl ?_
    intro T272 v272 L272 X272 hQ272
    obtain ⟨rfl, rfl, e272⟩ := hQ272
    have N272 := Fr.app N271 (Fr.nil n0)
    show Goes p e below _ T272 (mkF m 529 #[.val (.long p0), .second, .val (.int p1), .val (.long p2), .second, .val (.int p3), .val (.int p4), .val (.int (5 : Int32)), .val (.int nrow), .val (.int pad), .val (.int ofs), .val (.int (3 : Int32)), .val (.ref a237), .val (.int strd), .val (.ref a240), .val (.ref a253), .val (.int (2 : Int32)), .val (.int (2 : Int32)), .val (.int (3 : Int32)), .val (.int (3 : Int32)), .val (.int (1 : Int32)), .val (.int (1 : Int32))] [(.int (1 : Int32))])
    refine g_if_eq X272 hx (hb hby at_529) (by decide) (pt := 536) (by decide) rfl (fun q_ => absurd q_ (by decide)) (fun _ => ?_)
    refine g_iconst (v := (1 : Int32)) X272 hx (hb hby at_532) (by decide) rfl ?_
    refine g_goto X272 hx (hb hby at_533) (by decide) (by decide) (pc' := 537) ?_
    refine g_istore (i := 21) X272 hx #[.val (.long p0), .second, .val (.int p1), .val (.long p2), .second, .val (.int p3), .val (.int p4), .val (.int (5 : Int32)), .val (.int nrow), .val (.int pad), .val (.int ofs), .val (.int (3 : Int32)), .val (.ref a237), .val (.int strd), .val (.ref a240), .val (.ref a253), .val (.int (2 : Int32)), .val (.int (2 : Int32)), .val (.int (3 : Int32)), .val (.int (3 : Int32)), .val (.int (1 : Int32)), .val (.int (1 : Int32))] (hb hby at_537) rfl rfl ?_
    refine g_iload (i := 21) X272 hx (hb hby at_539) (by rfl) rfl ?_
    refine g_if_eq X272 hx (hb hby at_541) (by decide) (pt := 590) (by decide) rfl (fun q_ => absurd q_ (by decide)) (fun _ => ?_)
    refine g_aload (i := 15) X272 hx (hb hby at_544) (by rfl) rfl rfl ?_
    refine g_iconst (v := (2 : Int32)) X272 hx (hb hby at_546) (by decide) rfl ?_
    refine g_lload_n (i := 3) X272 hx (hb hby at_547) (by rfl) rfl ?_
    refine g_iload (i := 16) X272 hx (hb hby at_548) (by rfl) rfl ?_
    refine g_iconst (v := (2 : Int32)) X272 hx (hb hby at_550) (by decide) rfl ?_
    refine g_icmp_le X272 hx (hb hby at_551) (by decide) (pt := 558) (by decide) rfl (fun _ => ?_) (fun q_ => absurd q_ (by decide))
    refine g_iconst (v := (0 : Int32)) X272 hx (hb hby at_558) (by decide) rfl ?_
    refine g_iload (i := 8) X272 hx (hb hby at_559) (by rfl) rfl ?_
    refine g_iload (i := 18) X272 hx (hb hby at_561) (by rfl) rfl ?_
    refine g_iload (i := 19) X272 hx (hb hby at_563) (by rfl) rfl ?_
    refine g_lload_n (i := 0) X272 hx (hb hby at_565) (by rfl) rfl ?_
    refine g_iload_n (i := 2) X272 hx (hb hby at_566) (by rfl) rfl ?_
    refine g_iload (i := 10) X272 hx (hb hby at_567) (by rfl) rfl ?_
    refine g_iload (i := 13) X272 hx (hb hby at_569) (by rfl) rfl ?_
    refine g_iload (i := 8) X272 hx (hb hby at_571) (by rfl) rfl ?_
    refine g_iload (i := 18) X272 hx (hb hby at_573) (by rfl) rfl ?_
    refine g_iload (i := 19) X272 hx (hb hby at_575) (by rfl) rfl ?_
    refine g_callS X272 hx hZ hown (wd hw 19 rfl) (wd hw 20 rfl) (wd hw 21 rfl) (wd hw 22 rfl) (by decide) e272 (rm_lvl l Z a0 hw p0 p1 ofs strd nrow (3 : Int32) (3 : Int32) T268.heap) (by rw [hml]; rfl) [(.long p0), (.int p1), (.int ofs), (.int strd), (.int nrow), (.int (3 : Int32)), (.int (3 : Int32))] [(.int (3 : Int32)), (.int (3 : Int32)), (.int nrow), (.int (0 : Int32)), (.long p2), (.int (2 : Int32)), (.ref a253)] rfl (lenOf pd_81 rfl) rfl (by show 8 + (8 + 11) + 38 ≤ _; decide) (by decide) (by decide) (by decide) (hb hby at_577) rfl ?_
    intro T273 v273 L273 X273 hQ273
    obtain ⟨rfl, rfl, e273⟩ := hQ273
    have N273 := Fr.app N272 (Fr.nil n0)
    show Goes p e below _ T273 (mkF m 580 #[.val (.long p0), .second, .val (.int p1), .val (.long p2), .second, .val (.int p3), .val (.int p4), .val (.int (5 : Int32)), .val (.int nrow), .val (.int pad), .val (.int ofs), .val (.int (3 : Int32)), .val (.ref a237), .val (.int strd), .val (.ref a240), .val (.ref a253), .val (.int (2 : Int32)), .val (.int (2 : Int32)), .val (.int (3 : Int32)), .val (.int (3 : Int32)), .val (.int (1 : Int32)), .val (.int (1 : Int32))] [(.long (own_lvl p0 p1 ofs strd nrow (3 : Int32) (3 : Int32))), (.int (3 : Int32)), (.int (3 : Int32)), (.int nrow), (.int (0 : Int32)), (.long p2), (.int (2 : Int32)), (.ref a253)])
    refine g_callS X273 hx hZ hown (wd hw 29 rfl) (wd hw 30 rfl) (wd hw 21 rfl) (wd hw 31 rfl) (by decide) e273 (rm_run0 l Z a0 hw a253 (2 : Int32) p2 nrow (3 : Int32) (3 : Int32) (own_lvl p0 p1 ofs strd nrow (3 : Int32) (3 : Int32)) g' T268.heap Ag' (by decide) y8 y9 y10 y11) (by rw [hml]; rfl) [(.ref a253), (.int (2 : Int32)), (.long p2), (.int (0 : Int32)), (.int nrow), (.int (3 : Int32)), (.int (3 : Int32)), (.long (own_lvl p0 p1 ofs strd nrow (3 : Int32) (3 : Int32)))] [] rfl (lenOf pd_82 rfl) rfl (by show 0 + (11 + 11) + 0 ≤ _; decide) (by decide) (by decide) (by decide) (hb hby at_580) rfl ?_
    intro T274 v274 L274 X274 hQ274
    obtain ⟨rfl, rfl, e274⟩ := hQ274
    have N274 := Fr.app N273 (Fr.nil n0)
    show Goes p e below _ T274 (mkF m 583 #[.val (.long p0), .second, .val (.int p1), .val (.long p2), .second, .val (.int p3), .val (.int p4), .val (.int (5 : Int32)), .val (.int nrow), .val (.int pad), .val (.int ofs), .val (.int (3 : Int32)), .val (.ref a237), .val (.int strd), .val (.ref a240), .val (.ref a253), .val (.int (2 : Int32)), .val (.int (2 : Int32)), .val (.int (3 : Int32)), .val (.int (3 : Int32)), .val (.int (1 : Int32)), .val (.int (1 : Int32))] [(.int (1 : Int32))])
    refine g_if_eq X274 hx (hb hby at_583) (by decide) (pt := 590) (by decide) rfl (fun q_ => absurd q_ (by decide)) (fun _ => ?_)
    refine g_iconst (v := (1 : Int32)) X274 hx (hb hby at_586) (by decide) rfl ?_
    refine g_goto X274 hx (hb hby at_587) (by decide) (by decide) (pc' := 591) ?_
    refine g_istore (i := 21) X274 hx #[.val (.long p0), .second, .val (.int p1), .val (.long p2), .second, .val (.int p3), .val (.int p4), .val (.int (5 : Int32)), .val (.int nrow), .val (.int pad), .val (.int ofs), .val (.int (3 : Int32)), .val (.ref a237), .val (.int strd), .val (.ref a240), .val (.ref a253), .val (.int (2 : Int32)), .val (.int (2 : Int32)), .val (.int (3 : Int32)), .val (.int (3 : Int32)), .val (.int (1 : Int32)), .val (.int (1 : Int32))] (hb hby at_591) rfl rfl ?_
    refine g_iload (i := 21) X274 hx (hb hby at_593) (by rfl) rfl ?_
    exact g_retN X274 hx (t := .boolean) (by simp) hlk hret e274 (by decide) (by decide) (hb hby at_595) ⟨rfl, N274⟩
  · have Zc := Z0
    refine g_iload (i := 7) X0 hx (hb hby at_36) (by rfl) rfl ?_
    refine g_if_ne X0 hx (hb hby at_38) (by decide) (pt := 56) (by decide) rfl (fun _ => ?_) (fun q_ => absurd q_ (by decide))
    refine g_iload (i := 7) X0 hx (hb hby at_56) (by rfl) rfl ?_
    refine g_iconst (v := (1 : Int32)) X0 hx (hb hby at_58) (by decide) rfl ?_
    refine g_icmp_ne X0 hx (hb hby at_59) (by decide) (pt := 77) (by decide) rfl (fun _ => ?_) (fun q_ => absurd q_ (by decide))
    refine g_iload (i := 7) X0 hx (hb hby at_77) (by rfl) rfl ?_
    refine g_iconst (v := (2 : Int32)) X0 hx (hb hby at_79) (by decide) rfl ?_
    refine g_icmp_ne X0 hx (hb hby at_80) (by decide) (pt := 102) (by decide) rfl (fun _ => ?_) (fun q_ => absurd q_ (by decide))
    refine g_iload (i := 7) X0 hx (hb hby at_102) (by rfl) rfl ?_
    refine g_iconst (v := (3 : Int32)) X0 hx (hb hby at_104) (by decide) rfl ?_
    refine g_icmp_ne X0 hx (hb hby at_105) (by decide) (pt := 123) (by decide) rfl (fun _ => ?_) (fun q_ => absurd q_ (by decide))
    refine g_iload (i := 7) X0 hx (hb hby at_123) (by rfl) rfl ?_
    refine g_iconst (v := (4 : Int32)) X0 hx (hb hby at_125) (by decide) rfl ?_
    refine g_icmp_ne X0 hx (hb hby at_126) (by decide) (pt := 148) (by decide) rfl (fun _ => ?_) (fun q_ => absurd q_ (by decide))
    refine g_iload (i := 7) X0 hx (hb hby at_148) (by rfl) rfl ?_
    refine g_iconst (v := (5 : Int32)) X0 hx (hb hby at_150) (by decide) rfl ?_
    refine g_icmp_ne X0 hx (hb hby at_151) (by decide) (pt := 173) (by decide) rfl (fun _ => ?_) (fun q_ => absurd q_ (by decide))
    refine g_iconst (v := (3 : Int32)) X0 hx (hb hby at_173) (by decide) rfl ?_
    refine g_istore (i := 11) X0 hx #[.val (.long p0), .second, .val (.int p1), .val (.long p2), .second, .val (.int p3), .val (.int p4), .val (.int (6 : Int32)), .val (.int nrow), .val (.int pad), .val (.int ofs), .val (.int (3 : Int32)), .unset, .unset, .unset, .unset, .unset, .unset, .unset, .unset, .unset, .unset] (hb hby at_174) rfl rfl ?_
    refine g_iconst (v := (3 : Int32)) X0 hx (hb hby at_176) (by decide) rfl ?_
    refine g_newarr X0 hx hZ (ty := .int) rfl (wd hw 1 rfl) e0 (hb hby at_177) rfl (by decide) 3 (by decide) (by decide) (by decide) (by decide) ?_
    intro T275 h275 cA275 a275 X275 e275 g275 Ex275 A275
    have gn_a275 : n0 ≤ a275 := by rw [g275]; exact Zc
    have Zc275 : n0 ≤ h275.size := Nat.le_trans Zc Ex275.1
    have Ar275 : ArI Z h275 a275 .int 3 (fun _ => 0) := ArI.new A275 0 rfl
    refine g_dup X275 hx (hb hby at_179) rfl rfl ?_
    refine g_iconst (v := (0 : Int32)) X275 hx (hb hby at_180) (by decide) rfl ?_
    refine g_iconst (v := (1 : Int32)) X275 hx (hb hby at_181) (by decide) rfl ?_
    refine g_iastoreN X275 hx hZ e275 Ar275 0 (by decide) (by decide) (by decide) (hb hby at_182) rfl ?_
    intro T276 h276 X276 e276 W276 Ar276
    have N276 := Fr.snoc X276 (Fr.nil n0) gn_a275
    have Zc276 : n0 ≤ h276.size := by rw [W276.size]; exact Zc275
    refine g_dup X276 hx (hb hby at_183) rfl rfl ?_
    refine g_iconst (v := (1 : Int32)) X276 hx (hb hby at_184) (by decide) rfl ?_
    refine g_iconst (v := (2 : Int32)) X276 hx (hb hby at_185) (by decide) rfl ?_
    refine g_iastoreN X276 hx hZ e276 Ar276 1 (by decide) (by decide) (by decide) (hb hby at_186) rfl ?_
    intro T277 h277 X277 e277 W277 Ar277
    have N277 := Fr.snoc X277 N276 gn_a275
    have Zc277 : n0 ≤ h277.size := by rw [W277.size]; exact Zc276
    refine g_dup X277 hx (hb hby at_187) rfl rfl ?_
    refine g_iconst (v := (2 : Int32)) X277 hx (hb hby at_188) (by decide) rfl ?_
    refine g_iconst (v := (3 : Int32)) X277 hx (hb hby at_189) (by decide) rfl ?_
    refine g_iastoreN X277 hx hZ e277 Ar277 2 (by decide) (by decide) (by decide) (hb hby at_190) rfl ?_
    intro T278 h278 X278 e278 W278 Ar278
    have N278 := Fr.snoc X278 N277 gn_a275
    have Zc278 : n0 ≤ h278.size := by rw [W278.size]; exact Zc277
    refine g_astore (i := 12) X278 hx #[.val (.long p0), .second, .val (.int p1), .val (.long p2), .second, .val (.int p3), .val (.int p4), .val (.int (6 : Int32)), .val (.int nrow), .val (.int pad), .val (.int ofs), .val (.int (3 : Int32)), .val (.ref a275), .unset, .unset, .unset, .unset, .unset, .unset, .unset, .unset, .unset] (hb hby at_191) rfl rfl rfl ?_
    refine g_iload (i := 11) X278 hx (hb hby at_193) (by rfl) rfl ?_
    refine g_iload (i := 9) X278 hx (hb hby at_195) (by rfl) rfl ?_
    refine g_iadd X278 hx (hb hby at_197) rfl ?_
    refine g_istore (i := 13) X278 hx #[.val (.long p0), .second, .val (.int p1), .val (.long p2), .second, .val (.int p3), .val (.int p4), .val (.int (6 : Int32)), .val (.int nrow), .val (.int pad), .val (.int ofs), .val (.int (3 : Int32)), .val (.ref a275), .val (.int ((3 : Int32) + pad)), .unset, .unset, .unset, .unset, .unset, .unset, .unset, .unset] (hb hby at_198) rfl rfl ?_
    have hst : (((3 : Int32) + pad)).toInt = 3 + pad.toInt := by have e := c_iadd (3 : Int32) pad; have r := rng32 (((3 : Int32) + pad)); rw [show ((3 : Int32)).toInt = 3 from rfl] at e; omega
    revert hst
    generalize ((3 : Int32) + pad) = strd
    intro hst
    refine g_bipush (v := (12 : Int32)) X278 hx (hb hby at_200) (by decide) rfl ?_
    refine g_newarr X278 hx hZ (ty := .byte) rfl (wd hw 2 rfl) e278 (hb hby at_202) rfl (by decide) 12 (by decide) (by decide) (by decide) (by decide) ?_
    intro T279 h279 cA279 a279 X279 e279 g279 Ex279 A279
    have ne_a275_a279 : a275 ≠ a279 := fun q => absurd Ar278.lt (by rw [q, g279]; exact Nat.lt_irrefl _)
    have B279_a275 := Ar278.ext Ex279
    have gn_a279 : n0 ≤ a279 := by rw [g279]; exact Zc278
    have Zc279 : n0 ≤ h279.size := Nat.le_trans Zc278 Ex279.1
    have Ar279 : ArI Z h279 a279 .byte 12 (fun _ => 0) := ArI.new A279 0 rfl
    refine g_dup X279 hx (hb hby at_204) rfl rfl ?_
    refine g_iconst (v := (0 : Int32)) X279 hx (hb hby at_205) (by decide) rfl ?_
    refine g_lload_n (i := 0) X279 hx (hb hby at_206) (by rfl) rfl ?_
    refine g_l2i X279 hx (hb hby at_207) rfl ?_
    refine g_i2b X279 hx (hb hby at_208) rfl ?_
    refine g_bastoreN X279 hx hZ e279 Ar279 0 (by decide) (by decide) (by decide) (hb hby at_209) rfl ?_
    intro T280 h280 X280 e280 W280 Ar280
    have N280 := Fr.snoc X280 N278 gn_a279
    have B280_a275 := B279_a275.other W280 ne_a275_a279
    have Zc280 : n0 ≤ h280.size := by rw [W280.size]; exact Zc279
    refine g_dup X280 hx (hb hby at_210) rfl rfl ?_
    refine g_iconst (v := (1 : Int32)) X280 hx (hb hby at_211) (by decide) rfl ?_
    refine g_lload_n (i := 0) X280 hx (hb hby at_212) (by rfl) rfl ?_
    refine g_bipush (v := (8 : Int32)) X280 hx (hb hby at_213) (by decide) rfl ?_
    refine g_lushr X280 hx (hb hby at_215) rfl ?_
    refine g_l2i X280 hx (hb hby at_216) rfl ?_
    refine g_i2b X280 hx (hb hby at_217) rfl ?_
    refine g_bastoreN X280 hx hZ e280 Ar280 1 (by decide) (by decide) (by decide) (hb hby at_218) rfl ?_
    intro T281 h281 X281 e281 W281 Ar281
    have N281 := Fr.snoc X281 N280 gn_a279
    have B281_a275 := B280_a275.other W281 ne_a275_a279
    have Zc281 : n0 ≤ h281.size := by rw [W281.size]; exact Zc280
    refine g_dup X281 hx (hb hby at_219) rfl rfl ?_
    refine g_iconst (v := (2 : Int32)) X281 hx (hb hby at_220) (by decide) rfl ?_
    refine g_lload_n (i := 0) X281 hx (hb hby at_221) (by rfl) rfl ?_
    refine g_bipush (v := (16 : Int32)) X281 hx (hb hby at_222) (by decide) rfl ?_
    refine g_lushr X281 hx (hb hby at_224) rfl ?_
    refine g_l2i X281 hx (hb hby at_225) rfl ?_
    refine g_i2b X281 hx (hb hby at_226) rfl ?_
    refine g_bastoreN X281 hx hZ e281 Ar281 2 (by decide) (by decide) (by decide) (hb hby at_227) rfl ?_
    intro T282 h282 X282 e282 W282 Ar282
    have N282 := Fr.snoc X282 N281 gn_a279
    have B282_a275 := B281_a275.other W282 ne_a275_a279
    have Zc282 : n0 ≤ h282.size := by rw [W282.size]; exact Zc281
    refine g_dup X282 hx (hb hby at_228) rfl rfl ?_
    refine g_iconst (v := (3 : Int32)) X282 hx (hb hby at_229) (by decide) rfl ?_
    refine g_lload_n (i := 0) X282 hx (hb hby at_230) (by rfl) rfl ?_
    refine g_bipush (v := (24 : Int32)) X282 hx (hb hby at_231) (by decide) rfl ?_
    refine g_lushr X282 hx (hb hby at_233) rfl ?_
    refine g_l2i X282 hx (hb hby at_234) rfl ?_
    refine g_i2b X282 hx (hb hby at_235) rfl ?_
    refine g_bastoreN X282 hx hZ e282 Ar282 3 (by decide) (by decide) (by decide) (hb hby at_236) rfl ?_
    intro T283 h283 X283 e283 W283 Ar283
    have N283 := Fr.snoc X283 N282 gn_a279
    have B283_a275 := B282_a275.other W283 ne_a275_a279
    have Zc283 : n0 ≤ h283.size := by rw [W283.size]; exact Zc282
    refine g_dup X283 hx (hb hby at_237) rfl rfl ?_
    refine g_iconst (v := (4 : Int32)) X283 hx (hb hby at_238) (by decide) rfl ?_
    refine g_lload_n (i := 0) X283 hx (hb hby at_239) (by rfl) rfl ?_
    refine g_bipush (v := (32 : Int32)) X283 hx (hb hby at_240) (by decide) rfl ?_
    refine g_lushr X283 hx (hb hby at_242) rfl ?_
    refine g_l2i X283 hx (hb hby at_243) rfl ?_
    refine g_i2b X283 hx (hb hby at_244) rfl ?_
    refine g_bastoreN X283 hx hZ e283 Ar283 4 (by decide) (by decide) (by decide) (hb hby at_245) rfl ?_
    intro T284 h284 X284 e284 W284 Ar284
    have N284 := Fr.snoc X284 N283 gn_a279
    have B284_a275 := B283_a275.other W284 ne_a275_a279
    have Zc284 : n0 ≤ h284.size := by rw [W284.size]; exact Zc283
    refine g_dup X284 hx (hb hby at_246) rfl rfl ?_
    refine g_iconst (v := (5 : Int32)) X284 hx (hb hby at_247) (by decide) rfl ?_
    refine g_lload_n (i := 0) X284 hx (hb hby at_248) (by rfl) rfl ?_
    refine g_bipush (v := (40 : Int32)) X284 hx (hb hby at_249) (by decide) rfl ?_
    refine g_lushr X284 hx (hb hby at_251) rfl ?_
    refine g_l2i X284 hx (hb hby at_252) rfl ?_
    refine g_i2b X284 hx (hb hby at_253) rfl ?_
    refine g_bastoreN X284 hx hZ e284 Ar284 5 (by decide) (by decide) (by decide) (hb hby at_254) rfl ?_
    intro T285 h285 X285 e285 W285 Ar285
    have N285 := Fr.snoc X285 N284 gn_a279
    have B285_a275 := B284_a275.other W285 ne_a275_a279
    have Zc285 : n0 ≤ h285.size := by rw [W285.size]; exact Zc284
    refine g_dup X285 hx (hb hby at_255) rfl rfl ?_
    refine g_bipush (v := (6 : Int32)) X285 hx (hb hby at_256) (by decide) rfl ?_
    refine g_lload_n (i := 0) X285 hx (hb hby at_258) (by rfl) rfl ?_
    refine g_bipush (v := (48 : Int32)) X285 hx (hb hby at_259) (by decide) rfl ?_
    refine g_lushr X285 hx (hb hby at_261) rfl ?_
    refine g_l2i X285 hx (hb hby at_262) rfl ?_
    refine g_i2b X285 hx (hb hby at_263) rfl ?_
    refine g_bastoreN X285 hx hZ e285 Ar285 6 (by decide) (by decide) (by decide) (hb hby at_264) rfl ?_
    intro T286 h286 X286 e286 W286 Ar286
    have N286 := Fr.snoc X286 N285 gn_a279
    have B286_a275 := B285_a275.other W286 ne_a275_a279
    have Zc286 : n0 ≤ h286.size := by rw [W286.size]; exact Zc285
    refine g_dup X286 hx (hb hby at_265) rfl rfl ?_
    refine g_bipush (v := (7 : Int32)) X286 hx (hb hby at_266) (by decide) rfl ?_
    refine g_lload_n (i := 0) X286 hx (hb hby at_268) (by rfl) rfl ?_
    refine g_bipush (v := (56 : Int32)) X286 hx (hb hby at_269) (by decide) rfl ?_
    refine g_lushr X286 hx (hb hby at_271) rfl ?_
    refine g_l2i X286 hx (hb hby at_272) rfl ?_
    refine g_i2b X286 hx (hb hby at_273) rfl ?_
    refine g_bastoreN X286 hx hZ e286 Ar286 7 (by decide) (by decide) (by decide) (hb hby at_274) rfl ?_
    intro T287 h287 X287 e287 W287 Ar287
    have N287 := Fr.snoc X287 N286 gn_a279
    have B287_a275 := B286_a275.other W287 ne_a275_a279
    have Zc287 : n0 ≤ h287.size := by rw [W287.size]; exact Zc286
    refine g_dup X287 hx (hb hby at_275) rfl rfl ?_
    refine g_bipush (v := (8 : Int32)) X287 hx (hb hby at_276) (by decide) rfl ?_
    refine g_iload_n (i := 2) X287 hx (hb hby at_278) (by rfl) rfl ?_
    refine g_i2b X287 hx (hb hby at_279) rfl ?_
    refine g_bastoreN X287 hx hZ e287 Ar287 8 (by decide) (by decide) (by decide) (hb hby at_280) rfl ?_
    intro T288 h288 X288 e288 W288 Ar288
    have N288 := Fr.snoc X288 N287 gn_a279
    have B288_a275 := B287_a275.other W288 ne_a275_a279
    have Zc288 : n0 ≤ h288.size := by rw [W288.size]; exact Zc287
    refine g_dup X288 hx (hb hby at_281) rfl rfl ?_
    refine g_bipush (v := (9 : Int32)) X288 hx (hb hby at_282) (by decide) rfl ?_
    refine g_iload_n (i := 2) X288 hx (hb hby at_284) (by rfl) rfl ?_
    refine g_bipush (v := (8 : Int32)) X288 hx (hb hby at_285) (by decide) rfl ?_
    refine g_iushr X288 hx (hb hby at_287) rfl ?_
    refine g_i2b X288 hx (hb hby at_288) rfl ?_
    refine g_bastoreN X288 hx hZ e288 Ar288 9 (by decide) (by decide) (by decide) (hb hby at_289) rfl ?_
    intro T289 h289 X289 e289 W289 Ar289
    have N289 := Fr.snoc X289 N288 gn_a279
    have B289_a275 := B288_a275.other W289 ne_a275_a279
    have Zc289 : n0 ≤ h289.size := by rw [W289.size]; exact Zc288
    refine g_dup X289 hx (hb hby at_290) rfl rfl ?_
    refine g_bipush (v := (10 : Int32)) X289 hx (hb hby at_291) (by decide) rfl ?_
    refine g_iload_n (i := 2) X289 hx (hb hby at_293) (by rfl) rfl ?_
    refine g_bipush (v := (16 : Int32)) X289 hx (hb hby at_294) (by decide) rfl ?_
    refine g_iushr X289 hx (hb hby at_296) rfl ?_
    refine g_i2b X289 hx (hb hby at_297) rfl ?_
    refine g_bastoreN X289 hx hZ e289 Ar289 10 (by decide) (by decide) (by decide) (hb hby at_298) rfl ?_
    intro T290 h290 X290 e290 W290 Ar290
    have N290 := Fr.snoc X290 N289 gn_a279
    have B290_a275 := B289_a275.other W290 ne_a275_a279
    have Zc290 : n0 ≤ h290.size := by rw [W290.size]; exact Zc289
    refine g_dup X290 hx (hb hby at_299) rfl rfl ?_
    refine g_bipush (v := (11 : Int32)) X290 hx (hb hby at_300) (by decide) rfl ?_
    refine g_iload_n (i := 2) X290 hx (hb hby at_302) (by rfl) rfl ?_
    refine g_bipush (v := (24 : Int32)) X290 hx (hb hby at_303) (by decide) rfl ?_
    refine g_iushr X290 hx (hb hby at_305) rfl ?_
    refine g_i2b X290 hx (hb hby at_306) rfl ?_
    refine g_bastoreN X290 hx hZ e290 Ar290 11 (by decide) (by decide) (by decide) (hb hby at_307) rfl ?_
    intro T291 h291 X291 e291 W291 Ar291
    have N291 := Fr.snoc X291 N290 gn_a279
    have B291_a275 := B290_a275.other W291 ne_a275_a279
    have Zc291 : n0 ≤ h291.size := by rw [W291.size]; exact Zc290
    refine g_astore (i := 14) X291 hx #[.val (.long p0), .second, .val (.int p1), .val (.long p2), .second, .val (.int p3), .val (.int p4), .val (.int (6 : Int32)), .val (.int nrow), .val (.int pad), .val (.int ofs), .val (.int (3 : Int32)), .val (.ref a275), .val (.int strd), .val (.ref a279), .unset, .unset, .unset, .unset, .unset, .unset, .unset] (hb hby at_308) rfl rfl rfl ?_
    refine g_bipush (v := (12 : Int32)) X291 hx (hb hby at_310) (by decide) rfl ?_
    refine g_newarr X291 hx hZ (ty := .long) rfl (wd hw 3 rfl) e291 (hb hby at_312) rfl (by decide) 12 (by decide) (by decide) (by decide) (by decide) ?_
    intro T292 h292 cA292 a292 X292 e292 g292 Ex292 A292
    have ne_a275_a292 : a275 ≠ a292 := fun q => absurd B291_a275.lt (by rw [q, g292]; exact Nat.lt_irrefl _)
    have B292_a275 := B291_a275.ext Ex292
    have ne_a279_a292 : a279 ≠ a292 := fun q => absurd Ar291.lt (by rw [q, g292]; exact Nat.lt_irrefl _)
    have B292_a279 := Ar291.ext Ex292
    have gn_a292 : n0 ≤ a292 := by rw [g292]; exact Zc291
    have Zc292 : n0 ≤ h292.size := Nat.le_trans Zc291 Ex292.1
    have Ar292 : ArJ Z h292 a292 .long 12 (fun _ => 0) := ArJ.new A292 0 rfl
    refine g_dup X292 hx (hb hby at_314) rfl rfl ?_
    refine g_iconst (v := (0 : Int32)) X292 hx (hb hby at_315) (by decide) rfl ?_
    refine g_lload_n (i := 3) X292 hx (hb hby at_316) (by rfl) rfl ?_
    refine g_lastoreN X292 hx hZ e292 Ar292 0 (by decide) (by decide) (by decide) (hb hby at_317) rfl ?_
    intro T293 h293 X293 e293 W293 Ar293
    have N293 := Fr.snoc X293 N291 gn_a292
    have B293_a275 := B292_a275.other W293 ne_a275_a292
    have B293_a279 := B292_a279.other W293 ne_a279_a292
    have Zc293 : n0 ≤ h293.size := by rw [W293.size]; exact Zc292
    refine g_dup X293 hx (hb hby at_318) rfl rfl ?_
    refine g_iconst (v := (1 : Int32)) X293 hx (hb hby at_319) (by decide) rfl ?_
    refine g_lload_n (i := 3) X293 hx (hb hby at_320) (by rfl) rfl ?_
    refine g_lastoreN X293 hx hZ e293 Ar293 1 (by decide) (by decide) (by decide) (hb hby at_321) rfl ?_
    intro T294 h294 X294 e294 W294 Ar294
    have N294 := Fr.snoc X294 N293 gn_a292
    have B294_a275 := B293_a275.other W294 ne_a275_a292
    have B294_a279 := B293_a279.other W294 ne_a279_a292
    have Zc294 : n0 ≤ h294.size := by rw [W294.size]; exact Zc293
    refine g_dup X294 hx (hb hby at_322) rfl rfl ?_
    refine g_iconst (v := (2 : Int32)) X294 hx (hb hby at_323) (by decide) rfl ?_
    refine g_lload_n (i := 3) X294 hx (hb hby at_324) (by rfl) rfl ?_
    refine g_lastoreN X294 hx hZ e294 Ar294 2 (by decide) (by decide) (by decide) (hb hby at_325) rfl ?_
    intro T295 h295 X295 e295 W295 Ar295
    have N295 := Fr.snoc X295 N294 gn_a292
    have B295_a275 := B294_a275.other W295 ne_a275_a292
    have B295_a279 := B294_a279.other W295 ne_a279_a292
    have Zc295 : n0 ≤ h295.size := by rw [W295.size]; exact Zc294
    refine g_dup X295 hx (hb hby at_326) rfl rfl ?_
    refine g_iconst (v := (3 : Int32)) X295 hx (hb hby at_327) (by decide) rfl ?_
    refine g_lload_n (i := 3) X295 hx (hb hby at_328) (by rfl) rfl ?_
    refine g_lastoreN X295 hx hZ e295 Ar295 3 (by decide) (by decide) (by decide) (hb hby at_329) rfl ?_
    intro T296 h296 X296 e296 W296 Ar296
    have N296 := Fr.snoc X296 N295 gn_a292
    have B296_a275 := B295_a275.other W296 ne_a275_a292
    have B296_a279 := B295_a279.other W296 ne_a279_a292
    have Zc296 : n0 ≤ h296.size := by rw [W296.size]; exact Zc295
    refine g_dup X296 hx (hb hby at_330) rfl rfl ?_
    refine g_iconst (v := (4 : Int32)) X296 hx (hb hby at_331) (by decide) rfl ?_
    refine g_lload_n (i := 3) X296 hx (hb hby at_332) (by rfl) rfl ?_
    refine g_lastoreN X296 hx hZ e296 Ar296 4 (by decide) (by decide) (by decide) (hb hby at_333) rfl ?_
    intro T297 h297 X297 e297 W297 Ar297
    have N297 := Fr.snoc X297 N296 gn_a292
    have B297_a275 := B296_a275.other W297 ne_a275_a292
    have B297_a279 := B296_a279.other W297 ne_a279_a292
    have Zc297 : n0 ≤ h297.size := by rw [W297.size]; exact Zc296
    refine g_dup X297 hx (hb hby at_334) rfl rfl ?_
    refine g_iconst (v := (5 : Int32)) X297 hx (hb hby at_335) (by decide) rfl ?_
    refine g_lload_n (i := 3) X297 hx (hb hby at_336) (by rfl) rfl ?_
    refine g_lastoreN X297 hx hZ e297 Ar297 5 (by decide) (by decide) (by decide) (hb hby at_337) rfl ?_
    intro T298 h298 X298 e298 W298 Ar298
    have N298 := Fr.snoc X298 N297 gn_a292
    have B298_a275 := B297_a275.other W298 ne_a275_a292
    have B298_a279 := B297_a279.other W298 ne_a279_a292
    have Zc298 : n0 ≤ h298.size := by rw [W298.size]; exact Zc297
    refine g_dup X298 hx (hb hby at_338) rfl rfl ?_
    refine g_bipush (v := (6 : Int32)) X298 hx (hb hby at_339) (by decide) rfl ?_
    refine g_lload_n (i := 3) X298 hx (hb hby at_341) (by rfl) rfl ?_
    refine g_lastoreN X298 hx hZ e298 Ar298 6 (by decide) (by decide) (by decide) (hb hby at_342) rfl ?_
    intro T299 h299 X299 e299 W299 Ar299
    have N299 := Fr.snoc X299 N298 gn_a292
    have B299_a275 := B298_a275.other W299 ne_a275_a292
    have B299_a279 := B298_a279.other W299 ne_a279_a292
    have Zc299 : n0 ≤ h299.size := by rw [W299.size]; exact Zc298
    refine g_dup X299 hx (hb hby at_343) rfl rfl ?_
    refine g_bipush (v := (7 : Int32)) X299 hx (hb hby at_344) (by decide) rfl ?_
    refine g_lload_n (i := 3) X299 hx (hb hby at_346) (by rfl) rfl ?_
    refine g_lastoreN X299 hx hZ e299 Ar299 7 (by decide) (by decide) (by decide) (hb hby at_347) rfl ?_
    intro T300 h300 X300 e300 W300 Ar300
    have N300 := Fr.snoc X300 N299 gn_a292
    have B300_a275 := B299_a275.other W300 ne_a275_a292
    have B300_a279 := B299_a279.other W300 ne_a279_a292
    have Zc300 : n0 ≤ h300.size := by rw [W300.size]; exact Zc299
    refine g_dup X300 hx (hb hby at_348) rfl rfl ?_
    refine g_bipush (v := (8 : Int32)) X300 hx (hb hby at_349) (by decide) rfl ?_
    refine g_lload_n (i := 3) X300 hx (hb hby at_351) (by rfl) rfl ?_
    refine g_lastoreN X300 hx hZ e300 Ar300 8 (by decide) (by decide) (by decide) (hb hby at_352) rfl ?_
    intro T301 h301 X301 e301 W301 Ar301
    have N301 := Fr.snoc X301 N300 gn_a292
    have B301_a275 := B300_a275.other W301 ne_a275_a292
    have B301_a279 := B300_a279.other W301 ne_a279_a292
    have Zc301 : n0 ≤ h301.size := by rw [W301.size]; exact Zc300
    refine g_dup X301 hx (hb hby at_353) rfl rfl ?_
    refine g_bipush (v := (9 : Int32)) X301 hx (hb hby at_354) (by decide) rfl ?_
    refine g_lload_n (i := 3) X301 hx (hb hby at_356) (by rfl) rfl ?_
    refine g_lastoreN X301 hx hZ e301 Ar301 9 (by decide) (by decide) (by decide) (hb hby at_357) rfl ?_
    intro T302 h302 X302 e302 W302 Ar302
    have N302 := Fr.snoc X302 N301 gn_a292
    have B302_a275 := B301_a275.other W302 ne_a275_a292
    have B302_a279 := B301_a279.other W302 ne_a279_a292
    have Zc302 : n0 ≤ h302.size := by rw [W302.size]; exact Zc301
    refine g_dup X302 hx (hb hby at_358) rfl rfl ?_
    refine g_bipush (v := (10 : Int32)) X302 hx (hb hby at_359) (by decide) rfl ?_
    refine g_lload_n (i := 3) X302 hx (hb hby at_361) (by rfl) rfl ?_
    refine g_lastoreN X302 hx hZ e302 Ar302 10 (by decide) (by decide) (by decide) (hb hby at_362) rfl ?_
    intro T303 h303 X303 e303 W303 Ar303
    have N303 := Fr.snoc X303 N302 gn_a292
    have B303_a275 := B302_a275.other W303 ne_a275_a292
    have B303_a279 := B302_a279.other W303 ne_a279_a292
    have Zc303 : n0 ≤ h303.size := by rw [W303.size]; exact Zc302
    refine g_dup X303 hx (hb hby at_363) rfl rfl ?_
    refine g_bipush (v := (11 : Int32)) X303 hx (hb hby at_364) (by decide) rfl ?_
    refine g_lload_n (i := 3) X303 hx (hb hby at_366) (by rfl) rfl ?_
    refine g_lastoreN X303 hx hZ e303 Ar303 11 (by decide) (by decide) (by decide) (hb hby at_367) rfl ?_
    intro T304 h304 X304 e304 W304 Ar304
    have N304 := Fr.snoc X304 N303 gn_a292
    have B304_a275 := B303_a275.other W304 ne_a275_a292
    have B304_a279 := B303_a279.other W304 ne_a279_a292
    have Zc304 : n0 ≤ h304.size := by rw [W304.size]; exact Zc303
    refine g_astore (i := 15) X304 hx #[.val (.long p0), .second, .val (.int p1), .val (.long p2), .second, .val (.int p3), .val (.int p4), .val (.int (6 : Int32)), .val (.int nrow), .val (.int pad), .val (.int ofs), .val (.int (3 : Int32)), .val (.ref a275), .val (.int strd), .val (.ref a279), .val (.ref a292), .unset, .unset, .unset, .unset, .unset, .unset] (hb hby at_368) rfl rfl rfl ?_
    refine g_aload (i := 12) X304 hx (hb hby at_370) (by rfl) rfl rfl ?_
    refine g_arraylengthI X304 hx hZ e304 B304_a275 (z := (3 : Int32)) (by decide) (hb hby at_372) rfl ?_
    refine g_istore (i := 16) X304 hx #[.val (.long p0), .second, .val (.int p1), .val (.long p2), .second, .val (.int p3), .val (.int p4), .val (.int (6 : Int32)), .val (.int nrow), .val (.int pad), .val (.int ofs), .val (.int (3 : Int32)), .val (.ref a275), .val (.int strd), .val (.ref a279), .val (.ref a292), .val (.int (3 : Int32)), .unset, .unset, .unset, .unset, .unset] (hb hby at_373) rfl rfl ?_
    refine g_aload (i := 12) X304 hx (hb hby at_375) (by rfl) rfl rfl ?_
    refine g_iconst (v := (0 : Int32)) X304 hx (hb hby at_377) (by decide) rfl ?_
    refine g_iaload' X304 hx hZ e304 B304_a275 (by decide) (by decide) (x := (1 : Int32)) rfl (hb hby at_378) rfl ?_
    refine g_istore (i := 17) X304 hx #[.val (.long p0), .second, .val (.int p1), .val (.long p2), .second, .val (.int p3), .val (.int p4), .val (.int (6 : Int32)), .val (.int nrow), .val (.int pad), .val (.int ofs), .val (.int (3 : Int32)), .val (.ref a275), .val (.int strd), .val (.ref a279), .val (.ref a292), .val (.int (3 : Int32)), .val (.int (1 : Int32)), .unset, .unset, .unset, .unset] (hb hby at_379) rfl rfl ?_
    refine g_iload (i := 16) X304 hx (hb hby at_381) (by rfl) rfl ?_
    refine g_iconst (v := (1 : Int32)) X304 hx (hb hby at_383) (by decide) rfl ?_
    refine g_icmp_le X304 hx (hb hby at_384) (by decide) (pt := 394) (by decide) rfl (fun q_ => absurd (by decide) q_) (fun _ => ?_)
    refine g_aload (i := 12) X304 hx (hb hby at_387) (by rfl) rfl rfl ?_
    refine g_iconst (v := (1 : Int32)) X304 hx (hb hby at_389) (by decide) rfl ?_
    refine g_iaload' X304 hx hZ e304 B304_a275 (by decide) (by decide) (x := (2 : Int32)) rfl (hb hby at_390) rfl ?_
    refine g_goto X304 hx (hb hby at_391) (by decide) (by decide) (pc' := 396) ?_
    refine g_istore (i := 18) X304 hx #[.val (.long p0), .second, .val (.int p1), .val (.long p2), .second, .val (.int p3), .val (.int p4), .val (.int (6 : Int32)), .val (.int nrow), .val (.int pad), .val (.int ofs), .val (.int (3 : Int32)), .val (.ref a275), .val (.int strd), .val (.ref a279), .val (.ref a292), .val (.int (3 : Int32)), .val (.int (1 : Int32)), .val (.int (2 : Int32)), .unset, .unset, .unset] (hb hby at_396) rfl rfl ?_
    refine g_iload (i := 16) X304 hx (hb hby at_398) (by rfl) rfl ?_
    refine g_iconst (v := (2 : Int32)) X304 hx (hb hby at_400) (by decide) rfl ?_
    refine g_icmp_le X304 hx (hb hby at_401) (by decide) (pt := 411) (by decide) rfl (fun q_ => absurd (by decide) q_) (fun _ => ?_)
    refine g_aload (i := 12) X304 hx (hb hby at_404) (by rfl) rfl rfl ?_
    refine g_iconst (v := (2 : Int32)) X304 hx (hb hby at_406) (by decide) rfl ?_
    refine g_iaload' X304 hx hZ e304 B304_a275 (by decide) (by decide) (x := (3 : Int32)) rfl (hb hby at_407) rfl ?_
    refine g_goto X304 hx (hb hby at_408) (by decide) (by decide) (pc' := 413) ?_
    refine g_istore (i := 19) X304 hx #[.val (.long p0), .second, .val (.int p1), .val (.long p2), .second, .val (.int p3), .val (.int p4), .val (.int (6 : Int32)), .val (.int nrow), .val (.int pad), .val (.int ofs), .val (.int (3 : Int32)), .val (.ref a275), .val (.int strd), .val (.ref a279), .val (.ref a292), .val (.int (3 : Int32)), .val (.int (1 : Int32)), .val (.int (2 : Int32)), .val (.int (3 : Int32)), .unset, .unset] (hb hby at_413) rfl rfl ?_
    obtain ⟨S, hS⟩ : ∃ S : Nat, strd.toInt = (S : Int) := ⟨strd.toInt.toNat, by omega⟩
    obtain ⟨f, As, hf⟩ : ∃ f, ArI Z h304 a279 .byte 12 f ∧ ∀ i, i < 12 → f i &&& 255 = own_smp p0 p1 (Int32.ofNat i) := by
      refine ⟨_, B304_a279, fun i hi => ?_⟩
      rcases own_twelve i hi with rfl | rfl | rfl | rfl | rfl | rfl | rfl | rfl | rfl | rfl | rfl | rfl
      · exact (by show _ = own_smp p0 p1 (Int32.ofNat 0); rw [show own_smp p0 p1 (Int32.ofNat 0) = (XT.ushrL p0 (0 : Int32)).toInt32 &&& 255 from if_pos (by decide), own_u0L]; exact own_nb255 _)
      · exact (by show _ = own_smp p0 p1 (Int32.ofNat 1); rw [show own_smp p0 p1 (Int32.ofNat 1) = (XT.ushrL p0 (8 : Int32)).toInt32 &&& 255 from if_pos (by decide)]; exact own_nb255 _)
      · exact (by show _ = own_smp p0 p1 (Int32.ofNat 2); rw [show own_smp p0 p1 (Int32.ofNat 2) = (XT.ushrL p0 (16 : Int32)).toInt32 &&& 255 from if_pos (by decide)]; exact own_nb255 _)
      · exact (by show _ = own_smp p0 p1 (Int32.ofNat 3); rw [show own_smp p0 p1 (Int32.ofNat 3) = (XT.ushrL p0 (24 : Int32)).toInt32 &&& 255 from if_pos (by decide)]; exact own_nb255 _)
      · exact (by show _ = own_smp p0 p1 (Int32.ofNat 4); rw [show own_smp p0 p1 (Int32.ofNat 4) = (XT.ushrL p0 (32 : Int32)).toInt32 &&& 255 from if_pos (by decide)]; exact own_nb255 _)
      · exact (by show _ = own_smp p0 p1 (Int32.ofNat 5); rw [show own_smp p0 p1 (Int32.ofNat 5) = (XT.ushrL p0 (40 : Int32)).toInt32 &&& 255 from if_pos (by decide)]; exact own_nb255 _)
      · exact (by show _ = own_smp p0 p1 (Int32.ofNat 6); rw [show own_smp p0 p1 (Int32.ofNat 6) = (XT.ushrL p0 (48 : Int32)).toInt32 &&& 255 from if_pos (by decide)]; exact own_nb255 _)
      · exact (by show _ = own_smp p0 p1 (Int32.ofNat 7); rw [show own_smp p0 p1 (Int32.ofNat 7) = (XT.ushrL p0 (56 : Int32)).toInt32 &&& 255 from if_pos (by decide)]; exact own_nb255 _)
      · exact (by show _ = own_smp p0 p1 (Int32.ofNat 8); rw [show own_smp p0 p1 (Int32.ofNat 8) = XT.ushr p1 (0 : Int32) &&& 255 from if_neg (by decide), own_u0]; exact own_nb255 _)
      · exact (by show _ = own_smp p0 p1 (Int32.ofNat 9); rw [show own_smp p0 p1 (Int32.ofNat 9) = XT.ushr p1 (8 : Int32) &&& 255 from if_neg (by decide)]; exact own_nb255 _)
      · exact (by show _ = own_smp p0 p1 (Int32.ofNat 10); rw [show own_smp p0 p1 (Int32.ofNat 10) = XT.ushr p1 (16 : Int32) &&& 255 from if_neg (by decide)]; exact own_nb255 _)
      · exact (by show _ = own_smp p0 p1 (Int32.ofNat 11); rw [show own_smp p0 p1 (Int32.ofNat 11) = XT.ushr p1 (24 : Int32) &&& 255 from if_neg (by decide)]; exact own_nb255 _)
    refine g_new X304 hx hZ hown (wd hw 4 rfl) (wd hw 5 rfl) (wd hw 6 rfl) e304 (hb hby at_415) rfl (by decide) (by decide) ?_
    intro T305 h305 a305 X305 e305 g305 Ex305 E305 D305
    have C_a275 := B304_a275.ext Ex305
    have C_a292 := Ar304.ext Ex305
    have As2 := As.ext Ex305
    refine g_dup X305 hx (hb hby at_418) rfl rfl ?_
    refine g_callI X305 hx hZ rfl hown (wd hw 7 rfl) (wd hw 8 rfl) (wd hw 6 rfl) (wd hw 9 rfl) (by decide) e305 (rm_init l Z a0 hw a305 h305) (by rw [hml]; rfl) a305 [] [(.ref a305)] rfl (lenOf pd_79 rfl) rfl (by show 1 + (1 + 11) + 12 ≤ _; decide) (by decide) (by decide) (by decide) (hb hby at_419) rfl ?_
    intro T306 v306 L306 X306 hQ306
    obtain ⟨rfl, rfl, e306⟩ := hQ306
    have N306 := Fr.app N304 (Fr.nil n0)
    show Goes p e below _ T306 (mkF m 422 #[.val (.long p0), .second, .val (.int p1), .val (.long p2), .second, .val (.int p3), .val (.int p4), .val (.int (6 : Int32)), .val (.int nrow), .val (.int pad), .val (.int ofs), .val (.int (3 : Int32)), .val (.ref a275), .val (.int strd), .val (.ref a279), .val (.ref a292), .val (.int (3 : Int32)), .val (.int (1 : Int32)), .val (.int (2 : Int32)), .val (.int (3 : Int32)), .unset, .unset] [(.ref a305)])
    refine g_aload (i := 14) X306 hx (hb hby at_422) (by rfl) rfl rfl ?_
    refine g_iload (i := 10) X306 hx (hb hby at_424) (by rfl) rfl ?_
    refine g_iload (i := 13) X306 hx (hb hby at_426) (by rfl) rfl ?_
    refine g_iload (i := 8) X306 hx (hb hby at_428) (by rfl) rfl ?_
    refine g_aload (i := 12) X306 hx (hb hby at_430) (by rfl) rfl rfl ?_
    refine g_aload (i := 15) X306 hx (hb hby at_432) (by rfl) rfl rfl ?_
    refine g_callV X306 hx hZ hown (wd hw 13 rfl) (wd hw 14 rfl) (wd hw 16 rfl) (wd hw 15 rfl) (wd hw 6 rfl) (wd hw 17 rfl) (by decide) e306 a305 E305 (rm_sum3 l Z a0 hw a305 a279 a275 a292 ofs strd nrow (1 : Int32) (2 : Int32) (3 : Int32) 3 S R f _ _ h305 n0 As2 C_a275 C_a292 ne_a275_a292 ne_a279_a292 gn_a292 hg_ofs.1 hg_ofs.2 hS (by omega) (by omega) (by omega) hR hR3 rfl (by decide) rfl (by decide) rfl (by decide) (by decide)) (by rw [hml]; rfl) [(.ref a279), (.int ofs), (.int strd), (.int nrow), (.ref a275), (.ref a292)] [] rfl (lenOf pd_80 rfl) rfl (by show 0 + (13 + 11) + 0 ≤ _; decide) (by decide) (by decide) (by decide) (hb hby at_434) rfl ?_
    intro T307 v307 L307 X307 hQ307
    obtain ⟨g', rfl, N307, Ag', ⟨w0_0, w0_1, w0_2, w0_3⟩, ⟨w1_0, w1_1, w1_2, w1_3⟩, ⟨w2_0, w2_1, w2_2, w2_3⟩⟩ := hQ307
    have N307 := Fr.app N306 N307
    show Goes p e below _ T307 (mkF m 437 #[.val (.long p0), .second, .val (.int p1), .val (.long p2), .second, .val (.int p3), .val (.int p4), .val (.int (6 : Int32)), .val (.int nrow), .val (.int pad), .val (.int ofs), .val (.int (3 : Int32)), .val (.ref a275), .val (.int strd), .val (.ref a279), .val (.ref a292), .val (.int (3 : Int32)), .val (.int (1 : Int32)), .val (.int (2 : Int32)), .val (.int (3 : Int32)), .unset, .unset] [(.int (1 : Int32))])
    refine g_istore (i := 20) X307 hx #[.val (.long p0), .second, .val (.int p1), .val (.long p2), .second, .val (.int p3), .val (.int p4), .val (.int (6 : Int32)), .val (.int nrow), .val (.int pad), .val (.int ofs), .val (.int (3 : Int32)), .val (.ref a275), .val (.int strd), .val (.ref a279), .val (.ref a292), .val (.int (3 : Int32)), .val (.int (1 : Int32)), .val (.int (2 : Int32)), .val (.int (3 : Int32)), .val (.int (1 : Int32)), .unset] (hb hby at_437) rfl rfl ?_
    refine g_iload (i := 20) X307 hx (hb hby at_439) (by rfl) rfl ?_
    refine g_istore (i := 21) X307 hx #[.val (.long p0), .second, .val (.int p1), .val (.long p2), .second, .val (.int p3), .val (.int p4), .val (.int (6 : Int32)), .val (.int nrow), .val (.int pad), .val (.int ofs), .val (.int (3 : Int32)), .val (.ref a275), .val (.int strd), .val (.ref a279), .val (.ref a292), .val (.int (3 : Int32)), .val (.int (1 : Int32)), .val (.int (2 : Int32)), .val (.int (3 : Int32)), .val (.int (1 : Int32)), .val (.int (1 : Int32))] (hb hby at_441) rfl rfl ?_
    refine g_iload (i := 21) X307 hx (hb hby at_443) (by rfl) rfl ?_
    refine g_if_eq X307 hx (hb hby at_445) (by decide) (pt := 482) (by decide) rfl (fun q_ => absurd q_ (by decide)) (fun _ => ?_)
    refine g_aload (i := 15) X307 hx (hb hby at_448) (by rfl) rfl rfl ?_
    refine g_iconst (v := (0 : Int32)) X307 hx (hb hby at_450) (by decide) rfl ?_
    refine g_lload_n (i := 3) X307 hx (hb hby at_451) (by rfl) rfl ?_
    refine g_iconst (v := (1 : Int32)) X307 hx (hb hby at_452) (by decide) rfl ?_
    refine g_iload (i := 8) X307 hx (hb hby at_453) (by rfl) rfl ?_
    refine g_iconst (v := (0 : Int32)) X307 hx (hb hby at_455) (by decide) rfl ?_
    refine g_iload (i := 17) X307 hx (hb hby at_456) (by rfl) rfl ?_
    refine g_lload_n (i := 0) X307 hx (hb hby at_458) (by rfl) rfl ?_
    refine g_iload_n (i := 2) X307 hx (hb hby at_459) (by rfl) rfl ?_
    refine g_iload (i := 10) X307 hx (hb hby at_460) (by rfl) rfl ?_
    refine g_iload (i := 13) X307 hx (hb hby at_462) (by rfl) rfl ?_
    refine g_iload (i := 8) X307 hx (hb hby at_464) (by rfl) rfl ?_
    refine g_iconst (v := (0 : Int32)) X307 hx (hb hby at_466) (by decide) rfl ?_
    refine g_iload (i := 17) X307 hx (hb hby at_467) (by rfl) rfl ?_
    refine g_callS X307 hx hZ hown (wd hw 19 rfl) (wd hw 20 rfl) (wd hw 21 rfl) (wd hw 22 rfl) (by decide) rfl (rm_lvl l Z a0 hw p0 p1 ofs strd nrow (0 : Int32) (1 : Int32) T307.heap) (by rw [hml]; rfl) [(.long p0), (.int p1), (.int ofs), (.int strd), (.int nrow), (.int (0 : Int32)), (.int (1 : Int32))] [(.int (1 : Int32)), (.int (0 : Int32)), (.int nrow), (.int (1 : Int32)), (.long p2), (.int (0 : Int32)), (.ref a292)] rfl (lenOf pd_81 rfl) rfl (by show 8 + (8 + 11) + 38 ≤ _; decide) (by decide) (by decide) (by decide) (hb hby at_469) rfl ?_
    intro T308 v308 L308 X308 hQ308
    obtain ⟨rfl, rfl, e308⟩ := hQ308
    have N308 := Fr.app N307 (Fr.nil n0)
    show Goes p e below _ T308 (mkF m 472 #[.val (.long p0), .second, .val (.int p1), .val (.long p2), .second, .val (.int p3), .val (.int p4), .val (.int (6 : Int32)), .val (.int nrow), .val (.int pad), .val (.int ofs), .val (.int (3 : Int32)), .val (.ref a275), .val (.int strd), .val (.ref a279), .val (.ref a292), .val (.int (3 : Int32)), .val (.int (1 : Int32)), .val (.int (2 : Int32)), .val (.int (3 : Int32)), .val (.int (1 : Int32)), .val (.int (1 : Int32))] [(.long (own_lvl p0 p1 ofs strd nrow (0 : Int32) (1 : Int32))), (.int (1 : Int32)), (.int (0 : Int32)), (.int nrow), (.int (1 : Int32)), (.long p2), (.int (0 : Int32)), (.ref a292)])
    have hl0 : own_blk f S (((1 : Int32)).toInt - ((0 : Int32)).toInt).toNat (ofs.toInt + ((0 : Int32)).toInt).toNat R 0 = (own_lvl p0 p1 ofs strd nrow (0 : Int32) (1 : Int32)) := by
      rcases hg_nrow with rfl | rfl | rfl
      · obtain rfl : R = 1 := by have := hR; rw [show (1 : Int32).toInt = 1 from rfl] at this; omega
        exact (own_lev_0_1_1 hf hg_ofs.1 hg_ofs.2 hS (by omega)).symm
      · obtain rfl : R = 2 := by have := hR; rw [show (2 : Int32).toInt = 2 from rfl] at this; omega
        exact (own_lev_0_1_2 hf hg_ofs.1 hg_ofs.2 hS (by omega)).symm
      · obtain rfl : R = 3 := by have := hR; rw [show (3 : Int32).toInt = 3 from rfl] at this; omega
        exact (own_lev_0_1_3 hf hg_ofs.1 hg_ofs.2 hS (by omega)).symm
    refine g_callS X308 hx hZ hown (wd hw 29 rfl) (wd hw 30 rfl) (wd hw 21 rfl) (wd hw 31 rfl) (by decide) e308 (rm_run1 l Z a0 hw a292 (0 : Int32) p2 nrow (0 : Int32) (1 : Int32) (own_lvl p0 p1 ofs strd nrow (0 : Int32) (1 : Int32)) g' T307.heap Ag' (by decide) w0_0 (w0_1.trans hl0) (w0_2.trans hl0) (w0_3.trans hl0)) (by rw [hml]; rfl) [(.ref a292), (.int (0 : Int32)), (.long p2), (.int (1 : Int32)), (.int nrow), (.int (0 : Int32)), (.int (1 : Int32)), (.long (own_lvl p0 p1 ofs strd nrow (0 : Int32) (1 : Int32)))] [] rfl (lenOf pd_82 rfl) rfl (by show 0 + (11 + 11) + 0 ≤ _; decide) (by decide) (by decide) (by decide) (hb hby at_472) rfl ?_
    intro T309 v309 L309 X309 hQ309
    obtain ⟨rfl, rfl, e309⟩ := hQ309
    have N309 := Fr.app N308 (Fr.nil n0)
    show Goes p e below _ T309 (mkF m 475 #[.val (.long p0), .second, .val (.int p1), .val (.long p2), .second, .val (.int p3), .val (.int p4), .val (.int (6 : Int32)), .val (.int nrow), .val (.int pad), .val (.int ofs), .val (.int (3 : Int32)), .val (.ref a275), .val (.int strd), .val (.ref a279), .val (.ref a292), .val (.int (3 : Int32)), .val (.int (1 : Int32)), .val (.int (2 : Int32)), .val (.int (3 : Int32)), .val (.int (1 : Int32)), .val (.int (1 : Int32))] [(.int (1 : Int32))])
    refine g_if_eq X309 hx (hb hby at_475) (by decide) (pt := 482) (by decide) rfl (fun q_ => absurd q_ (by decide)) (fun _ => ?_)
    refine g_iconst (v := (1 : Int32)) X309 hx (hb hby at_478) (by decide) rfl ?_
    refine g_goto X309 hx (hb hby at_479) (by decide) (by decide) (pc' := 483) ?_
    refine g_istore (i := 21) X309 hx #[.val (.long p0), .second, .val (.int p1), .val (.long p2), .second, .val (.int p3), .val (.int p4), .val (.int (6 : Int32)), .val (.int nrow), .val (.int pad), .val (.int ofs), .val (.int (3 : Int32)), .val (.ref a275), .val (.int strd), .val (.ref a279), .val (.ref a292), .val (.int (3 : Int32)), .val (.int (1 : Int32)), .val (.int (2 : Int32)), .val (.int (3 : Int32)), .val (.int (1 : Int32)), .val (.int (1 : Int32))] (hb hby at_483) rfl rfl ?_
    refine g_iload (i := 21) X309 hx (hb hby at_485) (by rfl) rfl ?_
    refine g_if_eq X309 hx (hb hby at_487) (by decide) (pt := 536) (by decide) rfl (fun q_ => absurd q_ (by decide)) (fun _ => ?_)
    refine g_aload (i := 15) X309 hx (hb hby at_490) (by rfl) rfl rfl ?_
    refine g_iconst (v := (1 : Int32)) X309 hx (hb hby at_492) (by decide) rfl ?_
    refine g_lload_n (i := 3) X309 hx (hb hby at_493) (by rfl) rfl ?_
    refine g_iload (i := 16) X309 hx (hb hby at_494) (by rfl) rfl ?_
    refine g_iconst (v := (1 : Int32)) X309 hx (hb hby at_496) (by decide) rfl ?_
    refine g_icmp_le X309 hx (hb hby at_497) (by decide) (pt := 504) (by decide) rfl (fun q_ => absurd (by decide) q_) (fun _ => ?_)
    refine g_iconst (v := (1 : Int32)) X309 hx (hb hby at_500) (by decide) rfl ?_
    refine g_goto X309 hx (hb hby at_501) (by decide) (by decide) (pc' := 505) ?_
    refine g_iload (i := 8) X309 hx (hb hby at_505) (by rfl) rfl ?_
    refine g_iload (i := 17) X309 hx (hb hby at_507) (by rfl) rfl ?_
    refine g_iload (i := 18) X309 hx (hb hby at_509) (by rfl) rfl ?_
    refine g_lload_n (i := 0) X309 hx (hb hby at_511) (by rfl) rfl ?_
    refine g_iload_n (i := 2) X309 hx (hb hby at_512) (by rfl) rfl ?_
    refine g_iload (i := 10) X309 hx (hb hby at_513) (by rfl) rfl ?_
    refine g_iload (i := 13) X309 hx (hb hby at_515) (by rfl) rfl ?_
    refine g_iload (i := 8) X309 hx (hb hby at_517) (by rfl) rfl ?_
    refine g_iload (i := 17) X309 hx (hb hby at_519) (by rfl) rfl ?_
    refine g_iload (i := 18) X309 hx (hb hby at_521) (by rfl) rfl ?_
    refine g_callS X309 hx hZ hown (wd hw 19 rfl) (wd hw 20 rfl) (wd hw 21 rfl) (wd hw 22 rfl) (by decide) e309 (rm_lvl l Z a0 hw p0 p1 ofs strd nrow (1 : Int32) (2 : Int32) T307.heap) (by rw [hml]; rfl) [(.long p0), (.int p1), (.int ofs), (.int strd), (.int nrow), (.int (1 : Int32)), (.int (2 : Int32))] [(.int (2 : Int32)), (.int (1 : Int32)), (.int nrow), (.int (1 : Int32)), (.long p2), (.int (1 : Int32)), (.ref a292)] rfl (lenOf pd_81 rfl) rfl (by show 8 + (8 + 11) + 38 ≤ _; decide) (by decide) (by decide) (by decide) (hb hby at_523) rfl ?_
    intro T310 v310 L310 X310 hQ310
    obtain ⟨rfl, rfl, e310⟩ := hQ310
    have N310 := Fr.app N309 (Fr.nil n0)
    show Goes p e below _ T310 (mkF m 526 #[.val (.long p0), .second, .val (.int p1), .val (.long p2), .second, .val (.int p3), .val (.int p4), .val (.int (6 : Int32)), .val (.int nrow), .val (.int pad), .val (.int ofs), .val (.int (3 : Int32)), .val (.ref a275), .val (.int strd), .val (.ref a279), .val (.ref a292), .val (.int (3 : Int32)), .val (.int (1 : Int32)), .val (.int (2 : Int32)), .val (.int (3 : Int32)), .val (.int (1 : Int32)), .val (.int (1 : Int32))] [(.long (own_lvl p0 p1 ofs strd nrow (1 : Int32) (2 : Int32))), (.int (2 : Int32)), (.int (1 : Int32)), (.int nrow), (.int (1 : Int32)), (.long p2), (.int (1 : Int32)), (.ref a292)])
    have hl1 : own_blk f S (((2 : Int32)).toInt - ((1 : Int32)).toInt).toNat (ofs.toInt + ((1 : Int32)).toInt).toNat R 0 = (own_lvl p0 p1 ofs strd nrow (1 : Int32) (2 : Int32)) := by
      rcases hg_nrow with rfl | rfl | rfl
      · obtain rfl : R = 1 := by have := hR; rw [show (1 : Int32).toInt = 1 from rfl] at this; omega
        exact (own_lev_1_2_1 hf hg_ofs.1 hg_ofs.2 hS (by omega)).symm
      · obtain rfl : R = 2 := by have := hR; rw [show (2 : Int32).toInt = 2 from rfl] at this; omega
        exact (own_lev_1_2_2 hf hg_ofs.1 hg_ofs.2 hS (by omega)).symm
      · obtain rfl : R = 3 := by have := hR; rw [show (3 : Int32).toInt = 3 from rfl] at this; omega
        exact (own_lev_1_2_3 hf hg_ofs.1 hg_ofs.2 hS (by omega)).symm
    refine g_callS X310 hx hZ hown (wd hw 29 rfl) (wd hw 30 rfl) (wd hw 21 rfl) (wd hw 31 rfl) (by decide) e310 (rm_run1 l Z a0 hw a292 (1 : Int32) p2 nrow (1 : Int32) (2 : Int32) (own_lvl p0 p1 ofs strd nrow (1 : Int32) (2 : Int32)) g' T307.heap Ag' (by decide) w1_0 (w1_1.trans hl1) (w1_2.trans hl1) (w1_3.trans hl1)) (by rw [hml]; rfl) [(.ref a292), (.int (1 : Int32)), (.long p2), (.int (1 : Int32)), (.int nrow), (.int (1 : Int32)), (.int (2 : Int32)), (.long (own_lvl p0 p1 ofs strd nrow (1 : Int32) (2 : Int32)))] [] rfl (lenOf pd_82 rfl) rfl (by show 0 + (11 + 11) + 0 ≤ _; decide) (by decide) (by decide) (by decide) (hb hby at_526) rfl ?_
    intro T311 v311 L311 X311 hQ311
    obtain ⟨rfl, rfl, e311⟩ := hQ311
    have N311 := Fr.app N310 (Fr.nil n0)
    show Goes p e below _ T311 (mkF m 529 #[.val (.long p0), .second, .val (.int p1), .val (.long p2), .second, .val (.int p3), .val (.int p4), .val (.int (6 : Int32)), .val (.int nrow), .val (.int pad), .val (.int ofs), .val (.int (3 : Int32)), .val (.ref a275), .val (.int strd), .val (.ref a279), .val (.ref a292), .val (.int (3 : Int32)), .val (.int (1 : Int32)), .val (.int (2 : Int32)), .val (.int (3 : Int32)), .val (.int (1 : Int32)), .val (.int (1 : Int32))] [(.int (1 : Int32))])
    refine g_if_eq X311 hx (hb hby at_529) (by decide) (pt := 536) (by decide) rfl (fun q_ => absurd q_ (by decide)) (fun _ => ?_)
    refine g_iconst (v := (1 : Int32)) X311 hx (hb hby at_532) (by decide) rfl ?_
    refine g_goto X311 hx (hb hby at_533) (by decide) (by decide) (pc' := 537) ?_
    refine g_istore (i := 21) X311 hx #[.val (.long p0), .second, .val (.int p1), .val (.long p2), .second, .val (.int p3), .val (.int p4), .val (.int (6 : Int32)), .val (.int nrow), .val (.int pad), .val (.int ofs), .val (.int (3 : Int32)), .val (.ref a275), .val (.int strd), .val (.ref a279), .val (.ref a292), .val (.int (3 : Int32)), .val (.int (1 : Int32)), .val (.int (2 : Int32)), .val (.int (3 : Int32)), .val (.int (1 : Int32)), .val (.int (1 : Int32))] (hb hby at_537) rfl rfl ?_
    refine g_iload (i := 21) X311 hx (hb hby at_539) (by rfl) rfl ?_
    refine g_if_eq X311 hx (hb hby at_541) (by decide) (pt := 590) (by decide) rfl (fun q_ => absurd q_ (by decide)) (fun _ => ?_)
    refine g_aload (i := 15) X311 hx (hb hby at_544) (by rfl) rfl rfl ?_
    refine g_iconst (v := (2 : Int32)) X311 hx (hb hby at_546) (by decide) rfl ?_
    refine g_lload_n (i := 3) X311 hx (hb hby at_547) (by rfl) rfl ?_
    refine g_iload (i := 16) X311 hx (hb hby at_548) (by rfl) rfl ?_
    refine g_iconst (v := (2 : Int32)) X311 hx (hb hby at_550) (by decide) rfl ?_
    refine g_icmp_le X311 hx (hb hby at_551) (by decide) (pt := 558) (by decide) rfl (fun q_ => absurd (by decide) q_) (fun _ => ?_)
    refine g_iconst (v := (1 : Int32)) X311 hx (hb hby at_554) (by decide) rfl ?_
    refine g_goto X311 hx (hb hby at_555) (by decide) (by decide) (pc' := 559) ?_
    refine g_iload (i := 8) X311 hx (hb hby at_559) (by rfl) rfl ?_
    refine g_iload (i := 18) X311 hx (hb hby at_561) (by rfl) rfl ?_
    refine g_iload (i := 19) X311 hx (hb hby at_563) (by rfl) rfl ?_
    refine g_lload_n (i := 0) X311 hx (hb hby at_565) (by rfl) rfl ?_
    refine g_iload_n (i := 2) X311 hx (hb hby at_566) (by rfl) rfl ?_
    refine g_iload (i := 10) X311 hx (hb hby at_567) (by rfl) rfl ?_
    refine g_iload (i := 13) X311 hx (hb hby at_569) (by rfl) rfl ?_
    refine g_iload (i := 8) X311 hx (hb hby at_571) (by rfl) rfl ?_
    refine g_iload (i := 18) X311 hx (hb hby at_573) (by rfl) rfl ?_
    refine g_iload (i := 19) X311 hx (hb hby at_575) (by rfl) rfl ?_
    refine g_callS X311 hx hZ hown (wd hw 19 rfl) (wd hw 20 rfl) (wd hw 21 rfl) (wd hw 22 rfl) (by decide) e311 (rm_lvl l Z a0 hw p0 p1 ofs strd nrow (2 : Int32) (3 : Int32) T307.heap) (by rw [hml]; rfl) [(.long p0), (.int p1), (.int ofs), (.int strd), (.int nrow), (.int (2 : Int32)), (.int (3 : Int32))] [(.int (3 : Int32)), (.int (2 : Int32)), (.int nrow), (.int (1 : Int32)), (.long p2), (.int (2 : Int32)), (.ref a292)] rfl (lenOf pd_81 rfl) rfl (by show 8 + (8 + 11) + 38 ≤ _; decide) (by decide) (by decide) (by decide) (hb hby at_577) rfl ?_
    intro T312 v312 L312 X312 hQ312
    obtain ⟨rfl, rfl, e312⟩ := hQ312
    have N312 := Fr.app N311 (Fr.nil n0)
    show Goes p e below _ T312 (mkF m 580 #[.val (.long p0), .second, .val (.int p1), .val (.long p2), .second, .val (.int p3), .val (.int p4), .val (.int (6 : Int32)), .val (.int nrow), .val (.int pad), .val (.int ofs), .val (.int (3 : Int32)), .val (.ref a275), .val (.int strd), .val (.ref a279), .val (.ref a292), .val (.int (3 : Int32)), .val (.int (1 : Int32)), .val (.int (2 : Int32)), .val (.int (3 : Int32)), .val (.int (1 : Int32)), .val (.int (1 : Int32))] [(.long (own_lvl p0 p1 ofs strd nrow (2 : Int32) (3 : Int32))), (.int (3 : Int32)), (.int (2 : Int32)), (.int nrow), (.int (1 : Int32)), (.long p2), (.int (2 : Int32)), (.ref a292)])
    have hl2 : own_blk f S (((3 : Int32)).toInt - ((2 : Int32)).toInt).toNat (ofs.toInt + ((2 : Int32)).toInt).toNat R 0 = (own_lvl p0 p1 ofs strd nrow (2 : Int32) (3 : Int32)) := by
      rcases hg_nrow with rfl | rfl | rfl
      · obtain rfl : R = 1 := by have := hR; rw [show (1 : Int32).toInt = 1 from rfl] at this; omega
        exact (own_lev_2_3_1 hf hg_ofs.1 hg_ofs.2 hS (by omega)).symm
      · obtain rfl : R = 2 := by have := hR; rw [show (2 : Int32).toInt = 2 from rfl] at this; omega
        exact (own_lev_2_3_2 hf hg_ofs.1 hg_ofs.2 hS (by omega)).symm
      · obtain rfl : R = 3 := by have := hR; rw [show (3 : Int32).toInt = 3 from rfl] at this; omega
        exact (own_lev_2_3_3 hf hg_ofs.1 hg_ofs.2 hS (by omega)).symm
    refine g_callS X312 hx hZ hown (wd hw 29 rfl) (wd hw 30 rfl) (wd hw 21 rfl) (wd hw 31 rfl) (by decide) e312 (rm_run1 l Z a0 hw a292 (2 : Int32) p2 nrow (2 : Int32) (3 : Int32) (own_lvl p0 p1 ofs strd nrow (2 : Int32) (3 : Int32)) g' T307.heap Ag' (by decide) w2_0 (w2_1.trans hl2) (w2_2.trans hl2) (w2_3.trans hl2)) (by rw [hml]; rfl) [(.ref a292), (.int (2 : Int32)), (.long p2), (.int (1 : Int32)), (.int nrow), (.int (2 : Int32)), (.int (3 : Int32)), (.long (own_lvl p0 p1 ofs strd nrow (2 : Int32) (3 : Int32)))] [] rfl (lenOf pd_82 rfl) rfl (by show 0 + (11 + 11) + 0 ≤ _; decide) (by decide) (by decide) (by decide) (hb hby at_580) rfl ?_
    intro T313 v313 L313 X313 hQ313
    obtain ⟨rfl, rfl, e313⟩ := hQ313
    have N313 := Fr.app N312 (Fr.nil n0)
    show Goes p e below _ T313 (mkF m 583 #[.val (.long p0), .second, .val (.int p1), .val (.long p2), .second, .val (.int p3), .val (.int p4), .val (.int (6 : Int32)), .val (.int nrow), .val (.int pad), .val (.int ofs), .val (.int (3 : Int32)), .val (.ref a275), .val (.int strd), .val (.ref a279), .val (.ref a292), .val (.int (3 : Int32)), .val (.int (1 : Int32)), .val (.int (2 : Int32)), .val (.int (3 : Int32)), .val (.int (1 : Int32)), .val (.int (1 : Int32))] [(.int (1 : Int32))])
    refine g_if_eq X313 hx (hb hby at_583) (by decide) (pt := 590) (by decide) rfl (fun q_ => absurd q_ (by decide)) (fun _ => ?_)
    refine g_iconst (v := (1 : Int32)) X313 hx (hb hby at_586) (by decide) rfl ?_
    refine g_goto X313 hx (hb hby at_587) (by decide) (by decide) (pc' := 591) ?_
    refine g_istore (i := 21) X313 hx #[.val (.long p0), .second, .val (.int p1), .val (.long p2), .second, .val (.int p3), .val (.int p4), .val (.int (6 : Int32)), .val (.int nrow), .val (.int pad), .val (.int ofs), .val (.int (3 : Int32)), .val (.ref a275), .val (.int strd), .val (.ref a279), .val (.ref a292), .val (.int (3 : Int32)), .val (.int (1 : Int32)), .val (.int (2 : Int32)), .val (.int (3 : Int32)), .val (.int (1 : Int32)), .val (.int (1 : Int32))] (hb hby at_591) rfl rfl ?_
    refine g_iload (i := 21) X313 hx (hb hby at_593) (by rfl) rfl ?_
    exact g_retN X313 hx (t := .boolean) (by simp) hlk hret e313 (by decide) (by decide) (hb hby at_595) ⟨rfl, N313⟩
set_option maxRecDepth 65536 in
set_option maxHeartbeats 40000000 in
theorem comes_1 {Post : Tables → Env → Array Value → State → Outcome → State → Prop} (hpost : ∀ tb e args s v u, (limb_1_1.after args s (.returned v) u = true ∧ limb_1_2.after args s (.returned v) u = true ∧ True) → FrameEnd s (.returned v) u (Jvm.fieldLocs frame_1_writes args s ++ Jvm.arrayLocs frame_1_arrays args s ++ Jvm.staticLocs frame_1_statics s) 16 128 → Post tb e args s (.returned v) u) :
    ArmFor flags0 classFile x code maxLocals ret World_1 tables_1 room_1 Calls_1 rest_1 Pre_1 Post := by
  intro l hfl _ _ p e ha hc hk s m args below hf hA hF happ hP
  obtain ⟨hcalls, hrest, hpre⟩ := hP
  obtain ⟨-, -, -, hnamed, -, -, -, hat⟩ := (Spec.applies_iff hf).mp happ
  obtain ⟨hg, hn⟩ := and_e (Cond.before_iff.mp (show (Jvm.Cond.and given_1 narrow_1).before args s = true from hpre))
  obtain ⟨hcnt, hg0⟩ := and_e hg
  obtain ⟨w0, w1, w2, w3, w4, rfl⟩ : ∃ w0 w1 w2 w3 w4 : Value, args = #[w0, w1, w2, w3, w4] := by
    have hs : args.size = 5 := by simpa [Cond.value, given_1] using hcnt
    obtain ⟨L⟩ := args
    match L, hs with
    | [w0, w1, w2, w3, w4], _ => exact ⟨w0, w1, w2, w3, w4, rfl⟩
  have hw := fun d (hd : d ∈ tables_1) => atoms_spec (ws := Jvm.Cond.code x code maxLocals ret :: tables_1) hat d (List.mem_cons_of_mem _ hd)
  have hfit : Fit s := fun {y c} hc i hi => by
    obtain ⟨ha, rfl⟩ := Array.getElem?_eq_some_iff.mp hc
    have q := List.all_eq_true.mp ((Array.all_eq_true_iff_forall_mem.mp hF) _ (Array.getElem_mem ha)) i (List.mem_range.mpr hi)
    simpa [Array.getElem?_eq_getElem hi] using q
  obtain ⟨ha0, hg1⟩ := and_e hg0
  obtain ⟨i0, q0⟩ := isL_v ha0
  obtain rfl : w0 = (.long i0) := Option.some.inj q0
  obtain ⟨ha1, hg2⟩ := and_e hg1
  obtain ⟨i1, q1⟩ := is_v ha1
  obtain rfl : w1 = (.int i1) := Option.some.inj q1
  obtain ⟨ha2, hg3⟩ := and_e hg2
  obtain ⟨i2, q2⟩ := isL_v ha2
  obtain rfl : w2 = (.long i2) := Option.some.inj q2
  obtain ⟨ha3, hg4⟩ := and_e hg3
  obtain ⟨i3, q3⟩ := is_v ha3
  obtain rfl : w3 = (.int i3) := Option.some.inj q3
  obtain ⟨i4, q4⟩ := is_v hg4
  obtain rfl : w4 = (.int i4) := Option.some.inj q4
  obtain ⟨n, o, h1, h2, h3, _, L, rfl, ⟨rfl, N⟩, hq⟩ := rm0 l s _ hw i0 i1 i2 i3 i4 s.heap s.heap.size (Nat.le_refl _) p e ha hc hk s m _ below hf ((Spec.applies_iff_loose hf).mp happ).1 ⟨rfl, State.Warmed39.refl s, rfl⟩ trivial
  refine ⟨n, _, h1, h2, h3, hpost _ _ _ _ _ _ ⟨Cond.after_iff.mpr rfl, Cond.after_iff.mpr (eq_i res_at (Term.int_eval (1)) rfl), trivial⟩ ⟨hq.1, hq.2.1, (hq.2.2.sift fun y hy => Or.inr (N y hy)).mono (by decide) (by decide)⟩⟩
theorem main_1_1 : Claimed_1_1 := comes_1 fun _ _ _ _ _ _ h hF => ⟨h.1, hF⟩
theorem main_1_2 : Claimed_1_2 := comes_1 fun _ _ _ _ _ _ h hF => ⟨h.2.1, hF⟩
end Jvm.Pilot.@@N@@
namespace Jvm.Pilot.@@N@@
open Jvm Jvm.ClassFile Sem Op Lib Jvm.Free Jvm.Stand Jvm.Pilot.@@N@@.Jvm.D
/-! MADE BY PROGRAM (witnessworld.py) out of the Statement's table words and the real class files: 12 classes; the members and pool entries that the words name. The judged class is class 1, her method 1. -/
namespace start1
open Jvm.ClassFile
def u (s : String) : CpInfo := .utf8 (stringToUtf16 s)
/-- a pool by its gaps: so many unusable entries, then the entry; so many at the end -/
def gap : Nat → List CpInfo → List CpInfo
  | 0, r => r
  | n + 1, r => .unusable :: gap n r
def poolList (es : List (Nat × CpInfo)) (last : Nat) : List CpInfo := es.foldr (fun e r => gap e.1 (e.2 :: r)) (gap last [])
def pool (es : List (Nat × CpInfo)) (last : Nat) : Array CpInfo := ⟨poolList es last⟩
def fileOf (pool : Array CpInfo) (this : Nat) (attrs : Array Attribute := #[]) (ms : Array MethodInfo := #[]) (fl : Nat := 33) (sup : Nat := 0) (ifs : Array Nat := #[]) (fds : Array FieldInfo := #[]) : ClassFile where
  minorVersion := 0
  majorVersion := 65
  constantPool := pool
  accessFlags := fl
  thisClass := this
  superClass := sup
  interfaces := ifs
  fields := fds
  methods := ms
  attributes := attrs
def plain (name : String) (sup : Option ClassId) : Class where
  name := name
  kind := .ordinary
  loader := none
  accessFlags := 33
  super := sup
  interfaces := #[]
  cf := none
  fields := #[]
  methods := #[]
  instanceTypes := #[]
  staticTypes := #[]
  resolved := #[]
  callSites := []
  init := .initialized
  statics := none
  mirror := none

def pool0 : Array CpInfo := pool [(5, u "<init>"), (0, u "()V"), (1, .class_ 10), (1, u "java/lang/Object")] 113

def k0c0 : Code := { maxStack := 0, maxLocals := 1, code := object_method_1_code, exceptionTable := #[], attributes := #[] }
def k0m0 : Method := { name := "<init>", desc := "()V", sig := { parameters := [], returnType := none }, accessFlags := 1, code := some k0c0 }
/-- java/lang/Object -/
def k0 : Class := { plain "java/lang/Object" none with
  accessFlags := 33
  interfaces := #[]
  cf := some (fileOf pool0 8 #[] #[{ accessFlags := 1, nameIndex := 5, descriptorIndex := 6, attributes := #[] }] 33 0 #[] #[])
  fields := #[]
  methods := #[k0m0]
  instanceTypes := #[]
  staticTypes := #[]
  resolved := Array.replicate 124 none
  statics := none }

def pool1 : Array CpInfo := pool [(2, .class_ 4), (0, .nameAndType 5 6), (0, u "java/lang/Object"), (0, u "<init>"), (0, u "()V"), (0, .integer 2147483647), (0, .class_ 9), (0, u "com/example/scanstride/scanstride/JpegSurface$Grey"), (0, .methodref 8 3), (0, .methodref 8 12), (0, .nameAndType 13 14), (0, u "sumRuns"), (0, u "([BIII[I[J)Z"), (0, .methodref 16 17), (0, .class_ 18), (0, .nameAndType 19 20), (0, u "com/example/scanstride/scanstride/GreySumRunsPinLaw"), (0, u "level"), (0, u "(JIIIIII)J"), (0, .methodref 16 22), (0, .nameAndType 23 24), (0, u "run"), (0, u "([JIJZIIIJ)Z"), (0, .long 255), (1, .methodref 16 28), (0, .nameAndType 29 30), (0, u "cell"), (0, u "(JIIIIIIII)J"), (0, .methodref 16 32), (0, .nameAndType 33 34), (0, u "sample"), (0, u "(JII)I"), (2, u "law"), (0, u "(JIJII)Z")] 13

def k1m0 : Method := { name := "<init>", desc := "()V", sig := { parameters := [], returnType := none }, accessFlags := 1, code := none }
def k1c1 : Code := { maxStack := 16, maxLocals := 22, code := code, exceptionTable := #[], attributes := #[] }
def k1m1 : Method := { name := "law", desc := "(JIJII)Z", sig := { parameters := [.long, .int, .long, .int, .int], returnType := some .boolean }, accessFlags := 9, code := some k1c1 }
def k1c2 : Code := { maxStack := 6, maxLocals := 11, code := method_3_code, exceptionTable := #[], attributes := #[] }
def k1m2 : Method := { name := "run", desc := "([JIJZIIIJ)Z", sig := { parameters := [(.array .long), .int, .long, .boolean, .int, .int, .int, .long], returnType := some .boolean }, accessFlags := 10, code := some k1c2 }
def k1c3 : Code := { maxStack := 12, maxLocals := 8, code := method_4_code, exceptionTable := #[], attributes := #[] }
def k1m3 : Method := { name := "level", desc := "(JIIIIII)J", sig := { parameters := [.long, .int, .int, .int, .int, .int, .int], returnType := some .long }, accessFlags := 10, code := some k1c3 }
def k1c4 : Code := { maxStack := 6, maxLocals := 10, code := method_5_code, exceptionTable := #[], attributes := #[] }
def k1m4 : Method := { name := "cell", desc := "(JIIIIIIII)J", sig := { parameters := [.long, .int, .int, .int, .int, .int, .int, .int, .int], returnType := some .long }, accessFlags := 10, code := some k1c4 }
def k1c5 : Code := { maxStack := 4, maxLocals := 4, code := method_6_code, exceptionTable := #[], attributes := #[] }
def k1m5 : Method := { name := "sample", desc := "(JII)I", sig := { parameters := [.long, .int, .int], returnType := some .int }, accessFlags := 10, code := some k1c5 }
/-- com/example/scanstride/scanstride/GreySumRunsPinLaw -/
def k1 : Class := { plain "com/example/scanstride/scanstride/GreySumRunsPinLaw" (some 0) with
  accessFlags := 49
  interfaces := #[]
  cf := some (fileOf pool1 16 #[] #[{ accessFlags := 1, nameIndex := 5, descriptorIndex := 6, attributes := #[] }, { accessFlags := 9, nameIndex := 37, descriptorIndex := 38, attributes := #[] }, { accessFlags := 10, nameIndex := 23, descriptorIndex := 24, attributes := #[] }, { accessFlags := 10, nameIndex := 19, descriptorIndex := 20, attributes := #[] }, { accessFlags := 10, nameIndex := 29, descriptorIndex := 30, attributes := #[] }, { accessFlags := 10, nameIndex := 33, descriptorIndex := 34, attributes := #[] }] 49 2 #[] #[])
  fields := #[]
  methods := #[k1m0, k1m1, k1m2, k1m3, k1m4, k1m5]
  instanceTypes := #[]
  staticTypes := #[]
  resolved := Array.replicate 52 none
  statics := none }

def pool2 : Array CpInfo := pool [(1, .class_ 2), (0, u "com/example/scanstride/scanstride/JpegSurface$ColourSpace"), (0, .class_ 4), (0, u "java/lang/Object"), (13, .class_ 19), (0, u "com/example/scanstride/scanstride/JpegSurface")] 2

/-- com/example/scanstride/scanstride/JpegSurface$ColourSpace -/
def k2 : Class := { plain "com/example/scanstride/scanstride/JpegSurface$ColourSpace" (some 0) with
  accessFlags := 1536
  interfaces := #[]
  cf := some (fileOf pool2 1 #[.nestHost 18] #[] 1536 3 #[] #[])
  fields := #[]
  methods := #[]
  instanceTypes := #[]
  staticTypes := #[]
  resolved := Array.replicate 22 none
  statics := none }

def pool3 : Array CpInfo := pool [(1, .class_ 2), (0, u "com/example/scanstride/scanstride/JpegSurface"), (0, .methodref 4 5), (0, .class_ 6), (0, .nameAndType 7 8), (0, u "java/lang/Object"), (0, u "<init>"), (0, u "()V"), (3, .class_ 14), (1, u "com/example/scanstride/scanstride/JpegSurface$Grey"), (4, .long 255), (1, .class_ 22), (0, u "com/example/scanstride/scanstride/JpegSurface$ColourSpace"), (7, u "sumRuns"), (0, u "([BIII[I[J)Z")] 6

def k3c0 : Code := { maxStack := 1, maxLocals := 1, code := prog_39_method_1_code, exceptionTable := #[], attributes := #[] }
def k3m0 : Method := { name := "<init>", desc := "()V", sig := { parameters := [], returnType := none }, accessFlags := 0, code := some k3c0 }
def k3c1 : Code := { maxStack := 6, maxLocals := 13, code := prog_39_method_5_code, exceptionTable := #[], attributes := #[] }
def k3m1 : Method := { name := "sumRuns", desc := "([BIII[I[J)Z", sig := { parameters := [(.array .byte), .int, .int, .int, (.array .int), (.array .long)], returnType := some .boolean }, accessFlags := 1, code := some k3c1 }
/-- com/example/scanstride/scanstride/JpegSurface$Grey -/
def k3 : Class := { plain "com/example/scanstride/scanstride/JpegSurface$Grey" (some 0) with
  accessFlags := 48
  interfaces := #[2]
  cf := some (fileOf pool3 12 #[.nestHost 1] #[{ accessFlags := 0, nameIndex := 7, descriptorIndex := 8, attributes := #[] }, { accessFlags := 1, nameIndex := 30, descriptorIndex := 31, attributes := #[] }] 48 4 #[21] #[])
  fields := #[]
  methods := #[k3m0, k3m1]
  instanceTypes := #[]
  staticTypes := #[]
  resolved := Array.replicate 38 none
  statics := none }

def pool4 : Array CpInfo := pool [(1, u "java/lang/Cloneable"), (0, .class_ 1), (0, u "java/lang/Object"), (0, .class_ 3)] 3

/-- java/lang/Cloneable -/
def k4 : Class := { plain "java/lang/Cloneable" (some 0) with
  accessFlags := 1537
  interfaces := #[]
  cf := some (fileOf pool4 2 #[] #[] 1537 4 #[] #[])
  fields := #[]
  methods := #[]
  instanceTypes := #[]
  staticTypes := #[]
  resolved := Array.replicate 8 none
  statics := none }

def pool5 : Array CpInfo := pool [(1, u "java/io/Serializable"), (0, .class_ 1), (0, u "java/lang/Object"), (0, .class_ 3)] 3

/-- java/io/Serializable -/
def k5 : Class := { plain "java/io/Serializable" (some 0) with
  accessFlags := 1537
  interfaces := #[]
  cf := some (fileOf pool5 2 #[] #[] 1537 4 #[] #[])
  fields := #[]
  methods := #[]
  instanceTypes := #[]
  staticTypes := #[]
  resolved := Array.replicate 8 none
  statics := none }

/-- the primitive byte -/
def k6 : Class := { plain "byte" none with kind := .primitive 'B', accessFlags := 0x411 }
/-- [B -/
def k7 : Class := { plain "[B" (some 0) with kind := .array 6 .byte, interfaces := #[4, 5], accessFlags := 1041 }

/-- the primitive int -/
def k8 : Class := { plain "int" none with kind := .primitive 'I', accessFlags := 0x411 }
/-- [I -/
def k9 : Class := { plain "[I" (some 0) with kind := .array 8 .int, interfaces := #[4, 5], accessFlags := 1041 }

/-- the primitive long -/
def k10 : Class := { plain "long" none with kind := .primitive 'J', accessFlags := 0x411 }
/-- [J -/
def k11 : Class := { plain "[J" (some 0) with kind := .array 10 .long, interfaces := #[4, 5], accessFlags := 1041 }

def heap : Heap := #[]
def classes : Array Class := #[k0, k1, k2, k3, k4, k5, k6, k7, k8, k9, k10, k11]
def interned : List (Array UInt16 × Addr) := []
def slotsUsed : Nat := 0
def theMethod : MethodId := ⟨1, 1⟩
def args0 : Array Value := #[.long 5, .int 3, .long 4, .int 5, .int 6]
def aboutOver (below : List Frame) : State where
  vm := { classes := classes, interned := interned.toArray }
  heap := heap
  slotsUsed := slotsUsed
  threads := #[{ frames := .invoking theMethod args0 :: below }]
def below0 : List Frame := [.native { method := ⟨0, 0⟩, args := #[] }]
def about1 : State := aboutOver below0
def p0 : Program := .bare "" "" ""
def e0 : Env := launch0.env 0 0 0
theorem w_frames : about1.frames = Frame.invoking theMethod args0 :: below0 := rfl
set_option maxRecDepth 65536 in
theorem w_args : argsFit about1.vm theMethod args0 = true := by decide +kernel
set_option maxRecDepth 65536 in
theorem w_heap : heapFits about1 = true := by decide +kernel
set_option maxRecDepth 65536 in
theorem w_runnable : about1.curStatus? = some .runnable := by decide +kernel
set_option maxRecDepth 65536 in
theorem w_alone : about1.alone = true := by decide +kernel
set_option maxRecDepth 65536 in
theorem w_named : about1.methodNamed? x = some theMethod := by decide +kernel
set_option maxRecDepth 65536 in
theorem w_hears : about1.hears theMethod below0 = true := by decide +kernel
set_option maxRecDepth 65536 in
theorem w_ripe : about1.ripe theMethod args0 below0 = true := by decide +kernel
theorem w_running : about1.status = .running := rfl
set_option maxRecDepth 65536 in
theorem w_room : about1.hasRoom e0.platform room_1 = true :=
  launch0.hasRoom_least _ room_1 (by decide +kernel) (by decide +kernel) (by decide +kernel) (by decide +kernel) (by decide +kernel) (by decide +kernel)
theorem allAtoms_all (ts : List Jvm.Cond) (a : Array Jvm.Value) (st : Jvm.State) : (allAtoms ts).before a st = ts.all (fun c => c.before a st) := by
  induction ts with
  | nil => rfl
  | cons c t ih =>
    show (Jvm.Cond.and c (allAtoms t)).before a st = _
    rw [Jvm.Cond.before_and, ih, List.all_cons]
def words1 : List Jvm.Cond := Jvm.Cond.code x code maxLocals ret :: tables_1
/-- a 'code' word, met by the world's own term for the bytes: nothing is compared byte by byte -/
theorem code_word {y : MethodName} {bytes : ByteArray} {mx : Nat} {rt : Option FieldType} {a : Array Value} {s : State} {m : MethodId} {meth : Method} {c : Code} (h1 : s.methodNamed? y = some m) (h2 : s.vm.method? m = some meth) (h3 : meth.code = some c) (h4 : c.code = bytes)
    (h5 : (c.maxLocals == mx && c.exceptionTable.isEmpty && decide (c.maxStack ≤ mostOperands) && decide (meth.sig.returnType = rt) && !meth.locks && decide (parseMethodDescriptor y.desc = some meth.sig)) = true) : (Jvm.Cond.code y bytes mx rt).before a s = true := by
  simp only [Bool.and_eq_true, beq_iff_eq, Bool.not_eq_true', decide_eq_true_eq] at h5
  obtain ⟨⟨⟨⟨⟨g1, g2⟩, g3⟩, g4⟩, g5⟩, g6⟩ := h5
  simp [Cond.before, Cond.holds, Cond.value, h1, h2, h3, h4, g1, g2, g3, g4, g5, g6]
def isCode : Jvm.Cond → Bool
  | .code _ _ _ _ => true
  | _ => false
theorem all_split {L : List Jvm.Cond} {P : Jvm.Cond → Bool} (h1 : L.all (fun c => isCode c || P c) = true) (h2 : ∀ c ∈ L.filter isCode, P c = true) : L.all P = true := by
  refine List.all_eq_true.mpr fun c hc => ?_
  have h := List.all_eq_true.mp h1 c hc
  rcases Bool.eq_false_or_eq_true (isCode c) with hi | hi
  · exact h2 c (List.mem_filter.mpr ⟨hc, hi⟩)
  · simpa [hi] using h
set_option maxRecDepth 65536 in
theorem w_c0 : (Jvm.Cond.code x code maxLocals ret).before args0 about1 = true := code_word (m := ⟨1, 1⟩) (meth := k1m1) (c := k1c1) (by decide +kernel) rfl rfl rfl (by decide +kernel)
set_option maxRecDepth 65536 in
theorem w_c1 : (Jvm.Cond.code ({ cls := "com/example/scanstride/scanstride/JpegSurface$Grey", name := "<init>", desc := "()V" } : Jvm.MethodName) prog_39_method_1_code (1 : Nat) (Option.none : Option Jvm.ClassFile.FieldType)).before args0 about1 = true := code_word (m := ⟨3, 0⟩) (meth := k3m0) (c := k3c0) (by decide +kernel) rfl rfl rfl (by decide +kernel)
set_option maxRecDepth 65536 in
theorem w_c2 : (Jvm.Cond.code ({ cls := "java/lang/Object", name := "<init>", desc := "()V" } : Jvm.MethodName) object_method_1_code (1 : Nat) (Option.none : Option Jvm.ClassFile.FieldType)).before args0 about1 = true := code_word (m := ⟨0, 0⟩) (meth := k0m0) (c := k0c0) (by decide +kernel) rfl rfl rfl (by decide +kernel)
set_option maxRecDepth 65536 in
theorem w_c3 : (Jvm.Cond.code ({ cls := "com/example/scanstride/scanstride/JpegSurface$Grey", name := "sumRuns", desc := "([BIII[I[J)Z" } : Jvm.MethodName) prog_39_method_5_code (13 : Nat) (Option.some Jvm.ClassFile.FieldType.boolean)).before args0 about1 = true := code_word (m := ⟨3, 1⟩) (meth := k3m1) (c := k3c1) (by decide +kernel) rfl rfl rfl (by decide +kernel)
set_option maxRecDepth 65536 in
theorem w_c4 : (Jvm.Cond.code ({ cls := "com/example/scanstride/scanstride/GreySumRunsPinLaw", name := "level", desc := "(JIIIIII)J" } : Jvm.MethodName) method_4_code (8 : Nat) (Option.some Jvm.ClassFile.FieldType.long)).before args0 about1 = true := code_word (m := ⟨1, 3⟩) (meth := k1m3) (c := k1c3) (by decide +kernel) rfl rfl rfl (by decide +kernel)
set_option maxRecDepth 65536 in
theorem w_c5 : (Jvm.Cond.code ({ cls := "com/example/scanstride/scanstride/GreySumRunsPinLaw", name := "cell", desc := "(JIIIIIIII)J" } : Jvm.MethodName) method_5_code (10 : Nat) (Option.some Jvm.ClassFile.FieldType.long)).before args0 about1 = true := code_word (m := ⟨1, 4⟩) (meth := k1m4) (c := k1c4) (by decide +kernel) rfl rfl rfl (by decide +kernel)
set_option maxRecDepth 65536 in
theorem w_c6 : (Jvm.Cond.code ({ cls := "com/example/scanstride/scanstride/GreySumRunsPinLaw", name := "sample", desc := "(JII)I" } : Jvm.MethodName) method_6_code (4 : Nat) (Option.some Jvm.ClassFile.FieldType.int)).before args0 about1 = true := code_word (m := ⟨1, 5⟩) (meth := k1m5) (c := k1c5) (by decide +kernel) rfl rfl rfl (by decide +kernel)
set_option maxRecDepth 65536 in
theorem w_c7 : (Jvm.Cond.code ({ cls := "com/example/scanstride/scanstride/GreySumRunsPinLaw", name := "run", desc := "([JIJZIIIJ)Z" } : Jvm.MethodName) method_3_code (11 : Nat) (Option.some Jvm.ClassFile.FieldType.boolean)).before args0 about1 = true := code_word (m := ⟨1, 2⟩) (meth := k1m2) (c := k1c2) (by decide +kernel) rfl rfl rfl (by decide +kernel)
def codes1 : List Jvm.Cond := [Jvm.Cond.code x code maxLocals ret, Jvm.Cond.code ({ cls := "com/example/scanstride/scanstride/JpegSurface$Grey", name := "<init>", desc := "()V" } : Jvm.MethodName) prog_39_method_1_code (1 : Nat) (Option.none : Option Jvm.ClassFile.FieldType), Jvm.Cond.code ({ cls := "java/lang/Object", name := "<init>", desc := "()V" } : Jvm.MethodName) object_method_1_code (1 : Nat) (Option.none : Option Jvm.ClassFile.FieldType), Jvm.Cond.code ({ cls := "com/example/scanstride/scanstride/JpegSurface$Grey", name := "sumRuns", desc := "([BIII[I[J)Z" } : Jvm.MethodName) prog_39_method_5_code (13 : Nat) (Option.some Jvm.ClassFile.FieldType.boolean), Jvm.Cond.code ({ cls := "com/example/scanstride/scanstride/GreySumRunsPinLaw", name := "level", desc := "(JIIIIII)J" } : Jvm.MethodName) method_4_code (8 : Nat) (Option.some Jvm.ClassFile.FieldType.long), Jvm.Cond.code ({ cls := "com/example/scanstride/scanstride/GreySumRunsPinLaw", name := "cell", desc := "(JIIIIIIII)J" } : Jvm.MethodName) method_5_code (10 : Nat) (Option.some Jvm.ClassFile.FieldType.long), Jvm.Cond.code ({ cls := "com/example/scanstride/scanstride/GreySumRunsPinLaw", name := "sample", desc := "(JII)I" } : Jvm.MethodName) method_6_code (4 : Nat) (Option.some Jvm.ClassFile.FieldType.int), Jvm.Cond.code ({ cls := "com/example/scanstride/scanstride/GreySumRunsPinLaw", name := "run", desc := "([JIJZIIIJ)Z" } : Jvm.MethodName) method_3_code (11 : Nat) (Option.some Jvm.ClassFile.FieldType.boolean)]
set_option maxRecDepth 65536 in
theorem codes_eq : words1.filter isCode = codes1 := rfl
theorem w_codes : ∀ c ∈ words1.filter isCode, c.before args0 about1 = true := by
  rw [codes_eq]
  intro c hc
  simp only [codes1, List.mem_cons, List.not_mem_nil, or_false] at hc
  rcases hc with rfl | rfl | rfl | rfl | rfl | rfl | rfl | rfl
  · exact w_c0
  · exact w_c1
  · exact w_c2
  · exact w_c3
  · exact w_c4
  · exact w_c5
  · exact w_c6
  · exact w_c7
set_option maxRecDepth 65536 in
theorem w_t1 : (words1.take 24).all (fun c => isCode c || c.before args0 about1) = true := by decide +kernel
set_option maxRecDepth 65536 in
theorem w_t2 : (words1.drop 24).all (fun c => isCode c || c.before args0 about1) = true := by decide +kernel
theorem w_tables : (allAtoms (Jvm.Cond.code x code maxLocals ret :: tables_1)).before args0 about1 = true := by
  rw [allAtoms_all]
  show words1.all (fun c => c.before args0 about1) = true
  refine all_split ?_ w_codes
  rw [← List.take_append_drop 24 words1, List.all_append, w_t1, w_t2]
  rfl
set_option maxRecDepth 65536 in
theorem w_case : (Jvm.Cond.and given_1 narrow_1).before args0 about1 = true := by decide +kernel
theorem w_applies : (headSpec (Jvm.Cond.code x code maxLocals ret :: tables_1) room_1).applies x e0.platform about1 = true :=
  (Spec.applies_iff w_frames).mpr ⟨w_running, w_runnable, w_alone, w_named, w_hears, w_ripe, w_room, w_tables⟩
theorem atStart : AtStart classFile x code maxLocals ret World_1 tables_1 room_1 Calls_1 rest_1 Pre_1 launch0 p0 e0 about1 theMethod args0 below0 :=
  ⟨lists_1, trivial, launch0.admits_env _ _ _, launch0.least_env, fairChoices_fair.cas, fairChoices_fair.clock, w_frames, w_args, w_heap, w_applies, trivial, trivial, w_case⟩
end start1
theorem witness_1 : WitnessClaimed_1 := ⟨start1.p0, start1.e0, start1.about1, start1.theMethod, start1.args0, start1.below0, start1.atStart⟩
end Jvm.Pilot.@@N@@

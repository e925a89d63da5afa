import JvmDerived
import JvmDerived.Pilot.@@N@@Statement
import JvmDerived.Pilot.@@N@@Code
set_option linter.unusedVariables false
set_option maxRecDepth 65536
set_option maxHeartbeats 40000000
set_option linter.unusedSimpArgs false
namespace Jvm.OwnG
open Sem ClassFile Op Lib Jvm.Stand Jvm.Free Jvm.LawKit Jvm.RoadKit
/-- from here the run comes to an end at which P holds -/
def Gd (p : Program) (e : Env) (below : List Frame) (P : State → Prop) (T : State) (g : JFrame) : Prop := ∃ t, Steps p.tables e below (T.setTop g) t ∧ P t
/-- an instruction of the code, and the pc behind it -/
def Ins1 (code : ByteArray) (pc : Nat) (i : Instr) (n pn : Nat) : Prop := decode code pc = .ok (i, n) ∧ pc + n = pn
/-- a branch: the pc behind it, the pc it goes to -/
def InsB (code : ByteArray) (pc : Nat) (i : Instr) (o : Int) (pn pt : Nat) : Prop := decode code pc = .ok (i, 3) ∧ pc + 3 = pn ∧ 0 ≤ (pc : Int) + o ∧ ((pc : Int) + o).toNat = pt
/-- what the end of a walk says -/
def Fin1 (s : State) (below : List Frame) (cells slots : Nat) (Q : Option Value → Heap → List Loc → Prop) (t : State) : Prop := ∃ o, t.status = .running ∧ Ended t below o ∧ ∃ v L, o = .returned v ∧ Q v t.heap L ∧ FrameEnd s o t L cells slots
/-- a method's contract at the arguments as', the heap h -/
def Met1 (l : Launch) (y : MethodName) (bytes : ByteArray) (maxL : Nat) (ret : Option FieldType) (ws : List Jvm.Cond) (rm : Room) (as' : Array Value) (Z : State) (h : Heap) (Q : Option Value → Heap → List Loc → Prop) : Prop :=
  MetFree l y (head1 (Jvm.Cond.code y bytes maxL ret :: ws) rm) (fun a U => a = as' ∧ Z.Warmed39 U.vm ∧ U.heap = h) (fun _ _ _ _ _ => True) (fun _ U o U' => ∃ v L, o = .returned v ∧ Q v U'.heap L ∧ FrameEnd U o U' L rm.cells rm.slots)
def RV (Q : Value → Heap → List Loc → Prop) (v : Option Value) (h : Heap) (L : List Loc) : Prop := ∃ z, v = some z ∧ Q z h L
def RN (Q : Heap → List Loc → Prop) (v : Option Value) (h : Heap) (L : List Loc) : Prop := v = none ∧ Q h L
section K
variable {p : Program} {l : Launch} {e : Env} {R : Room} {s : State} {m : MethodId} {args : Array Value} {below : List Frame} {meth : Method} {c : Code} {T : State} {locs : List Loc} {cells slots : Nat} {Z : State} {a0 : Array Value} {h : Heap} {P : State → Prop} {code : ByteArray} {pc pn pt : Nat} {Ls : Array Slot} {st : List Value}
theorem Gd.of {T' : State} {g g' : JFrame} (k : ∀ t, Steps p.tables e below (T'.setTop g') t → Steps p.tables e below (T.setTop g) t) (q : Gd p e below P T' g') : Gd p e below P T g := q.imp fun t r => ⟨k t r.1, r.2⟩
theorem Gd.cast {g g' : JFrame} (q : g = g') (k : Gd p e below P T g') : Gd p e below P T g := q ▸ k
theorem met_of {y : MethodName} {maxL : Nat} {ret : Option FieldType} {ws : List Jvm.Cond} {rm : Room} {as' : Array Value} {Q : Option Value → Heap → List Loc → Prop} (hp : plainFor y = true)
    (body : ∀ (p : Program) (e : Env) (s : State) (m : MethodId) (below : List Frame) (meth : Method) (c : Code) (T : State), Stand p l e rm s m as' below meth c T [] 0 0 → p.tables.exec = Jvm.exec → c.code = code → c.maxLocals = maxL → Z.Warmed39 s.vm → s.vm.findClass y.cls = some m.cls → meth.name = y.name → meth.sig.returnType = ret → meth.locks = false → T.heap = h → s.heap = h →
      Gd p e below (Fin1 s below rm.cells rm.slots Q) T (entryFrame m as' maxL)) : Met1 l y code maxL ret ws rm as' Z h Q := by
  refine MetFree.of_bodySF hp hisR ?_
  intro p e s m args below meth c s₁ Bd hml0 hP hK
  obtain ⟨rfl, hZ, hh⟩ := hP
  obtain ⟨t, h1, o, h2, h3, h4⟩ := body p e s m below meth c s₁ (Stand.of_body Bd) Bd.exec Bd.bytes hml0 hZ (findClass_of_methodNamed Bd.named) (name_of_methodNamed Bd.named Bd.method).1 Bd.returns Bd.notSynchronized (by rw [← hh, Bd.state]; rfl) hh
  exact ⟨t, o, h1, h2, h3, h4⟩
theorem g_iloadN (X : Stand p l e R s m args below meth c T locs cells slots) (hx : p.tables.exec = Jvm.exec) (hby : c.code = code) {k : Fin 4} {v : Int32} (hd : Ins1 code pc (.iload_n k) 1 pn) (hl : Ls[k.val]? = some (.val (.int v))) (k : Gd p e below P T (mkF m pn Ls (.int v :: st))) : Gd p e below P T (mkF m pc Ls (st)) := by
  obtain ⟨hd, rfl⟩ := hd
  exact k.imp fun t q => ⟨XS.iloadN X.here hx rfl (hb hby hd) hl q.1, q.2⟩
theorem g_iload (X : Stand p l e R s m args below meth c T locs cells slots) (hx : p.tables.exec = Jvm.exec) (hby : c.code = code) {k : Nat} {v : Int32} (hd : Ins1 code pc (.iload k) 2 pn) (hl : Ls[k]? = some (.val (.int v))) (k : Gd p e below P T (mkF m pn Ls (.int v :: st))) : Gd p e below P T (mkF m pc Ls (st)) := by
  obtain ⟨hd, rfl⟩ := hd
  exact k.imp fun t q => ⟨XS.iload X.here hx rfl (hb hby hd) hl q.1, q.2⟩
theorem g_istoreN (X : Stand p l e R s m args below meth c T locs cells slots) (hx : p.tables.exec = Jvm.exec) (hby : c.code = code) {k : Fin 4} {v : Int32} {l' : Array Slot} (hd : Ins1 code pc (.istore_n k) 1 pn) (hl : storeLocals Ls k.val (.int v) = some l') (k : Gd p e below P T (mkF m pn l' (st))) : Gd p e below P T (mkF m pc Ls (.int v :: st)) := by
  obtain ⟨hd, rfl⟩ := hd
  exact k.imp fun t q => ⟨XS.istoreN X.here hx rfl (hb hby hd) rfl hl q.1, q.2⟩
theorem g_istore (X : Stand p l e R s m args below meth c T locs cells slots) (hx : p.tables.exec = Jvm.exec) (hby : c.code = code) {k : Nat} {v : Int32} {l' : Array Slot} (hd : Ins1 code pc (.istore k) 2 pn) (hl : storeLocals Ls k (.int v) = some l') (k : Gd p e below P T (mkF m pn l' (st))) : Gd p e below P T (mkF m pc Ls (.int v :: st)) := by
  obtain ⟨hd, rfl⟩ := hd
  exact k.imp fun t q => ⟨XS.istore X.here hx rfl (hb hby hd) rfl hl q.1, q.2⟩
theorem g_lloadN (X : Stand p l e R s m args below meth c T locs cells slots) (hx : p.tables.exec = Jvm.exec) (hby : c.code = code) {k : Fin 4} {v : Int64} (hd : Ins1 code pc (.lload_n k) 1 pn) (hl : Ls[k.val]? = some (.val (.long v))) (k : Gd p e below P T (mkF m pn Ls (.long v :: st))) : Gd p e below P T (mkF m pc Ls (st)) := by
  obtain ⟨hd, rfl⟩ := hd
  exact k.imp fun t q => ⟨XS.lloadN X.here hx rfl (hb hby hd) hl q.1, q.2⟩
theorem g_lload (X : Stand p l e R s m args below meth c T locs cells slots) (hx : p.tables.exec = Jvm.exec) (hby : c.code = code) {k : Nat} {v : Int64} (hd : Ins1 code pc (.lload k) 2 pn) (hl : Ls[k]? = some (.val (.long v))) (k : Gd p e below P T (mkF m pn Ls (.long v :: st))) : Gd p e below P T (mkF m pc Ls (st)) := by
  obtain ⟨hd, rfl⟩ := hd
  exact k.imp fun t q => ⟨XS.lload X.here hx rfl (hb hby hd) hl q.1, q.2⟩
theorem g_lstoreN (X : Stand p l e R s m args below meth c T locs cells slots) (hx : p.tables.exec = Jvm.exec) (hby : c.code = code) {k : Fin 4} {v : Int64} {l' : Array Slot} (hd : Ins1 code pc (.lstore_n k) 1 pn) (hl : storeLocals Ls k.val (.long v) = some l') (k : Gd p e below P T (mkF m pn l' (st))) : Gd p e below P T (mkF m pc Ls (.long v :: st)) := by
  obtain ⟨hd, rfl⟩ := hd
  exact k.imp fun t q => ⟨XS.lstoreN X.here hx rfl (hb hby hd) rfl hl q.1, q.2⟩
theorem g_lstore (X : Stand p l e R s m args below meth c T locs cells slots) (hx : p.tables.exec = Jvm.exec) (hby : c.code = code) {k : Nat} {v : Int64} {l' : Array Slot} (hd : Ins1 code pc (.lstore k) 2 pn) (hl : storeLocals Ls k (.long v) = some l') (k : Gd p e below P T (mkF m pn l' (st))) : Gd p e below P T (mkF m pc Ls (.long v :: st)) := by
  obtain ⟨hd, rfl⟩ := hd
  exact k.imp fun t q => ⟨XS.lstore X.here hx rfl (hb hby hd) rfl hl q.1, q.2⟩
theorem g_aloadN (X : Stand p l e R s m args below meth c T locs cells slots) (hx : p.tables.exec = Jvm.exec) (hby : c.code = code) {k : Fin 4} {v : Value} (hd : Ins1 code pc (.aload_n k) 1 pn) (hl : Ls[k.val]? = some (.val v)) (hv : v.isRef = true) (k : Gd p e below P T (mkF m pn Ls (v :: st))) : Gd p e below P T (mkF m pc Ls (st)) := by
  obtain ⟨hd, rfl⟩ := hd
  exact k.imp fun t q => ⟨XS.aloadN X.here hx rfl (hb hby hd) hl hv q.1, q.2⟩
theorem g_aload (X : Stand p l e R s m args below meth c T locs cells slots) (hx : p.tables.exec = Jvm.exec) (hby : c.code = code) {k : Nat} {v : Value} (hd : Ins1 code pc (.aload k) 2 pn) (hl : Ls[k]? = some (.val v)) (hv : v.isRef = true) (k : Gd p e below P T (mkF m pn Ls (v :: st))) : Gd p e below P T (mkF m pc Ls (st)) := by
  obtain ⟨hd, rfl⟩ := hd
  exact k.imp fun t q => ⟨XS.aload X.here hx rfl (hb hby hd) hl hv q.1, q.2⟩
theorem g_astoreN (X : Stand p l e R s m args below meth c T locs cells slots) (hx : p.tables.exec = Jvm.exec) (hby : c.code = code) {k : Fin 4} {v : Value} {l' : Array Slot} (hd : Ins1 code pc (.astore_n k) 1 pn) (hv : v.isRef = true) (hl : storeLocals Ls k.val v = some l') (k : Gd p e below P T (mkF m pn l' (st))) : Gd p e below P T (mkF m pc Ls (v :: st)) := by
  obtain ⟨hd, rfl⟩ := hd
  exact k.imp fun t q => ⟨XS.astoreN X.here hx rfl (hb hby hd) rfl hv hl q.1, q.2⟩
theorem g_astore (X : Stand p l e R s m args below meth c T locs cells slots) (hx : p.tables.exec = Jvm.exec) (hby : c.code = code) {k : Nat} {v : Value} {l' : Array Slot} (hd : Ins1 code pc (.astore k) 2 pn) (hv : v.isRef = true) (hl : storeLocals Ls k v = some l') (k : Gd p e below P T (mkF m pn l' (st))) : Gd p e below P T (mkF m pc Ls (v :: st)) := by
  obtain ⟨hd, rfl⟩ := hd
  exact k.imp fun t q => ⟨XS.astore X.here hx rfl (hb hby hd) rfl hv hl q.1, q.2⟩
theorem g_iconst (X : Stand p l e R s m args below meth c T locs cells slots) (hx : p.tables.exec = Jvm.exec) (hby : c.code = code) {i : Int} {z : Int32} (hd : Ins1 code pc (.iconst i) 1 pn) (hz : Int32.ofInt i = z) (k : Gd p e below P T (mkF m pn Ls (.int z :: st))) : Gd p e below P T (mkF m pc Ls st) := by
  obtain ⟨hd, rfl⟩ := hd
  subst hz
  exact k.imp fun t q => ⟨XS.iconst X.here hx rfl (hb hby hd) q.1, q.2⟩
theorem g_bipush (X : Stand p l e R s m args below meth c T locs cells slots) (hx : p.tables.exec = Jvm.exec) (hby : c.code = code) {i : Int} {z : Int32} (hd : Ins1 code pc (.bipush i) 2 pn) (hz : (Int8.ofInt i).toInt32 = z) (k : Gd p e below P T (mkF m pn Ls (.int z :: st))) : Gd p e below P T (mkF m pc Ls st) := by
  obtain ⟨hd, rfl⟩ := hd
  subst hz
  exact k.imp fun t q => ⟨XS.bipush X.here hx rfl (hb hby hd) q.1, q.2⟩
theorem g_sipush (X : Stand p l e R s m args below meth c T locs cells slots) (hx : p.tables.exec = Jvm.exec) (hby : c.code = code) {i : Int} {z : Int32} (hd : Ins1 code pc (.sipush i) 3 pn) (hz : (Int16.ofInt i).toInt32 = z) (k : Gd p e below P T (mkF m pn Ls (.int z :: st))) : Gd p e below P T (mkF m pc Ls st) := by
  obtain ⟨hd, rfl⟩ := hd
  subst hz
  exact k.imp fun t q => ⟨XS.sipush X.here hx rfl (hb hby hd) q.1, q.2⟩
theorem g_lconst (X : Stand p l e R s m args below meth c T locs cells slots) (hx : p.tables.exec = Jvm.exec) (hby : c.code = code) {i : Fin 2} {z : Int64} (hd : Ins1 code pc (.lconst i) 1 pn) (hz : Int64.ofNat i = z) (k : Gd p e below P T (mkF m pn Ls (.long z :: st))) : Gd p e below P T (mkF m pc Ls st) := by
  obtain ⟨hd, rfl⟩ := hd
  subst hz
  exact k.imp fun t q => ⟨XS.lconst X.here hx rfl (hb hby hd) q.1, q.2⟩
theorem g_aconst_null (X : Stand p l e R s m args below meth c T locs cells slots) (hx : p.tables.exec = Jvm.exec) (hby : c.code = code)  (hd : Ins1 code pc (.aconst_null) 1 pn) (k : Gd p e below P T (mkF m pn Ls (.null :: st))) : Gd p e below P T (mkF m pc Ls (st)) := by
  obtain ⟨hd, rfl⟩ := hd
  exact k.imp fun t q => ⟨XS.aconstNull X.here hx rfl (hb hby hd)  q.1, q.2⟩
theorem g_iadd (X : Stand p l e R s m args below meth c T locs cells slots) (hx : p.tables.exec = Jvm.exec) (hby : c.code = code) {x y : Int32} (hd : Ins1 code pc (.iadd) 1 pn) (k : Gd p e below P T (mkF m pn Ls (.int (x + y) :: st))) : Gd p e below P T (mkF m pc Ls (.int y :: .int x :: st)) := by
  obtain ⟨hd, rfl⟩ := hd
  exact k.imp fun t q => ⟨XS.iadd X.here hx rfl (hb hby hd) rfl q.1, q.2⟩
theorem g_isub (X : Stand p l e R s m args below meth c T locs cells slots) (hx : p.tables.exec = Jvm.exec) (hby : c.code = code) {x y : Int32} (hd : Ins1 code pc (.isub) 1 pn) (k : Gd p e below P T (mkF m pn Ls (.int (x - y) :: st))) : Gd p e below P T (mkF m pc Ls (.int y :: .int x :: st)) := by
  obtain ⟨hd, rfl⟩ := hd
  exact k.imp fun t q => ⟨XS.isub X.here hx rfl (hb hby hd) rfl q.1, q.2⟩
theorem g_imul (X : Stand p l e R s m args below meth c T locs cells slots) (hx : p.tables.exec = Jvm.exec) (hby : c.code = code) {x y : Int32} (hd : Ins1 code pc (.imul) 1 pn) (k : Gd p e below P T (mkF m pn Ls (.int (x * y) :: st))) : Gd p e below P T (mkF m pc Ls (.int y :: .int x :: st)) := by
  obtain ⟨hd, rfl⟩ := hd
  exact k.imp fun t q => ⟨XS.imul X.here hx rfl (hb hby hd) rfl q.1, q.2⟩
theorem g_iand (X : Stand p l e R s m args below meth c T locs cells slots) (hx : p.tables.exec = Jvm.exec) (hby : c.code = code) {x y : Int32} (hd : Ins1 code pc (.iand) 1 pn) (k : Gd p e below P T (mkF m pn Ls (.int (x &&& y) :: st))) : Gd p e below P T (mkF m pc Ls (.int y :: .int x :: st)) := by
  obtain ⟨hd, rfl⟩ := hd
  exact k.imp fun t q => ⟨XS.iand X.here hx rfl (hb hby hd) rfl q.1, q.2⟩
theorem g_ior (X : Stand p l e R s m args below meth c T locs cells slots) (hx : p.tables.exec = Jvm.exec) (hby : c.code = code) {x y : Int32} (hd : Ins1 code pc (.ior) 1 pn) (k : Gd p e below P T (mkF m pn Ls (.int (x ||| y) :: st))) : Gd p e below P T (mkF m pc Ls (.int y :: .int x :: st)) := by
  obtain ⟨hd, rfl⟩ := hd
  exact k.imp fun t q => ⟨XS.ior X.here hx rfl (hb hby hd) rfl q.1, q.2⟩
theorem g_ladd (X : Stand p l e R s m args below meth c T locs cells slots) (hx : p.tables.exec = Jvm.exec) (hby : c.code = code) {x y : Int64} (hd : Ins1 code pc (.ladd) 1 pn) (k : Gd p e below P T (mkF m pn Ls (.long (x + y) :: st))) : Gd p e below P T (mkF m pc Ls (.long y :: .long x :: st)) := by
  obtain ⟨hd, rfl⟩ := hd
  exact k.imp fun t q => ⟨XS.ladd X.here hx rfl (hb hby hd) rfl q.1, q.2⟩
theorem g_lsub (X : Stand p l e R s m args below meth c T locs cells slots) (hx : p.tables.exec = Jvm.exec) (hby : c.code = code) {x y : Int64} (hd : Ins1 code pc (.lsub) 1 pn) (k : Gd p e below P T (mkF m pn Ls (.long (x - y) :: st))) : Gd p e below P T (mkF m pc Ls (.long y :: .long x :: st)) := by
  obtain ⟨hd, rfl⟩ := hd
  exact k.imp fun t q => ⟨XS.lsub X.here hx rfl (hb hby hd) rfl q.1, q.2⟩
theorem g_lmul (X : Stand p l e R s m args below meth c T locs cells slots) (hx : p.tables.exec = Jvm.exec) (hby : c.code = code) {x y : Int64} (hd : Ins1 code pc (.lmul) 1 pn) (k : Gd p e below P T (mkF m pn Ls (.long (x * y) :: st))) : Gd p e below P T (mkF m pc Ls (.long y :: .long x :: st)) := by
  obtain ⟨hd, rfl⟩ := hd
  exact k.imp fun t q => ⟨XS.lmul X.here hx rfl (hb hby hd) rfl q.1, q.2⟩
theorem g_iushr (X : Stand p l e R s m args below meth c T locs cells slots) (hx : p.tables.exec = Jvm.exec) (hby : c.code = code) {x : Int32} {y : Int32} (hd : Ins1 code pc (.iushr) 1 pn) (k : Gd p e below P T (mkF m pn Ls (.int ((x.toUInt32 >>> (y &&& 31).toUInt32).toInt32) :: st))) : Gd p e below P T (mkF m pc Ls (.int y :: .int x :: st)) := by
  obtain ⟨hd, rfl⟩ := hd
  exact k.imp fun t q => ⟨XS.iushr X.here hx rfl (hb hby hd) rfl q.1, q.2⟩
theorem g_i2l (X : Stand p l e R s m args below meth c T locs cells slots) (hx : p.tables.exec = Jvm.exec) (hby : c.code = code) {x : Int32} (hd : Ins1 code pc (.i2l) 1 pn) (k : Gd p e below P T (mkF m pn Ls (.long x.toInt64 :: st))) : Gd p e below P T (mkF m pc Ls (.int x :: st)) := by
  obtain ⟨hd, rfl⟩ := hd
  exact k.imp fun t q => ⟨XS.i2l X.here hx rfl (hb hby hd) rfl q.1, q.2⟩
theorem g_l2i (X : Stand p l e R s m args below meth c T locs cells slots) (hx : p.tables.exec = Jvm.exec) (hby : c.code = code) {x : Int64} (hd : Ins1 code pc (.l2i) 1 pn) (k : Gd p e below P T (mkF m pn Ls (.int x.toInt32 :: st))) : Gd p e below P T (mkF m pc Ls (.long x :: st)) := by
  obtain ⟨hd, rfl⟩ := hd
  exact k.imp fun t q => ⟨XS.l2i X.here hx rfl (hb hby hd) rfl q.1, q.2⟩
theorem g_i2b (X : Stand p l e R s m args below meth c T locs cells slots) (hx : p.tables.exec = Jvm.exec) (hby : c.code = code) {x : Int32} (hd : Ins1 code pc (.i2b) 1 pn) (k : Gd p e below P T (mkF m pn Ls (.int x.toInt8.toInt32 :: st))) : Gd p e below P T (mkF m pc Ls (.int x :: st)) := by
  obtain ⟨hd, rfl⟩ := hd
  exact k.imp fun t q => ⟨XS.i2b X.here hx rfl (hb hby hd) rfl q.1, q.2⟩
theorem g_irem (X : Stand p l e R s m args below meth c T locs cells slots) (hx : p.tables.exec = Jvm.exec) (hby : c.code = code) {x y : Int32} (hd : Ins1 code pc .irem 1 pn) (hy : y ≠ 0) (k : Gd p e below P T (mkF m pn Ls (.int (x % y) :: st))) : Gd p e below P T (mkF m pc Ls (.int y :: .int x :: st)) := by
  obtain ⟨hd, rfl⟩ := hd
  exact k.imp fun t q => ⟨iremM X hx rfl (hb hby hd) rfl hy q.1, q.2⟩
theorem g_dup (X : Stand p l e R s m args below meth c T locs cells slots) (hx : p.tables.exec = Jvm.exec) (hby : c.code = code) {x : Value} (hd : Ins1 code pc (.dup) 1 pn) (hc : x.category = 1) (k : Gd p e below P T (mkF m pn Ls (x :: x :: st))) : Gd p e below P T (mkF m pc Ls (x :: st)) := by
  obtain ⟨hd, rfl⟩ := hd
  exact k.imp fun t q => ⟨XS.dup X.here hx rfl (hb hby hd) rfl hc q.1, q.2⟩
theorem g_pop (X : Stand p l e R s m args below meth c T locs cells slots) (hx : p.tables.exec = Jvm.exec) (hby : c.code = code) {x : Value} (hd : Ins1 code pc (.pop) 1 pn) (hc : x.category = 1) (k : Gd p e below P T (mkF m pn Ls (st))) : Gd p e below P T (mkF m pc Ls (x :: st)) := by
  obtain ⟨hd, rfl⟩ := hd
  exact k.imp fun t q => ⟨XS.pop X.here hx rfl (hb hby hd) rfl hc q.1, q.2⟩
theorem g_dup_x1 (X : Stand p l e R s m args below meth c T locs cells slots) (hx : p.tables.exec = Jvm.exec) (hby : c.code = code) {x y : Value} (hd : Ins1 code pc (.dup_x1) 1 pn) (hc : x.category = 1) (hc2 : y.category = 1) (k : Gd p e below P T (mkF m pn Ls (x :: y :: x :: st))) : Gd p e below P T (mkF m pc Ls (x :: y :: st)) := by
  obtain ⟨hd, rfl⟩ := hd
  exact k.imp fun t q => ⟨XS.dupX1 X.here hx rfl (hb hby hd) rfl hc hc2 q.1, q.2⟩
theorem g_lcmp (X : Stand p l e R s m args below meth c T locs cells slots) (hx : p.tables.exec = Jvm.exec) (hby : c.code = code) {x y : Int64} (hd : Ins1 code pc (.lcmp) 1 pn) (k : Gd p e below P T (mkF m pn Ls (.int (lcmpW x y) :: st))) : Gd p e below P T (mkF m pc Ls (.long y :: .long x :: st)) := by
  obtain ⟨hd, rfl⟩ := hd
  exact k.imp fun t q => ⟨XS.lcmp X.here hx rfl (hb hby hd) rfl q.1, q.2⟩
theorem g_goto (X : Stand p l e R s m args below meth c T locs cells slots) (hx : p.tables.exec = Jvm.exec) (hby : c.code = code) {o : Int} (hd : InsB code pc (.goto o) o pn pt) (k : Gd p e below P T (mkF m pt Ls st)) : Gd p e below P T (mkF m pc Ls st) := by
  obtain ⟨hd, -, ho, hp⟩ := hd
  exact k.imp fun t q => ⟨XS.goto X.here hx rfl rfl (hb hby hd) ho hp q.1, q.2⟩
theorem g_icmp_lt (X : Stand p l e R s m args below meth c T locs cells slots) (hx : p.tables.exec = Jvm.exec) (hby : c.code = code) {x y : Int32} {o : Int} (hd : InsB code pc (.if_icmp .lt o) o pn pt) (ky : x < y → Gd p e below P T (mkF m pt Ls st)) (kn : ¬ x < y → Gd p e below P T (mkF m pn Ls st)) : Gd p e below P T (mkF m pc Ls (.int y :: .int x :: st)) := by
  obtain ⟨hd, rfl, ho, hp⟩ := hd
  by_cases w : x < y
  · exact (ky w).imp fun t q => ⟨XS.icmpYes X.here hx rfl rfl (hb hby hd) rfl (tlt w).1 ho hp q.1, q.2⟩
  · exact (kn w).imp fun t q => ⟨XS.icmpNo X.here hx rfl (hb hby hd) rfl (flt w).1 q.1, q.2⟩
theorem g_if_lt (X : Stand p l e R s m args below meth c T locs cells slots) (hx : p.tables.exec = Jvm.exec) (hby : c.code = code) {x : Int32} {o : Int} (hd : InsB code pc (.ifCond .lt o) o pn pt) (ky : x < 0 → Gd p e below P T (mkF m pt Ls st)) (kn : ¬ x < 0 → Gd p e below P T (mkF m pn Ls st)) : Gd p e below P T (mkF m pc Ls (.int x :: st)) := by
  obtain ⟨hd, rfl, ho, hp⟩ := hd
  by_cases w : x < 0
  · exact (ky w).imp fun t q => ⟨XS.ifYes X.here hx rfl rfl (hb hby hd) rfl ((if0 _ _).trans (tlt w).1) ho hp q.1, q.2⟩
  · exact (kn w).imp fun t q => ⟨XS.ifNo X.here hx rfl (hb hby hd) rfl ((if0 _ _).trans (flt w).1) q.1, q.2⟩
theorem g_lcmp_lt (X : Stand p l e R s m args below meth c T locs cells slots) (hx : p.tables.exec = Jvm.exec) (hby : c.code = code) {x y : Int64} {o : Int} {pc1 : Nat} (hc : Ins1 code pc .lcmp 1 pc1) (hd : InsB code pc1 (.ifCond .lt o) o pn pt) (ky : x < y → Gd p e below P T (mkF m pt Ls st)) (kn : ¬ x < y → Gd p e below P T (mkF m pn Ls st)) : Gd p e below P T (mkF m pc Ls (.long y :: .long x :: st)) :=
  g_lcmp X hx hby hc (g_if_lt X hx hby hd (fun w => ky ((lw_lt x y).mp w)) (fun w => kn (fun q => w ((lw_lt x y).mpr q))))
theorem g_icmp_ge (X : Stand p l e R s m args below meth c T locs cells slots) (hx : p.tables.exec = Jvm.exec) (hby : c.code = code) {x y : Int32} {o : Int} (hd : InsB code pc (.if_icmp .ge o) o pn pt) (ky : ¬ x < y → Gd p e below P T (mkF m pt Ls st)) (kn : x < y → Gd p e below P T (mkF m pn Ls st)) : Gd p e below P T (mkF m pc Ls (.int y :: .int x :: st)) := by
  obtain ⟨hd, rfl, ho, hp⟩ := hd
  by_cases w : x < y
  · exact (kn w).imp fun t q => ⟨XS.icmpNo X.here hx rfl (hb hby hd) rfl (tlt w).2.1 q.1, q.2⟩
  · exact (ky w).imp fun t q => ⟨XS.icmpYes X.here hx rfl rfl (hb hby hd) rfl (flt w).2.1 ho hp q.1, q.2⟩
theorem g_if_ge (X : Stand p l e R s m args below meth c T locs cells slots) (hx : p.tables.exec = Jvm.exec) (hby : c.code = code) {x : Int32} {o : Int} (hd : InsB code pc (.ifCond .ge o) o pn pt) (ky : ¬ x < 0 → Gd p e below P T (mkF m pt Ls st)) (kn : x < 0 → Gd p e below P T (mkF m pn Ls st)) : Gd p e below P T (mkF m pc Ls (.int x :: st)) := by
  obtain ⟨hd, rfl, ho, hp⟩ := hd
  by_cases w : x < 0
  · exact (kn w).imp fun t q => ⟨XS.ifNo X.here hx rfl (hb hby hd) rfl ((if0 _ _).trans (tlt w).2.1) q.1, q.2⟩
  · exact (ky w).imp fun t q => ⟨XS.ifYes X.here hx rfl rfl (hb hby hd) rfl ((if0 _ _).trans (flt w).2.1) ho hp q.1, q.2⟩
theorem g_lcmp_ge (X : Stand p l e R s m args below meth c T locs cells slots) (hx : p.tables.exec = Jvm.exec) (hby : c.code = code) {x y : Int64} {o : Int} {pc1 : Nat} (hc : Ins1 code pc .lcmp 1 pc1) (hd : InsB code pc1 (.ifCond .ge o) o pn pt) (ky : ¬ x < y → Gd p e below P T (mkF m pt Ls st)) (kn : x < y → Gd p e below P T (mkF m pn Ls st)) : Gd p e below P T (mkF m pc Ls (.long y :: .long x :: st)) :=
  g_lcmp X hx hby hc (g_if_ge X hx hby hd (fun w => ky (fun q => w ((lw_lt x y).mpr q))) (fun w => kn ((lw_lt x y).mp w)))
theorem g_icmp_gt (X : Stand p l e R s m args below meth c T locs cells slots) (hx : p.tables.exec = Jvm.exec) (hby : c.code = code) {x y : Int32} {o : Int} (hd : InsB code pc (.if_icmp .gt o) o pn pt) (ky : y < x → Gd p e below P T (mkF m pt Ls st)) (kn : ¬ y < x → Gd p e below P T (mkF m pn Ls st)) : Gd p e below P T (mkF m pc Ls (.int y :: .int x :: st)) := by
  obtain ⟨hd, rfl, ho, hp⟩ := hd
  by_cases w : y < x
  · exact (ky w).imp fun t q => ⟨XS.icmpYes X.here hx rfl rfl (hb hby hd) rfl (tlt w).2.2.1 ho hp q.1, q.2⟩
  · exact (kn w).imp fun t q => ⟨XS.icmpNo X.here hx rfl (hb hby hd) rfl (flt w).2.2.1 q.1, q.2⟩
theorem g_icmp_le (X : Stand p l e R s m args below meth c T locs cells slots) (hx : p.tables.exec = Jvm.exec) (hby : c.code = code) {x y : Int32} {o : Int} (hd : InsB code pc (.if_icmp .le o) o pn pt) (ky : ¬ y < x → Gd p e below P T (mkF m pt Ls st)) (kn : y < x → Gd p e below P T (mkF m pn Ls st)) : Gd p e below P T (mkF m pc Ls (.int y :: .int x :: st)) := by
  obtain ⟨hd, rfl, ho, hp⟩ := hd
  by_cases w : y < x
  · exact (kn w).imp fun t q => ⟨XS.icmpNo X.here hx rfl (hb hby hd) rfl (tlt w).2.2.2 q.1, q.2⟩
  · exact (ky w).imp fun t q => ⟨XS.icmpYes X.here hx rfl rfl (hb hby hd) rfl (flt w).2.2.2 ho hp q.1, q.2⟩
theorem g_if_le (X : Stand p l e R s m args below meth c T locs cells slots) (hx : p.tables.exec = Jvm.exec) (hby : c.code = code) {x : Int32} {o : Int} (hd : InsB code pc (.ifCond .le o) o pn pt) (ky : ¬ 0 < x → Gd p e below P T (mkF m pt Ls st)) (kn : 0 < x → Gd p e below P T (mkF m pn Ls st)) : Gd p e below P T (mkF m pc Ls (.int x :: st)) := by
  obtain ⟨hd, rfl, ho, hp⟩ := hd
  by_cases w : 0 < x
  · exact (kn w).imp fun t q => ⟨XS.ifNo X.here hx rfl (hb hby hd) rfl ((if0 _ _).trans (tlt w).2.2.2) q.1, q.2⟩
  · exact (ky w).imp fun t q => ⟨XS.ifYes X.here hx rfl rfl (hb hby hd) rfl ((if0 _ _).trans (flt w).2.2.2) ho hp q.1, q.2⟩
theorem g_lcmp_le (X : Stand p l e R s m args below meth c T locs cells slots) (hx : p.tables.exec = Jvm.exec) (hby : c.code = code) {x y : Int64} {o : Int} {pc1 : Nat} (hc : Ins1 code pc .lcmp 1 pc1) (hd : InsB code pc1 (.ifCond .le o) o pn pt) (ky : ¬ y < x → Gd p e below P T (mkF m pt Ls st)) (kn : y < x → Gd p e below P T (mkF m pn Ls st)) : Gd p e below P T (mkF m pc Ls (.long y :: .long x :: st)) :=
  g_lcmp X hx hby hc (g_if_le X hx hby hd (fun w => ky (fun q => w ((lw_gt x y).mpr q))) (fun w => kn ((lw_gt x y).mp w)))
theorem g_icmp_eq (X : Stand p l e R s m args below meth c T locs cells slots) (hx : p.tables.exec = Jvm.exec) (hby : c.code = code) {x y : Int32} {o : Int} (hd : InsB code pc (.if_icmp .eq o) o pn pt) (ky : x = y → Gd p e below P T (mkF m pt Ls st)) (kn : ¬ x = y → Gd p e below P T (mkF m pn Ls st)) : Gd p e below P T (mkF m pc Ls (.int y :: .int x :: st)) := by
  obtain ⟨hd, rfl, ho, hp⟩ := hd
  by_cases w : x = y
  · exact (ky w).imp fun t q => ⟨XS.icmpYes X.here hx rfl rfl (hb hby hd) rfl (teq w).1 ho hp q.1, q.2⟩
  · exact (kn w).imp fun t q => ⟨XS.icmpNo X.here hx rfl (hb hby hd) rfl (feq w).1 q.1, q.2⟩
theorem g_if_eq (X : Stand p l e R s m args below meth c T locs cells slots) (hx : p.tables.exec = Jvm.exec) (hby : c.code = code) {x : Int32} {o : Int} (hd : InsB code pc (.ifCond .eq o) o pn pt) (ky : x = 0 → Gd p e below P T (mkF m pt Ls st)) (kn : ¬ x = 0 → Gd p e below P T (mkF m pn Ls st)) : Gd p e below P T (mkF m pc Ls (.int x :: st)) := by
  obtain ⟨hd, rfl, ho, hp⟩ := hd
  by_cases w : x = 0
  · exact (ky w).imp fun t q => ⟨XS.ifYes X.here hx rfl rfl (hb hby hd) rfl ((if0 _ _).trans (teq w).1) ho hp q.1, q.2⟩
  · exact (kn w).imp fun t q => ⟨XS.ifNo X.here hx rfl (hb hby hd) rfl ((if0 _ _).trans (feq w).1) q.1, q.2⟩
theorem g_lcmp_eq (X : Stand p l e R s m args below meth c T locs cells slots) (hx : p.tables.exec = Jvm.exec) (hby : c.code = code) {x y : Int64} {o : Int} {pc1 : Nat} (hc : Ins1 code pc .lcmp 1 pc1) (hd : InsB code pc1 (.ifCond .eq o) o pn pt) (ky : x = y → Gd p e below P T (mkF m pt Ls st)) (kn : ¬ x = y → Gd p e below P T (mkF m pn Ls st)) : Gd p e below P T (mkF m pc Ls (.long y :: .long x :: st)) :=
  g_lcmp X hx hby hc (g_if_eq X hx hby hd (fun w => ky ((lw_eq x y).mp w)) (fun w => kn (fun q => w ((lw_eq x y).mpr q))))
theorem g_icmp_ne (X : Stand p l e R s m args below meth c T locs cells slots) (hx : p.tables.exec = Jvm.exec) (hby : c.code = code) {x y : Int32} {o : Int} (hd : InsB code pc (.if_icmp .ne o) o pn pt) (ky : ¬ x = y → Gd p e below P T (mkF m pt Ls st)) (kn : x = y → Gd p e below P T (mkF m pn Ls st)) : Gd p e below P T (mkF m pc Ls (.int y :: .int x :: st)) := by
  obtain ⟨hd, rfl, ho, hp⟩ := hd
  by_cases w : x = y
  · exact (kn w).imp fun t q => ⟨XS.icmpNo X.here hx rfl (hb hby hd) rfl (teq w).2 q.1, q.2⟩
  · exact (ky w).imp fun t q => ⟨XS.icmpYes X.here hx rfl rfl (hb hby hd) rfl (feq w).2 ho hp q.1, q.2⟩
theorem g_if_ne (X : Stand p l e R s m args below meth c T locs cells slots) (hx : p.tables.exec = Jvm.exec) (hby : c.code = code) {x : Int32} {o : Int} (hd : InsB code pc (.ifCond .ne o) o pn pt) (ky : ¬ x = 0 → Gd p e below P T (mkF m pt Ls st)) (kn : x = 0 → Gd p e below P T (mkF m pn Ls st)) : Gd p e below P T (mkF m pc Ls (.int x :: st)) := by
  obtain ⟨hd, rfl, ho, hp⟩ := hd
  by_cases w : x = 0
  · exact (kn w).imp fun t q => ⟨XS.ifNo X.here hx rfl (hb hby hd) rfl ((if0 _ _).trans (teq w).2) q.1, q.2⟩
  · exact (ky w).imp fun t q => ⟨XS.ifYes X.here hx rfl rfl (hb hby hd) rfl ((if0 _ _).trans (feq w).2) ho hp q.1, q.2⟩
theorem g_lcmp_ne (X : Stand p l e R s m args below meth c T locs cells slots) (hx : p.tables.exec = Jvm.exec) (hby : c.code = code) {x y : Int64} {o : Int} {pc1 : Nat} (hc : Ins1 code pc .lcmp 1 pc1) (hd : InsB code pc1 (.ifCond .ne o) o pn pt) (ky : ¬ x = y → Gd p e below P T (mkF m pt Ls st)) (kn : x = y → Gd p e below P T (mkF m pn Ls st)) : Gd p e below P T (mkF m pc Ls (.long y :: .long x :: st)) :=
  g_lcmp X hx hby hc (g_if_ne X hx hby hd (fun w => ky (fun q => w ((lw_eq x y).mpr q))) (fun w => kn ((lw_eq x y).mp w)))
theorem g_acmp_eq (X : Stand p l e R s m args below meth c T locs cells slots) (hx : p.tables.exec = Jvm.exec) (hby : c.code = code) {o : Int} {x y : Value} (hd : InsB code pc (.if_acmp .eq o) o pn pt) (h1 : x.isRef = true) (h2 : y.isRef = true) (ky : x = y → Gd p e below P T (mkF m pt Ls st)) (kn : ¬ x = y → Gd p e below P T (mkF m pn Ls st)) : Gd p e below P T (mkF m pc Ls (y :: x :: st)) := by
  obtain ⟨hd, hn, ho, hp⟩ := hd
  by_cases w : x = y
  · exact (ky w).imp fun t q => ⟨Jvm.RoadKit.acmp (g := mkF m pc Ls (y :: x :: st)) X hx rfl h1 h2 rfl (hb hby hd) rfl (same := true) (decide_eq_true w) ho (by show _ = ((pc : Int) + o).toNat; exact hp.symm) q.1, q.2⟩
  · exact (kn w).imp fun t q => ⟨Jvm.RoadKit.acmp (g := mkF m pc Ls (y :: x :: st)) X hx rfl h1 h2 rfl (hb hby hd) rfl (same := false) (decide_eq_false w) ho (by show _ = pc + 3; exact hn.symm) q.1, q.2⟩
theorem g_acmp_ne (X : Stand p l e R s m args below meth c T locs cells slots) (hx : p.tables.exec = Jvm.exec) (hby : c.code = code) {o : Int} {x y : Value} (hd : InsB code pc (.if_acmp .ne o) o pn pt) (h1 : x.isRef = true) (h2 : y.isRef = true) (ky : ¬ x = y → Gd p e below P T (mkF m pt Ls st)) (kn : x = y → Gd p e below P T (mkF m pn Ls st)) : Gd p e below P T (mkF m pc Ls (y :: x :: st)) := by
  obtain ⟨hd, hn, ho, hp⟩ := hd
  by_cases w : x = y
  · exact (kn w).imp fun t q => ⟨Jvm.RoadKit.acmp (g := mkF m pc Ls (y :: x :: st)) X hx rfl h1 h2 rfl (hb hby hd) rfl (same := true) (decide_eq_true w) ho (by show _ = pc + 3; exact hn.symm) q.1, q.2⟩
  · exact (ky w).imp fun t q => ⟨Jvm.RoadKit.acmp (g := mkF m pc Ls (y :: x :: st)) X hx rfl h1 h2 rfl (hb hby hd) rfl (same := false) (decide_eq_false w) ho (by show _ = ((pc : Int) + o).toNat; exact hp.symm) q.1, q.2⟩
theorem g_ldcInt (X : Stand p l e R s m args below meth c T locs cells slots) (hx : p.tables.exec = Jvm.exec) (hby : c.code = code) (hZ : Z.Warmed39 s.vm) {own : String} (hown : s.vm.findClass own = some m.cls) {i : Nat} {v : Int32} (w : (Jvm.Cond.constant own i v).before a0 Z = true) (hd : Ins1 code pc (.ldc i) 2 pn) (k : Gd p e below P T (mkF m pn Ls (.int v :: st))) : Gd p e below P T (mkF m pc Ls st) := by
  obtain ⟨hd, rfl⟩ := hd
  exact k.imp fun t q => ⟨X.ldcInt hx hown (mvT hZ w) (g := mkF m pc Ls st) rfl (hb hby hd) _ q.1, q.2⟩
theorem g_ldc2Long (X : Stand p l e R s m args below meth c T locs cells slots) (hx : p.tables.exec = Jvm.exec) (hby : c.code = code) (hZ : Z.Warmed39 s.vm) {own : String} (hown : s.vm.findClass own = some m.cls) {i : Nat} {v : Int64} (w : (Jvm.Cond.constantLong own i v).before a0 Z = true) (hd : Ins1 code pc (.ldc2_w i) 3 pn) (k : Gd p e below P T (mkF m pn Ls (.long v :: st))) : Gd p e below P T (mkF m pc Ls st) := by
  obtain ⟨hd, rfl⟩ := hd
  exact k.imp fun t q => ⟨X.ldc2Long hx hown (mvT hZ w) (g := mkF m pc Ls st) rfl (hb hby hd) _ q.1, q.2⟩
theorem g_getfield (X : Stand p l e R s m args below meth c T locs cells slots) (hx : p.tables.exec = Jvm.exec) (hby : c.code = code) (hZ : Z.Warmed39 s.vm) {own R0 O n d host : String} {index : Nat} (hown : s.vm.findClass own = some m.cls) (w : (Jvm.Cond.fieldLink own index R0 n d).before a0 Z = true ∨ (Jvm.Cond.fieldLinkNest own index R0 n d host).before a0 Z = true) (via : Via Z R0 O n d) (eT : T.heap = h) {a : Addr} {v : Value} (F : Fld Z h a O n d v) (hd : Ins1 code pc (.getfield index) 3 pn)
    (k : ∀ T', Stand p l e R s m args below meth c T' locs cells slots → T'.heap = h → Gd p e below P T' (mkF m pn Ls (v :: st))) : Gd p e below P T (mkF m pc Ls (.ref a :: st)) := by
  obtain ⟨hd, rfl⟩ := hd
  obtain ⟨T', X', e', stp⟩ := getF X hx hZ hown w via eT F (g := mkF m pc Ls (.ref a :: st)) rfl rfl (hb hby hd)
  exact (k T' X' e').of stp
theorem g_getstatic (X : Stand p l e R s m args below meth c T locs cells slots) (hx : p.tables.exec = Jvm.exec) (hby : c.code = code) (hZ : Z.Warmed39 s.vm) {own R0 O n d host : String} {index : Nat} (hown : s.vm.findClass own = some m.cls) (w : (Jvm.Cond.fieldLink own index R0 n d).before a0 Z = true ∨ (Jvm.Cond.fieldLinkNest own index R0 n d host).before a0 Z = true) (via : Via Z R0 O n d) (eT : T.heap = h) {v : Value} (F : Sta Z h O n d v) (hd : Ins1 code pc (.getstatic index) 3 pn)
    (k : ∀ T', Stand p l e R s m args below meth c T' locs cells slots → T'.heap = h → Gd p e below P T' (mkF m pn Ls (v :: st))) : Gd p e below P T (mkF m pc Ls st) := by
  obtain ⟨hd, rfl⟩ := hd
  obtain ⟨T', X', e', stp⟩ := getS2 X hx hZ hown w via eT F (g := mkF m pc Ls st) rfl (hb hby hd)
  exact (k T' X' e').of stp
theorem g_putfield (X : Stand p l e R s m args below meth c T locs cells slots) (hx : p.tables.exec = Jvm.exec) (hby : c.code = code) (hZ : Z.Warmed39 s.vm) {own R0 O n d host C : String} {index kk : Nat} {ty : FieldType} (hown : s.vm.findClass own = some m.cls) (w : (Jvm.Cond.fieldLink own index R0 n d).before a0 Z = true ∨ (Jvm.Cond.fieldLinkNest own index R0 n d host).before a0 Z = true) (via : Via Z R0 O n d) (eT : T.heap = h) {a : Addr} {v old : Value} (F : Fld Z h a O n d old) (E : Exa Z h a C)
    (L : (Jvm.Cond.lays C O n d).before a0 Z = true ∨ ((Jvm.Cond.laysFinal C O n d).before a0 Z = true ∧ own = O ∧ meth.name = "<init>")) (wi : (Jvm.Cond.instantiable C kk).before a0 Z = true) (hty : parseFieldDescriptor d = some ty) (hn : narrow ty v = v) (hf : fits ty v = true) (hd : Ins1 code pc (.putfield index) 3 pn)
    (k : ∀ T' h', Stand p l e R s m args below meth c T' (locs ++ [⟨a, Jvm.RoadKit.slotOf Z O n d⟩]) cells slots → T'.heap = h' → Wr h h' a (Jvm.RoadKit.slotOf Z O n d) v → Gd p e below P T' (mkF m pn Ls st)) : Gd p e below P T (mkF m pc Ls (v :: .ref a :: st)) := by
  obtain ⟨hd, rfl⟩ := hd
  obtain ⟨T', h', X', e', W, stp⟩ := putF X hx hZ hown w via eT F E L wi hty hn hf (g := mkF m pc Ls (v :: .ref a :: st)) rfl rfl (hb hby hd)
  exact (k T' h' X' e' W).of stp
theorem g_putfieldN (X : Stand p l e R s m args below meth c T locs cells slots) (hx : p.tables.exec = Jvm.exec) (hby : c.code = code) (hZ : Z.Warmed39 s.vm) {own R0 O n d C : String} {index kk : Nat} {ty : FieldType} (hown : s.vm.findClass own = some m.cls) (w : (Jvm.Cond.fieldLink own index R0 n d).before a0 Z = true) (via : Via Z R0 O n d) (eT : T.heap = h) {a : Addr} {v v' old : Value} (F : Fld Z h a O n d old) (E : Exa Z h a C)
    (L : (Jvm.Cond.lays C O n d).before a0 Z = true ∨ ((Jvm.Cond.laysFinal C O n d).before a0 Z = true ∧ own = O ∧ meth.name = "<init>")) (wi : (Jvm.Cond.instantiable C kk).before a0 Z = true) (hty : parseFieldDescriptor d = some ty) (hn : narrow ty v = v') (hf : fits ty v' = true) (hd : Ins1 code pc (.putfield index) 3 pn)
    (k : ∀ T' h', Stand p l e R s m args below meth c T' (locs ++ [⟨a, Jvm.RoadKit.slotOf Z O n d⟩]) cells slots → T'.heap = h' → Wr h h' a (Jvm.RoadKit.slotOf Z O n d) v' → Gd p e below P T' (mkF m pn Ls st)) : Gd p e below P T (mkF m pc Ls (v :: .ref a :: st)) := by
  obtain ⟨hd, rfl⟩ := hd
  obtain ⟨T', h', X', e', W, stp⟩ := putFN X hx hZ hown w via eT F E L wi hty hn hf (g := mkF m pc Ls (v :: .ref a :: st)) rfl rfl (hb hby hd)
  exact (k T' h' X' e' W).of stp
theorem g_new (X : Stand p l e R s m args below meth c T locs cells slots) (hx : p.tables.exec = Jvm.exec) (hby : c.code = code) (hZ : Z.Warmed39 s.vm) {own C : String} {index n : Nat} (hown : s.vm.findClass own = some m.cls) (w : (Jvm.Cond.classLink own index C).before a0 Z = true) (wi : (Jvm.Cond.instantiable C n).before a0 Z = true) (wz : (Jvm.Cond.initialized C).before a0 Z = true) (eT : T.heap = h) (hd : Ins1 code pc (.new index) 3 pn) (hc : cells + 1 ≤ R.cells) (hl : slots + n ≤ R.slots)
    (k : ∀ T' h' b, Stand p l e R s m args below meth c T' locs (cells + 1) (slots + n) → T'.heap = h' → Ext h h' → b = h.size → Exa Z h' b C → (∀ {O nm d : String} {ty : FieldType}, Laid Z a0 C O nm d → parseFieldDescriptor d = some ty → Fld Z h' b O nm d (defaultValue ty)) → Gd p e below P T' (mkF m pn Ls (.ref b :: st))) : Gd p e below P T (mkF m pc Ls st) := by
  obtain ⟨hd, rfl⟩ := hd
  obtain ⟨T', h', X', e', E, A, D, -, stp⟩ := newO X hx hZ hown w wi wz eT (g := mkF m pc Ls st) rfl (hb hby hd) hc hl
  exact (k T' h' _ X' e' E rfl A D).of stp
theorem g_newarray (X : Stand p l e R s m args below meth c T locs cells slots) (hx : p.tables.exec = Jvm.exec) (hby : c.code = code) (hZ : Z.Warmed39 s.vm) {aty : ArrayType} {n : Int32} {ty : FieldType} (hty : newarray.typeOf aty = ty) (w : (Jvm.Cond.arrayClass ty).before a0 Z = true) (eT : T.heap = h) (hd : Ins1 code pc (.newarray aty) 2 pn) (hn : ¬ n < 0) (cap : Nat) (hcap : n.toNatClampNeg ≤ cap) (hb' : cap * 8 ≤ 536870912) (hc : cells + 1 ≤ R.cells) (hl : slots + cap ≤ R.slots)
    (k : ∀ T' h' b cA, Stand p l e R s m args below meth c T' locs (cells + 1) (slots + cap) → T'.heap = h' → Ext h h' → b = h.size → Arv Z h' b cA ty n [] (defaultValue ty) → Gd p e below P T' (mkF m pn Ls (.ref b :: st))) : Gd p e below P T (mkF m pc Ls (.int n :: st)) := by
  obtain ⟨hd, rfl⟩ := hd
  subst hty
  obtain ⟨T', h', cA, X', e', E, A, stp⟩ := newP X hx hZ w eT (g := mkF m pc Ls (.int n :: st)) rfl (hb hby hd) rfl hn hcap hb' hc hl
  exact (k T' h' _ cA X' e' E rfl (Arv.new A hn)).of stp
theorem g_iastore (X : Stand p l e R s m args below meth c T locs cells slots) (hx : p.tables.exec = Jvm.exec) (hby : c.code = code) (hZ : Z.Warmed39 s.vm) (eT : T.heap = h) {a : Addr} {kc : ClassId} {z j : Int32} {vs : List Value} {dv : Value} {x : Int32} (A : Arv Z h a kc .int z vs dv) {i : Nat} (hj0 : ¬ j < 0) (hj : j < z) (hji : j.toNatClampNeg = i) (hil : i < vs.length) (hd : Ins1 code pc .iastore 1 pn)
    (k : ∀ T' h', Stand p l e R s m args below meth c T' (locs ++ [⟨a, i⟩]) cells slots → T'.heap = h' → Wr h h' a i (.int x) → Arv Z h' a kc .int z (vs.set i (.int x)) dv → Gd p e below P T' (mkF m pn Ls st)) : Gd p e below P T (mkF m pc Ls (.int x :: .int j :: .ref a :: st)) := by
  obtain ⟨hd, rfl⟩ := hd
  obtain ⟨cl, Ar, q1, S, N, H, G⟩ := A
  obtain ⟨T', h', X', e', W, stp⟩ := stI X hx hZ eT Ar (j := j) (inb_of S ⟨hj0, hj⟩) (g := mkF m pc Ls (.int x :: .int j :: .ref a :: st)) rfl rfl (hb hby hd)
  have V := Arv.set Ar q1 S N H G rfl W i hji hil
  rw [hji] at X' W
  exact (k T' h' X' e' W V).of stp
theorem g_lastore (X : Stand p l e R s m args below meth c T locs cells slots) (hx : p.tables.exec = Jvm.exec) (hby : c.code = code) (hZ : Z.Warmed39 s.vm) (eT : T.heap = h) {a : Addr} {kc : ClassId} {z j : Int32} {vs : List Value} {dv : Value} {x : Int64} (A : Arv Z h a kc .long z vs dv) {i : Nat} (hj0 : ¬ j < 0) (hj : j < z) (hji : j.toNatClampNeg = i) (hil : i < vs.length) (hd : Ins1 code pc .lastore 1 pn)
    (k : ∀ T' h', Stand p l e R s m args below meth c T' (locs ++ [⟨a, i⟩]) cells slots → T'.heap = h' → Wr h h' a i (.long x) → Arv Z h' a kc .long z (vs.set i (.long x)) dv → Gd p e below P T' (mkF m pn Ls st)) : Gd p e below P T (mkF m pc Ls (.long x :: .int j :: .ref a :: st)) := by
  obtain ⟨hd, rfl⟩ := hd
  obtain ⟨cl, Ar, q1, S, N, H, G⟩ := A
  obtain ⟨T', h', X', e', W, stp⟩ := stJ X hx hZ eT Ar (j := j) (inb_of S ⟨hj0, hj⟩) (g := mkF m pc Ls (.long x :: .int j :: .ref a :: st)) rfl rfl (hb hby hd)
  have V := Arv.set Ar q1 S N H G rfl W i hji hil
  rw [hji] at X' W
  exact (k T' h' X' e' W V).of stp
theorem g_bastore (X : Stand p l e R s m args below meth c T locs cells slots) (hx : p.tables.exec = Jvm.exec) (hby : c.code = code) (hZ : Z.Warmed39 s.vm) (eT : T.heap = h) {a : Addr} {kc : ClassId} {z j : Int32} {vs : List Value} {dv : Value} {x : Int32} (A : Arv Z h a kc .byte z vs dv) {i : Nat} (hj0 : ¬ j < 0) (hj : j < z) (hji : j.toNatClampNeg = i) (hil : i < vs.length) (hd : Ins1 code pc .bastore 1 pn)
    (k : ∀ T' h', Stand p l e R s m args below meth c T' (locs ++ [⟨a, i⟩]) cells slots → T'.heap = h' → Wr h h' a i (.int (nar .byte x)) → Arv Z h' a kc .byte z (vs.set i (.int (nar .byte x))) dv → Gd p e below P T' (mkF m pn Ls st)) : Gd p e below P T (mkF m pc Ls (.int x :: .int j :: .ref a :: st)) := by
  obtain ⟨hd, rfl⟩ := hd
  obtain ⟨cl, Ar, q1, S, N, H, G⟩ := A
  obtain ⟨T', h', X', e', W, stp⟩ := stB X hx hZ eT Ar (j := j) (inb_of S ⟨hj0, hj⟩) (g := mkF m pc Ls (.int x :: .int j :: .ref a :: st)) rfl rfl (hb hby hd)
  have V := Arv.set Ar q1 S N H G (fits_nar_byte x) W i hji hil
  rw [hji] at X' W
  exact (k T' h' X' e' W V).of stp
theorem g_iaload (X : Stand p l e R s m args below meth c T locs cells slots) (hx : p.tables.exec = Jvm.exec) (hby : c.code = code) (hZ : Z.Warmed39 s.vm) (eT : T.heap = h) {a : Addr} {kc : ClassId} {z j : Int32} {vs : List Value} {dv v : Value} (A : Arv Z h a kc .int z vs dv) {i : Nat} (hj0 : ¬ j < 0) (hj : j < z) (hji : j.toNatClampNeg = i) (hv : vs.getD i dv = v) (hd : Ins1 code pc .iaload 1 pn)
    (k : Gd p e below P T (mkF m pn Ls (v :: st))) : Gd p e below P T (mkF m pc Ls (.int j :: .ref a :: st)) := by
  obtain ⟨hd, rfl⟩ := hd
  obtain ⟨cl, Ar, q1, S, N, H, G⟩ := A
  have hin := inb_of S ⟨hj0, hj⟩
  exact k.imp fun t q => ⟨X.iaload hx (j := j) (v := v) (by rw [eT]; exact Ar.1) (State.isArrayOf_alike hZ.alike Ar.2.1) Ar.2.2 hin (H.at hin (by rw [hji]; exact hv)) (g := mkF m pc Ls (.int j :: .ref a :: st)) rfl rfl (hb hby hd) _ q.1, q.2⟩
theorem g_baload (X : Stand p l e R s m args below meth c T locs cells slots) (hx : p.tables.exec = Jvm.exec) (hby : c.code = code) (hZ : Z.Warmed39 s.vm) (eT : T.heap = h) {a : Addr} {kc : ClassId} {z j : Int32} {vs : List Value} {dv v : Value} (A : Arv Z h a kc .byte z vs dv) {i : Nat} (hj0 : ¬ j < 0) (hj : j < z) (hji : j.toNatClampNeg = i) (hv : vs.getD i dv = v) (hd : Ins1 code pc .baload 1 pn)
    (k : Gd p e below P T (mkF m pn Ls (v :: st))) : Gd p e below P T (mkF m pc Ls (.int j :: .ref a :: st)) := by
  obtain ⟨hd, rfl⟩ := hd
  obtain ⟨cl, Ar, q1, S, N, H, G⟩ := A
  have hin := inb_of S ⟨hj0, hj⟩
  exact k.imp fun t q => ⟨X.baloadBytes hx (j := j) (v := v) (by rw [eT]; exact Ar.1) (State.isArrayOf_alike hZ.alike Ar.2.1) Ar.2.2 hin (H.at hin (by rw [hji]; exact hv)) (g := mkF m pc Ls (.int j :: .ref a :: st)) rfl rfl (hb hby hd) _ q.1, q.2⟩
theorem g_arraylength (X : Stand p l e R s m args below meth c T locs cells slots) (hx : p.tables.exec = Jvm.exec) (hby : c.code = code) (hZ : Z.Warmed39 s.vm) (eT : T.heap = h) {a : Addr} {kc : ClassId} {ty : FieldType} {z : Int32} {vs : List Value} {dv : Value} (A : Arv Z h a kc ty z vs dv) (hd : Ins1 code pc .arraylength 1 pn) (k : Gd p e below P T (mkF m pn Ls (.int z :: st))) : Gd p e below P T (mkF m pc Ls (.ref a :: st)) := by
  obtain ⟨hd, rfl⟩ := hd
  obtain ⟨cl, Ar, q1, S, N, H, G⟩ := A
  rw [← len_of S N] at k
  exact k.imp fun t q => ⟨X.arraylength hx (by rw [eT]; exact Ar.1) (State.isArrayOf_alike hZ.alike Ar.2.1) (g := mkF m pc Ls (.ref a :: st)) rfl rfl (hb hby hd) _ q.1, q.2⟩
theorem g_objInit (X : Stand p l e R s m args below meth c T locs cells slots) (hx : p.tables.exec = Jvm.exec) (hby : c.code = code) (hZ : Z.Warmed39 s.vm) {own : String} {idx : Nat} (hown : s.vm.findClass own = some m.cls) (w1 : (Jvm.Cond.methodLink own idx Lib.objectInit).before a0 Z = true) (w2 : (Jvm.Cond.instanceMethod Lib.objectInit).before a0 Z = true) (w3 : (Jvm.Cond.code Lib.objectInit ⟨#[0xb1]⟩ 1 none).before a0 Z = true) (eT : T.heap = h) (hsize : Ls.size = c.maxLocals) {a : Addr} (hd : Ins1 code pc (.invokespecial idx) 3 pn)
    (W : Nat) (hW : (st.map fun v => v.category).sum = W) (hf : 1 ≤ R.frames) (hl : W + 12 ≤ R.locals) (k : ∀ T', Stand p l e R s m args below meth c T' locs cells slots → T'.heap = h → Gd p e below P T' (mkF m pn Ls st)) : Gd p e below P T (mkF m pc Ls (.ref a :: st)) := by
  obtain ⟨hd, rfl⟩ := hd
  obtain ⟨T', X', e', stp⟩ := initO X hx hZ hown w1 w2 w3 eT (g := mkF m pc Ls (.ref a :: st)) rfl hsize rfl (hb hby hd) hf (W := W) (by show 2 * 0 + _ ≤ _; rw [hW]; omega) hl
  exact (k T' X' e').of stp
theorem g_callS0 (X : Stand p l e R s m args below meth c T locs cells slots) (hx : p.tables.exec = Jvm.exec) (hby : c.code = code) (hZ : Z.Warmed39 s.vm) {y : MethodName} {bytes : ByteArray} {maxL : Nat} {ret : Option FieldType} {rm : Room} {argsL rest : List Value} {Q : Option Value → Heap → List Loc → Prop} {own : String} {index : Nat} (hown : s.vm.findClass own = some m.cls) (w1 : (Jvm.Cond.methodLink own index y).before a0 Z = true) (w2 : (Jvm.Cond.static y).before a0 Z = true) (w3 : (Jvm.Cond.initialized y.cls).before a0 Z = true) (w4 : (Jvm.Cond.code y bytes maxL ret).before a0 Z = true) (hy : y.cls ≠ "java/lang/invoke/MethodHandle" ∧ y.cls ≠ "java/lang/invoke/VarHandle")
    (M : Met1 l y bytes maxL ret [] rm argsL.toArray Z h Q) (eT : T.heap = h) (hsize : Ls.size = c.maxLocals) {ps : List FieldType} {r : Option FieldType} (hpd : parseMethodDescriptor y.desc = some ⟨ps, r⟩) (hlen : argsL.length = ps.length) (hst : st = argsL.reverse ++ rest) (hd : Ins1 code pc (.invokestatic index) 3 pn) (hf : rm.frames + 1 ≤ R.frames) (W : Nat) (hW : (rest.map fun v => v.category).sum = W) (hl : W + (maxL + 11) + rm.locals ≤ R.locals) (hcl : cells + rm.cells ≤ R.cells) (hsl : slots + rm.slots ≤ R.slots)
    (k : ∀ T' v L, Stand p l e R s m args below meth c T' (locs ++ L) (cells + rm.cells) (slots + rm.slots) → Q v T'.heap L → Gd p e below P T' (mkF m pn Ls (v.toList ++ rest))) : Gd p e below P T (mkF m pc Ls st) := by
  obtain ⟨hd, rfl⟩ := hd
  obtain ⟨v, _, ⟨T', L', k', n'⟩, -, X', ⟨Lc, hQ, l1, y1, z1⟩, stp⟩ := Jvm.LawKit.callS X hx (y := y) hown (mvT hZ w1) (mvT hZ w2) (mvT hZ w3) (mvT hZ w4) hy (backOf (W := W) M hZ w4 w3 hf hl) (g := mkF m pc Ls st) rfl hsize (argsL := argsL) (rest := rest) (lenOf hpd hlen) hst (by show 2 * 0 + _ ≤ _; rw [hW]; omega) (hb hby hd) (fun _ _ => ⟨rfl, eT, hcl, hsl⟩)
  dsimp only [Pt.U, Pt.locs, Pt.cells, Pt.slots] at X' l1 y1 z1 stp hQ
  subst l1 y1 z1
  exact (k T' v Lc X' hQ).of stp
theorem g_callInit0 (X : Stand p l e R s m args below meth c T locs cells slots) (hx : p.tables.exec = Jvm.exec) (hby : c.code = code) (hZ : Z.Warmed39 s.vm) {y : MethodName} {bytes : ByteArray} {maxL : Nat} {rm : Room} {argsL rest : List Value} {Q : Option Value → Heap → List Loc → Prop} {own : String} {index : Nat} (hy1 : y.name = "<init>") (hown : s.vm.findClass own = some m.cls) (w1 : (Jvm.Cond.methodLink own index y).before a0 Z = true) (w2 : (Jvm.Cond.instanceMethod y).before a0 Z = true) (w3 : (Jvm.Cond.initialized y.cls).before a0 Z = true) (w4 : (Jvm.Cond.code y bytes maxL none).before a0 Z = true) (hy : y.cls ≠ "java/lang/invoke/MethodHandle" ∧ y.cls ≠ "java/lang/invoke/VarHandle")
    {a : Addr} (M : Met1 l y bytes maxL none [] rm (.ref a :: argsL).toArray Z h Q) (eT : T.heap = h) (hsize : Ls.size = c.maxLocals) {ps : List FieldType} {r : Option FieldType} (hpd : parseMethodDescriptor y.desc = some ⟨ps, r⟩) (hlen : argsL.length = ps.length) (hst : st = argsL.reverse ++ .ref a :: rest) (hd : Ins1 code pc (.invokespecial index) 3 pn) (hf : rm.frames + 1 ≤ R.frames) (W : Nat) (hW : (rest.map fun v => v.category).sum = W) (hl : W + (maxL + 11) + rm.locals ≤ R.locals) (hcl : cells + rm.cells ≤ R.cells) (hsl : slots + rm.slots ≤ R.slots)
    (k : ∀ T' v L, Stand p l e R s m args below meth c T' (locs ++ L) (cells + rm.cells) (slots + rm.slots) → Q v T'.heap L → Gd p e below P T' (mkF m pn Ls (v.toList ++ rest))) : Gd p e below P T (mkF m pc Ls st) := by
  obtain ⟨hd, rfl⟩ := hd
  obtain ⟨v, _, ⟨T', L', k', n'⟩, -, X', ⟨Lc, hQ, l1, y1, z1⟩, stp⟩ := X.specialBack hx (y := y) hy1 hown (mvT hZ w1) (mvT hZ w2) (mvT hZ w4) hy (backOf (W := W) M hZ w4 w3 hf hl) (g := mkF m pc Ls st) rfl hsize (Steps.refl _) (a := a) (argsL := argsL) (rest := rest) (lenOf hpd hlen) hst (by show 2 * 0 + _ ≤ _; rw [hW]; omega) (hb hby hd) (fun _ _ => ⟨rfl, eT, hcl, hsl⟩)
  dsimp only [Pt.U, Pt.locs, Pt.cells, Pt.slots] at X' l1 y1 z1 stp hQ
  subst l1 y1 z1
  exact (k T' v Lc X' hQ).of fun t q => stp.trans q
theorem g_callV0 (X : Stand p l e R s m args below meth c T locs cells slots) (hx : p.tables.exec = Jvm.exec) (hby : c.code = code) (hZ : Z.Warmed39 s.vm) {y : MethodName} {bytes : ByteArray} {maxL : Nat} {ret : Option FieldType} {rm : Room} {argsL rest : List Value} {Q : Option Value → Heap → List Loc → Prop} {own C : String} {index : Nat} {y0 : MethodName} (hown : s.vm.findClass own = some m.cls) (w1 : (Jvm.Cond.methodLink own index y0).before a0 Z = true) (w2 : (Jvm.Cond.declares y0).before a0 Z = true) (hnf : NotFace s y0) (w5 : (Jvm.Cond.selects C y0 y).before a0 Z = true) (w6 : (Jvm.Cond.instanceMethod y).before a0 Z = true) (w3 : (Jvm.Cond.initialized y.cls).before a0 Z = true) (w4 : (Jvm.Cond.code y bytes maxL ret).before a0 Z = true) (hy : y0.cls ≠ "java/lang/invoke/MethodHandle" ∧ y0.cls ≠ "java/lang/invoke/VarHandle")
    {a : Addr} (E : Exa Z h a C) (M : Met1 l y bytes maxL ret [] rm (.ref a :: argsL).toArray Z h Q) (eT : T.heap = h) (hsize : Ls.size = c.maxLocals) {ps : List FieldType} {r : Option FieldType} (hpd : parseMethodDescriptor y0.desc = some ⟨ps, r⟩) (hlen : argsL.length = ps.length) (hst : st = argsL.reverse ++ .ref a :: rest) (hd : Ins1 code pc (.invokevirtual index) 3 pn) (hf : rm.frames + 1 ≤ R.frames) (W : Nat) (hW : (rest.map fun v => v.category).sum = W) (hl : W + (maxL + 11) + rm.locals ≤ R.locals) (hcl : cells + rm.cells ≤ R.cells) (hsl : slots + rm.slots ≤ R.slots)
    (k : ∀ T' v L, Stand p l e R s m args below meth c T' (locs ++ L) (cells + rm.cells) (slots + rm.slots) → Q v T'.heap L → Gd p e below P T' (mkF m pn Ls (v.toList ++ rest))) : Gd p e below P T (mkF m pc Ls st) := by
  obtain ⟨hd, rfl⟩ := hd
  obtain ⟨cq, kq, qa, qb, qc⟩ := isOf hZ eT E
  obtain ⟨v, _, ⟨T', L', k', n'⟩, -, X', ⟨Lc, hQ, l1, y1, z1⟩, stp⟩ := X.virtualBack hx (y := y0) (z := y) hown (mvT hZ w1) (mvT hZ w2) hnf (mvT hZ w5) (mvT hZ w6) hy (backOf (W := W) M hZ w4 w3 hf hl) qa qc (g := mkF m pc Ls st) rfl hsize (Steps.refl _) (argsL := argsL) (rest := rest) (lenOf hpd hlen) hst (by show 2 * 0 + _ ≤ _; rw [hW]; omega) (hb hby hd) (fun _ _ => ⟨rfl, eT, hcl, hsl⟩)
  dsimp only [Pt.U, Pt.locs, Pt.cells, Pt.slots] at X' l1 y1 z1 stp hQ
  subst l1 y1 z1
  exact (k T' v Lc X' hQ).of fun t q => stp.trans q
theorem g_ireturn (X : Stand p l e R s m args below meth c T locs cells slots) (hx : p.tables.exec = Jvm.exec) (hby : c.code = code) (hret : meth.sig.returnType = some .int) (hlk : meth.locks = false) {z : Int32} {Q : Option Value → Heap → List Loc → Prop} {C S : Nat} (hd : Ins1 code pc .ireturn 1 pn) (hc : cells ≤ C) (hs : slots ≤ S) (hQ : Q (some (.int z)) T.heap locs) : Gd p e below (Fin1 s below C S Q) T (mkF m pc Ls (.int z :: st)) := by
  obtain ⟨fs, hr, hrun, hended, hW, hsame⟩ := X.leave (v := some (.int z)) (fun q => by rw [hret] at q; cases q) hlk
  exact ⟨_, retOut X hx (t := .int) hret rfl (Or.inl ⟨rfl, Or.inl rfl, z, rfl⟩) (hb hby hd.1) hr, _, hrun, hended, _, _, rfl, hQ, ⟨_, rfl⟩, hW, hsame.mono hc hs⟩
theorem g_ireturnN (X : Stand p l e R s m args below meth c T locs cells slots) (hx : p.tables.exec = Jvm.exec) (hby : c.code = code) {ty : FieldType} (hret : meth.sig.returnType = some ty) (hty : ty = .boolean ∨ ty = .byte ∨ ty = .char ∨ ty = .short) (hlk : meth.locks = false) {z : Int32} {Q : Option Value → Heap → List Loc → Prop} {C S : Nat} (hd : Ins1 code pc .ireturn 1 pn) (hc : cells ≤ C) (hs : slots ≤ S) (hQ : Q (some (.int (nar ty z))) T.heap locs) : Gd p e below (Fin1 s below C S Q) T (mkF m pc Ls (.int z :: st)) := by
  obtain ⟨fs, hr, hrun, hended, hW, hsame⟩ := X.leave (v := some (.int (nar ty z))) (fun q => by rw [hret] at q; cases q) hlk
  exact ⟨_, retN X hx hret hty (hb hby hd.1) hr, _, hrun, hended, _, _, rfl, hQ, ⟨_, rfl⟩, hW, hsame.mono hc hs⟩
theorem g_lreturn (X : Stand p l e R s m args below meth c T locs cells slots) (hx : p.tables.exec = Jvm.exec) (hby : c.code = code) (hret : meth.sig.returnType = some .long) (hlk : meth.locks = false) {z : Int64} {Q : Option Value → Heap → List Loc → Prop} {C S : Nat} (hd : Ins1 code pc .lreturn 1 pn) (hc : cells ≤ C) (hs : slots ≤ S) (hQ : Q (some (.long z)) T.heap locs) : Gd p e below (Fin1 s below C S Q) T (mkF m pc Ls (.long z :: st)) := by
  obtain ⟨fs, hr, hrun, hended, hW, hsame⟩ := X.leave (v := some (.long z)) (fun q => by rw [hret] at q; cases q) hlk
  exact ⟨_, retOut X hx (t := .long) hret rfl (Or.inr (Or.inl ⟨rfl, rfl, z, rfl⟩)) (hb hby hd.1) hr, _, hrun, hended, _, _, rfl, hQ, ⟨_, rfl⟩, hW, hsame.mono hc hs⟩
theorem g_areturn (X : Stand p l e R s m args below meth c T locs cells slots) (hx : p.tables.exec = Jvm.exec) (hby : c.code = code) {ty : FieldType} (hret : meth.sig.returnType = some ty) (hty : ty.isReference = true) (hn : ∀ v, narrow ty v = v) (hlk : meth.locks = false) {z : Value} (hz : z.isRef = true) {Q : Option Value → Heap → List Loc → Prop} {C S : Nat} (hd : Ins1 code pc .areturn 1 pn) (hc : cells ≤ C) (hs : slots ≤ S) (hQ : Q (some z) T.heap locs) : Gd p e below (Fin1 s below C S Q) T (mkF m pc Ls (z :: st)) := by
  obtain ⟨fs, hr, hrun, hended, hW, hsame⟩ := X.leave (v := some z) (fun q => by rw [hret] at q; cases q) hlk
  exact ⟨_, retOut X hx hret (hn z) (Or.inr (Or.inr (Or.inr (Or.inr ⟨rfl, hty, hz⟩)))) (hb hby hd.1) hr, _, hrun, hended, _, _, rfl, hQ, ⟨_, rfl⟩, hW, hsame.mono hc hs⟩
theorem g_return (X : Stand p l e R s m args below meth c T locs cells slots) (hx : p.tables.exec = Jvm.exec) (hby : c.code = code) (hret : meth.sig.returnType = none) (hlk : meth.locks = false) {Q : Option Value → Heap → List Loc → Prop} {C S : Nat} (hd : Ins1 code pc .return_ 1 pn) (hc : cells ≤ C) (hs : slots ≤ S) (hQ : Q none T.heap locs) : Gd p e below (Fin1 s below C S Q) T (mkF m pc Ls []) := by
  obtain ⟨fs, hr, hrun, hended, hW, hsame⟩ := X.leave (v := none) (fun _ => rfl) hlk
  exact ⟨_, X.returnOut hx hret (hb hby hd.1) hr, _, hrun, hended, _, _, rfl, hQ, ⟨_, rfl⟩, hW, hsame.mono hc hs⟩
end K
end Jvm.OwnG
namespace Jvm.OwnG
open Sem ClassFile Op Lib Jvm.Stand Jvm.Free Jvm.LawKit Jvm.RoadKit
section K2
variable {p : Program} {l : Launch} {e : Env} {R : Room} {s : State} {m : MethodId} {args : Array Value} {below : List Frame} {meth : Method} {c : Code} {T : State} {locs : List Loc} {cells slots : Nat} {Z : State} {a0 : Array Value} {h : Heap} {P : State → Prop} {code : ByteArray} {pc pn pt : Nat} {Ls : Array Slot} {st : List Value}
theorem g_arraycopy (X : Stand p l e R s m args below meth c T locs cells slots) (hx : p.tables.exec = Jvm.exec) (hby : c.code = code) (hZ : Z.Warmed39 s.vm) {own : String} {index : Nat} (hown : s.vm.findClass own = some m.cls) (w1 : (Jvm.Cond.methodLink own index Jvm.Stand.acN).before a0 Z = true) (w2 : (Jvm.Cond.native Jvm.Stand.acN).before a0 Z = true) (w3 : (Jvm.Cond.static Jvm.Stand.acN).before a0 Z = true) (w4 : (Jvm.Cond.initialized "java/lang/System").before a0 Z = true) (eT : T.heap = h)
    {a b : Addr} {ka kb : ClassId} {ty : FieldType} {z z' sp dp nn : Int32} {vs vd us : List Value} {dv dd : Value} (A : Arv Z h a ka ty z vs dv) (B : Arv Z h b kb ty z' vd dd) (hty : refKind ty = false) (h1 : ¬ sp < 0) (h2 : ¬ dp < 0) (h3 : ¬ nn < 0) (h4 : sp.toNatClampNeg + nn.toNatClampNeg ≤ z.toNatClampNeg) (h5 : dp.toNatClampNeg + nn.toNatClampNeg ≤ z'.toNatClampNeg)
    (hus : us = (List.range nn.toNatClampNeg).map fun i => vs.getD (sp.toNatClampNeg + i) dv) (hl : dp.toNatClampNeg + nn.toNatClampNeg ≤ vd.length) {n0 : Nat} (N : Fr n0 locs) (ge : n0 ≤ b) (hsize : Ls.size = c.maxLocals) (hd : Ins1 code pc (.invokestatic index) 3 pn) (hf : 1 ≤ R.frames) (W : Nat) (hW : (st.map fun v => v.category).sum = W) (hlo : W + (nativeFrameWords "java/lang/System" "arraycopy" 5 + 11) ≤ R.locals)
    (k : ∀ T' h' L, Stand p l e R s m args below meth c T' L cells slots → T'.heap = h' → Fr n0 L → Keep h h' [b] → Arv Z h' b kb ty z' (vd.take dp.toNatClampNeg ++ us ++ vd.drop (dp.toNatClampNeg + nn.toNatClampNeg)) dd → Gd p e below P T' (mkF m pn Ls st)) : Gd p e below P T (mkF m pc Ls (.int nn :: .int dp :: .ref b :: .int sp :: .ref a :: st)) := by
  obtain ⟨hd, rfl⟩ := hd
  obtain ⟨T', h', L, X', e', N', K', V', stp⟩ := cpA X hx hZ hown w1 w2 w3 w4 eT A B (Or.inl ⟨rfl, hty⟩) h1 h2 h3 h4 h5 hus hl N ge (g := mkF m pc Ls (.int nn :: .int dp :: .ref b :: .int sp :: .ref a :: st)) rfl hsize rfl (hb hby hd) hf (W := W) (by show 2 * 0 + _ ≤ _; rw [hW]; omega) hlo
  exact (k T' h' L X' e' N' K' V').of stp
end K2
end Jvm.OwnG
namespace Jvm.OwnG
open Sem ClassFile Op Lib Jvm.Stand Jvm.Free Jvm.LawKit Jvm.RoadKit
section K5
variable {p : Program} {l : Launch} {e : Env} {R : Room} {s : State} {m : MethodId} {args : Array Value} {below : List Frame} {meth : Method} {c : Code} {T : State} {locs : List Loc} {cells slots : Nat} {Z : State} {a0 : Array Value} {h : Heap} {P : State → Prop} {code : ByteArray} {pc pn pt : Nat} {Ls : Array Slot} {st : List Value}
theorem own_sel {y : MethodName} {n : Nat} (w2 : (Jvm.Cond.instanceMethod y).before a0 Z = true) (wi : (Jvm.Cond.instantiable y.cls n).before a0 Z = true) (w6 : (Jvm.Cond.privateMethod y).before a0 Z = true) : ∃ mk kP, Z.methodNamed? y = some mk ∧ Z.vm.classes[mk.cls]? = some kP ∧ kP.isInterface = false := by
  obtain ⟨mk, methM, hnamed, hmethM, hst, hab⟩ := Cond.instanceMethod_spec w2
  obtain ⟨t', k', g1, g2, g3, g4, -, -⟩ := Cond.instantiable_spec wi
  cases (findClass_of_methodNamed hnamed).symm.trans g1
  refine ⟨mk, k', hnamed, g2, ?_⟩
  cases hi : k'.isInterface
  · rfl
  · rw [hi] at g4; simp at g4
theorem g_callPriv (X : Stand p l e R s m args below meth c T locs cells slots) (hx : p.tables.exec = Jvm.exec) (hby : c.code = code) (hZ : Z.Warmed39 s.vm) {y : MethodName} {bytes : ByteArray} {maxL : Nat} {ret : Option FieldType} {rm : Room} {argsL rest : List Value} {Q : Option Value → Heap → List Loc → Prop} {own K : String} {index n : Nat} (hown : s.vm.findClass own = some m.cls) (w1 : (Jvm.Cond.methodLink own index y).before a0 Z = true) (w2 : (Jvm.Cond.instanceMethod y).before a0 Z = true) (wi : (Jvm.Cond.instantiable y.cls n).before a0 Z = true) (w6 : (Jvm.Cond.privateMethod y).before a0 Z = true) (w3 : (Jvm.Cond.initialized y.cls).before a0 Z = true) (w4 : (Jvm.Cond.code y bytes maxL ret).before a0 Z = true) (hy : y.cls ≠ "java/lang/invoke/MethodHandle" ∧ y.cls ≠ "java/lang/invoke/VarHandle")
    {a : Addr} (E : Exa Z h a K) (M : Met1 l y bytes maxL ret [] rm (.ref a :: argsL).toArray Z h Q) (eT : T.heap = h) (hsize : Ls.size = c.maxLocals) {ps : List FieldType} {r : Option FieldType} (hpd : parseMethodDescriptor y.desc = some ⟨ps, r⟩) (hlen : argsL.length = ps.length) (hst : st = argsL.reverse ++ .ref a :: rest) (hd : Ins1 code pc (.invokevirtual index) 3 pn) (hf : rm.frames + 1 ≤ R.frames) (W : Nat) (hW : (rest.map fun v => v.category).sum = W) (hl : W + (maxL + 11) + rm.locals ≤ R.locals) (hcl : cells + rm.cells ≤ R.cells) (hsl : slots + rm.slots ≤ R.slots)
    (k : ∀ T' v L, Stand p l e R s m args below meth c T' (locs ++ L) (cells + rm.cells) (slots + rm.slots) → Q v T'.heap L → Gd p e below P T' (mkF m pn Ls (v.toList ++ rest))) : Gd p e below P T (mkF m pc Ls st) := by
  obtain ⟨hd, rfl⟩ := hd
  obtain ⟨cq, q1, q2⟩ := E.cell
  obtain ⟨mk, methM, hnamed, hmethM, hstM, habM⟩ := Cond.instanceMethod_spec (mvT (args := #[]) hZ w2)
  obtain ⟨methM', cM, hmethM', -, -, -, -, -, -, hsigM⟩ := Cond.code_spec hnamed (mvT (args := #[]) hZ w4)
  cases hmethM.symm.trans hmethM'
  obtain ⟨mk2, kP, z1, hkP, hkPi⟩ := own_sel (Z := s) (a0 := #[]) (mvT hZ w2) (mv hZ wi) (mvP hZ w6)
  cases hnamed.symm.trans z1
  have hselP : selectMethod e.platform s.vm cq.cls mk = .method mk := selectMethod_private hmethM (Cond.privateMethod_at (mvP hZ w6 (args := #[])) mk methM hnamed hmethM)
  obtain ⟨vm₁, X₁, hstep₁⟩ := X.invokevirtual hx hown (mvT hZ w1) hnamed hmethM hstM hkP hkPi hy (a := a) (cell := cq) (by rw [eT]; exact q1) q2 hselP hmethM habM hkP hkPi (g := mkF m pc Ls st) rfl (argsL := argsL) (rest := rest) (lenOf hpd hlen _ hsigM) hst (hb hby hd)
  obtain ⟨v, ⟨T', L', k', n'⟩, X', ⟨Lc, hQ, l1, y1, z1⟩, hsteps⟩ := backOf (W := W) M hZ w4 w3 hf hl m meth c ⟨T.setVm vm₁, locs, cells, slots⟩ { mkF m pc Ls st with stack := rest } (.invokevirtual index) mk (.ref a :: argsL).toArray X₁ rfl hsize (hb hby hd) (by show 2 * 0 + _ ≤ _; rw [hW]; omega) (X₁.named hnamed) ⟨rfl, eT, hcl, hsl⟩
  dsimp only [Pt.U, Pt.locs, Pt.cells, Pt.slots] at X' l1 y1 z1 hsteps hQ
  subst l1 y1 z1
  exact (k T' v Lc X' hQ).of fun t q => (hstep₁ _ fun acts => by rw [doInvoke_state]; exact Steps.refl _).trans (hsteps.trans q)
end K5
end Jvm.OwnG
namespace Jvm.OwnG
open Sem ClassFile Op Lib Jvm.Stand Jvm.Free Jvm.LawKit Jvm.RoadKit
/-- Met1, of a method with handlers -/
def Met1H (l : Launch) (y : MethodName) (bytes : ByteArray) (maxL : Nat) (ret : Option FieldType) (hs : List (Nat × Nat × Nat × Nat)) (ws : List Jvm.Cond) (rm : Room) (as' : Array Value) (Z : State) (h : Heap) (Q : Option Value → Heap → List Loc → Prop) : Prop :=
  MetFree l y (head1 (Jvm.Cond.codeWith y bytes maxL ret hs :: ws) rm) (fun a U => a = as' ∧ Z.Warmed39 U.vm ∧ U.heap = h) (fun _ _ _ _ _ => True) (fun _ U o U' => ∃ v L, o = .returned v ∧ Q v U'.heap L ∧ FrameEnd U o U' L rm.cells rm.slots)
theorem Met1.imp {l : Launch} {y : MethodName} {bytes : ByteArray} {maxL : Nat} {ret : Option FieldType} {ws : List Jvm.Cond} {rm : Room} {as' : Array Value} {Z : State} {h : Heap} {Q Q' : Option Value → Heap → List Loc → Prop} (M : Met1 l y bytes maxL ret ws rm as' Z h Q) (f : ∀ v h' L, Q v h' L → Q' v h' L) : Met1 l y bytes maxL ret ws rm as' Z h Q' := by
  intro p e h1 h2 h3 s m args below h4 h5 h6 h7
  obtain ⟨n, o, a, b, c, v, L, d1, d2, d3⟩ := M p e h1 h2 h3 s m args below h4 h5 h6 h7
  exact ⟨n, o, a, b, c, v, L, d1, f _ _ _ d2, d3⟩
section K6
variable {p : Program} {l : Launch} {e : Env} {R : Room} {s : State} {m : MethodId} {args : Array Value} {below : List Frame} {meth : Method} {c : Code} {T : State} {locs : List Loc} {cells slots : Nat} {Z : State} {a0 : Array Value} {h : Heap} {P : State → Prop} {code : ByteArray} {pc pn pt : Nat} {Ls : Array Slot} {st : List Value}
theorem own_bump {cells' slots' : Nat} (X : Stand p l e R s m args below meth c T locs cells slots) (hc : cells ≤ cells') (hs : slots ≤ slots') : Stand p l e R s m args below meth c T locs cells' slots' := { X with same := X.same.mono hc hs }
theorem met_ofH {y : MethodName} {maxL : Nat} {ret : Option FieldType} {hs : List (Nat × Nat × Nat × Nat)} {ws : List Jvm.Cond} {rm : Room} {as' : Array Value} {Q : Option Value → Heap → List Loc → Prop} (hp : plainFor y = true)
    (body : ∀ (p : Program) (e : Env) (s : State) (m : MethodId) (below : List Frame) (meth : Method) (c : Code) (T : State), Stand p l e rm s m as' below meth c T [] 0 0 → p.tables.exec = Jvm.exec → c.code = code → c.maxLocals = maxL → Z.Warmed39 s.vm → s.vm.findClass y.cls = some m.cls → meth.name = y.name → meth.sig.returnType = ret → meth.locks = false → T.heap = h → s.heap = h →
      Gd p e below (Fin1 s below rm.cells rm.slots Q) T (entryFrame m as' maxL)) : Met1H l y code maxL ret hs ws rm as' Z h Q := by
  refine MetFree.of_bodySF hp hisWith ?_
  intro p e s m args below meth c s₁ Bd hml0 hP hK
  obtain ⟨rfl, hZ, hh⟩ := hP
  obtain ⟨t, h1, o, h2, h3, h4⟩ := body p e s m below meth c s₁ (Stand.of_body Bd) Bd.exec Bd.bytes hml0 hZ (findClass_of_methodNamed Bd.named) (name_of_methodNamed Bd.named Bd.method).1 Bd.returns Bd.notSynchronized (by rw [← hh, Bd.state]; rfl) hh
  exact ⟨t, o, h1, h2, h3, h4⟩
theorem g_callVH (X : Stand p l e R s m args below meth c T locs cells slots) (hx : p.tables.exec = Jvm.exec) (hby : c.code = code) (hZ : Z.Warmed39 s.vm) {y : MethodName} {bytes : ByteArray} {maxL : Nat} {ret : Option FieldType} {hs : List (Nat × Nat × Nat × Nat)} {rm : Room} {argsL rest : List Value} {Q : Option Value → Heap → List Loc → Prop} {own C : String} {index : Nat} {y0 : MethodName} (hown : s.vm.findClass own = some m.cls) (w1 : (Jvm.Cond.methodLink own index y0).before a0 Z = true) (w2 : (Jvm.Cond.declares y0).before a0 Z = true) (hnf : NotFace s y0) (w5 : (Jvm.Cond.selects C y0 y).before a0 Z = true) (w6 : (Jvm.Cond.instanceMethod y).before a0 Z = true) (w3 : (Jvm.Cond.initialized y.cls).before a0 Z = true) (w4 : (Jvm.Cond.codeWith y bytes maxL ret hs).before a0 Z = true) (hy : y0.cls ≠ "java/lang/invoke/MethodHandle" ∧ y0.cls ≠ "java/lang/invoke/VarHandle")
    {a : Addr} (E : Exa Z h a C) (M : Met1H l y bytes maxL ret hs [] rm (.ref a :: argsL).toArray Z h Q) (eT : T.heap = h) (hsize : Ls.size = c.maxLocals) {ps : List FieldType} {r : Option FieldType} (hpd : parseMethodDescriptor y0.desc = some ⟨ps, r⟩) (hlen : argsL.length = ps.length) (hst : st = argsL.reverse ++ .ref a :: rest) (hd : Ins1 code pc (.invokevirtual index) 3 pn) (hf : rm.frames + 1 ≤ R.frames) (W : Nat) (hW : (rest.map fun v => v.category).sum = W) (hl : W + (maxL + 11) + rm.locals ≤ R.locals) (hcl : cells + rm.cells ≤ R.cells) (hsl : slots + rm.slots ≤ R.slots)
    (k : ∀ T' v L, Stand p l e R s m args below meth c T' (locs ++ L) (cells + rm.cells) (slots + rm.slots) → Q v T'.heap L → Gd p e below P T' (mkF m pn Ls (v.toList ++ rest))) : Gd p e below P T (mkF m pc Ls st) := by
  obtain ⟨hd, rfl⟩ := hd
  obtain ⟨cq, kq, qa, qb, qc⟩ := isOf hZ eT E
  obtain ⟨v, _, ⟨T', L', k', n'⟩, -, X', ⟨Lc, hQ, l1, y1, z1⟩, stp⟩ := X.virtualBack hx (y := y0) (z := y) hown (mvT hZ w1) (mvT hZ w2) hnf (mvT hZ w5) (mvT hZ w6) hy (backOfWith (W := W) M hZ w4 w3 hf hl) qa qc (g := mkF m pc Ls st) rfl hsize (Steps.refl _) (argsL := argsL) (rest := rest) (lenOf hpd hlen) hst (by show 2 * 0 + _ ≤ _; rw [hW]; omega) (hb hby hd) (fun _ _ => ⟨rfl, eT, hcl, hsl⟩)
  dsimp only [Pt.U, Pt.locs, Pt.cells, Pt.slots] at X' l1 y1 z1 stp hQ
  subst l1 y1 z1
  exact (k T' v Lc X' hQ).of fun t q => stp.trans q
theorem g_tableswitch (X : Stand p l e R s m args below meth c T locs cells slots) (hx : p.tables.exec = Jvm.exec) (hby : c.code = code) {k : Int32} {df lo hi : Int} {offs : Array Int} {len : Nat} (hd : decode code pc = .ok (.tableswitch df lo hi offs, len)) (hin : ¬ (k.toInt < lo ∨ k.toInt > hi)) {off : Int} (ho : offs[(k.toInt - lo).toNat]? = some off) (hp0 : 0 ≤ (pc : Int) + off) (hp : ((pc : Int) + off).toNat = pt) (kk : Gd p e below P T (mkF m pt Ls st)) : Gd p e below P T (mkF m pc Ls (.int k :: st)) := by
  subst hp
  exact kk.imp fun t q => ⟨X.tableswitchIn hx (g := mkF m pc Ls (.int k :: st)) rfl rfl (hb hby hd) hin ho hp0 _ q.1, q.2⟩
theorem g_arraycopy0 (X : Stand p l e R s m args below meth c T locs cells slots) (hx : p.tables.exec = Jvm.exec) (hby : c.code = code) (hZ : Z.Warmed39 s.vm) {own : String} {index : Nat} (hown : s.vm.findClass own = some m.cls) (w1 : (Jvm.Cond.methodLink own index Jvm.Stand.acN).before a0 Z = true) (w2 : (Jvm.Cond.native Jvm.Stand.acN).before a0 Z = true) (w3 : (Jvm.Cond.static Jvm.Stand.acN).before a0 Z = true) (w4 : (Jvm.Cond.initialized "java/lang/System").before a0 Z = true) (eT : T.heap = h)
    {a b : Addr} {ka kb : ClassId} {ty : FieldType} {z z' sp dp nn : Int32} {vs vd : List Value} {dv dd : Value} (A : Arv Z h a ka ty z vs dv) (B : Arv Z h b kb ty z' vd dd) (hty : refKind ty = false) (hnn : nn = 0) (h1 : ¬ sp < 0) (h2 : ¬ dp < 0) (h4 : sp.toNatClampNeg ≤ z.toNatClampNeg) (h5 : dp.toNatClampNeg ≤ z'.toNatClampNeg)
    (hsize : Ls.size = c.maxLocals) (hd : Ins1 code pc (.invokestatic index) 3 pn) (hf : 1 ≤ R.frames) (W : Nat) (hW : (st.map fun v => v.category).sum = W) (hlo : W + (nativeFrameWords "java/lang/System" "arraycopy" 5 + 11) ≤ R.locals)
    (k : ∀ T', Stand p l e R s m args below meth c T' locs cells slots → T'.heap = h → Gd p e below P T' (mkF m pn Ls st)) : Gd p e below P T (mkF m pc Ls (.int nn :: .int dp :: .ref b :: .int sp :: .ref a :: st)) := by
  obtain ⟨hd, rfl⟩ := hd
  subst hnn
  obtain ⟨cs, As, -, Ss, -, Hs, Gs⟩ := A
  obtain ⟨cd, Ad, qd, Sd, Nd, Hd, Gd'⟩ := B
  obtain ⟨os, ks, hks, sc, hsk⟩ := State.isArrayOf_alike hZ.alike As.2.1
  obtain ⟨od, kd, hkd, dc, hdk⟩ := State.isArrayOf_alike hZ.alike Ad.2.1
  have nat : ∀ {x : Int32}, ¬ x < 0 → x.toInt = x.toNatClampNeg := fun {x} q => by
    rw [Int32.lt_iff_toInt_lt] at q; have : (0 : Int32).toInt = 0 := rfl
    simp only [Int32.toNatClampNeg]; omega
  have z0 : (0 : Int32).toInt = 0 := rfl
  have zn : (0 : Int32).toNatClampNeg = 0 := rfl
  obtain ⟨vm₁, hW₁, X', stp⟩ := X.arraycopyK hx hown (mvT hZ w1) (mvT hZ w2) (mvT hZ w3) (mvT hZ w4) (by rw [eT]; exact As.1) (by rw [eT]; exact Ad.1) os od As.2.2 Ad.2.2 hks hkd hsk hdk
    (by simp [hty]) h1 h2 (n := 0) (by decide) (by rw [nat h1, z0, Ss]; omega) (by rw [nat h2, z0, Sd]; omega) (fun vm₁ hw i hi => absurd hi (by rw [zn]; omega)) (g := mkF m pc Ls (.int 0 :: .int dp :: .ref b :: .int sp :: .ref a :: st)) rfl hsize rfl (hb hby hd) hf (by show 2 * 0 + _ + _ ≤ _; rw [hW]; omega)
  have ec : copied cs cd sp dp 0 = cd := rfl
  have el : locs ++ copyLocs b dp.toNatClampNeg (0 : Int32).toNatClampNeg = locs := by show locs ++ [] = locs; simp
  rw [el] at X'
  have hbl : b < h.size := Ad.lt
  have eh : ((T.setVm vm₁).setCell b (copied cs cd sp dp 0)).heap = h := by
    rw [ec]
    show T.heap.setIfInBounds b cd = h
    rw [eT]
    apply Array.ext_getElem?
    intro i
    rw [Array.getElem?_setIfInBounds]
    by_cases q : b = i
    · subst q; rw [if_pos rfl, if_pos hbl]; exact Ad.1.symm
    · rw [if_neg q]
  exact (k _ X' eh).of stp
end K6
end Jvm.OwnG
namespace Jvm.Pilot.@@N@@
open Jvm Jvm.ClassFile Sem Op Lib Jvm.Free Jvm.Stand Jvm.LawKit Jvm.RoadKit Jvm.OwnG Bundle Jvm.Pilot.@@N@@.Jvm.D
theorem wd_ {Z : State} {a0 : Array Value} (hw : ∀ d ∈ tables_1, d.before a0 Z = true) (i : Nat) {d : Jvm.Cond} (h : tables_1[i]? = some d) : d.before a0 Z = true := hw d (List.mem_of_getElem? h)
def own_FL : List (String × String) := [("buffer", "[B"), ("own", "[B"), ("start", "I"), ("end", "I"), ("scanned", "I"), ("owed", "[J"), ("untilBreak", "[I"), ("depth", "I"), ("stringLeft", "J"), ("keepLeft", "J"), ("stringKept", "I"), ("chunksLength", "J"), ("chunkedLengths", "[J"), ("chunkedCount", "I"), ("cuts", "[I"), ("cutCount", "I"), ("dropped", "I"), ("pieceLeft", "J"), ("inChunks", "Z"), ("maxItemLength", "I"), ("maxItems", "I"), ("abridged", "Z")]
def own_fn (i : Nat) : String := (own_FL.getD i ("", "")).1
def own_fd (i : Nat) : String := (own_FL.getD i ("", "")).2
def own_seq (Z : State) (h : Heap) (s : Addr) (vs : List Value) : Prop := Exa Z h s "com/example/ariel/ariel/cbor/CborSequence" ∧ vs.length = 22 ∧ ∀ i, i < 22 → Fld Z h s "com/example/ariel/ariel/cbor/CborSequence" (own_fn i) (own_fd i) (vs.getD i .null)
theorem own_laid {Z : State} {a0 : Array Value} (hw : ∀ d ∈ tables_1, d.before a0 Z = true) : ∀ i, i < 22 → Laid Z a0 "com/example/ariel/ariel/cbor/CborSequence" "com/example/ariel/ariel/cbor/CborSequence" (own_fn i) (own_fd i)
  | 0, _ => Or.inl (wd_ hw 21 rfl)
  | 1, _ => Or.inl (wd_ hw 23 rfl)
  | 2, _ => Or.inl (wd_ hw 56 rfl)
  | 3, _ => Or.inl (wd_ hw 54 rfl)
  | 4, _ => Or.inl (wd_ hw 80 rfl)
  | 5, _ => Or.inl (wd_ hw 26 rfl)
  | 6, _ => Or.inl (wd_ hw 29 rfl)
  | 7, _ => Or.inl (wd_ hw 90 rfl)
  | 8, _ => Or.inl (wd_ hw 88 rfl)
  | 9, _ => Or.inl (wd_ hw 106 rfl)
  | 10, _ => Or.inl (wd_ hw 95 rfl)
  | 11, _ => Or.inl (wd_ hw 97 rfl)
  | 12, _ => Or.inl (wd_ hw 33 rfl)
  | 13, _ => Or.inl (wd_ hw 215 rfl)
  | 14, _ => Or.inl (wd_ hw 37 rfl)
  | 15, _ => Or.inl (wd_ hw 112 rfl)
  | 16, _ => Or.inl (wd_ hw 82 rfl)
  | 17, _ => Or.inl (wd_ hw 68 rfl)
  | 18, _ => Or.inl (wd_ hw 70 rfl)
  | 19, _ => Or.inr (wd_ hw 43 rfl)
  | 20, _ => Or.inr (wd_ hw 45 rfl)
  | 21, _ => Or.inr (wd_ hw 47 rfl)
  | _ + 22, q => absurd q (by omega)
theorem own_fdp : ∀ i : Fin 22, ∃ t, parseFieldDescriptor (own_fd i.val) = some t
  | ⟨0, _⟩ => ⟨(.array .byte), (by decide : parseFieldDescriptor "[B" = some (.array .byte))⟩
  | ⟨1, _⟩ => ⟨(.array .byte), (by decide : parseFieldDescriptor "[B" = some (.array .byte))⟩
  | ⟨2, _⟩ => ⟨.int, (by decide : parseFieldDescriptor "I" = some .int)⟩
  | ⟨3, _⟩ => ⟨.int, (by decide : parseFieldDescriptor "I" = some .int)⟩
  | ⟨4, _⟩ => ⟨.int, (by decide : parseFieldDescriptor "I" = some .int)⟩
  | ⟨5, _⟩ => ⟨(.array .long), (by decide : parseFieldDescriptor "[J" = some (.array .long))⟩
  | ⟨6, _⟩ => ⟨(.array .int), (by decide : parseFieldDescriptor "[I" = some (.array .int))⟩
  | ⟨7, _⟩ => ⟨.int, (by decide : parseFieldDescriptor "I" = some .int)⟩
  | ⟨8, _⟩ => ⟨.long, (by decide : parseFieldDescriptor "J" = some .long)⟩
  | ⟨9, _⟩ => ⟨.long, (by decide : parseFieldDescriptor "J" = some .long)⟩
  | ⟨10, _⟩ => ⟨.int, (by decide : parseFieldDescriptor "I" = some .int)⟩
  | ⟨11, _⟩ => ⟨.long, (by decide : parseFieldDescriptor "J" = some .long)⟩
  | ⟨12, _⟩ => ⟨(.array .long), (by decide : parseFieldDescriptor "[J" = some (.array .long))⟩
  | ⟨13, _⟩ => ⟨.int, (by decide : parseFieldDescriptor "I" = some .int)⟩
  | ⟨14, _⟩ => ⟨(.array .int), (by decide : parseFieldDescriptor "[I" = some (.array .int))⟩
  | ⟨15, _⟩ => ⟨.int, (by decide : parseFieldDescriptor "I" = some .int)⟩
  | ⟨16, _⟩ => ⟨.int, (by decide : parseFieldDescriptor "I" = some .int)⟩
  | ⟨17, _⟩ => ⟨.long, (by decide : parseFieldDescriptor "J" = some .long)⟩
  | ⟨18, _⟩ => ⟨.boolean, (by decide : parseFieldDescriptor "Z" = some .boolean)⟩
  | ⟨19, _⟩ => ⟨.int, (by decide : parseFieldDescriptor "I" = some .int)⟩
  | ⟨20, _⟩ => ⟨.int, (by decide : parseFieldDescriptor "I" = some .int)⟩
  | ⟨21, _⟩ => ⟨.boolean, (by decide : parseFieldDescriptor "Z" = some .boolean)⟩
  | ⟨_ + 22, q⟩ => absurd q (by omega)
theorem own_fne : ∀ i j : Fin 22, i ≠ j → own_fn i.val ≠ own_fn j.val := by decide +kernel
section Seq
variable {Z : State} {a0 : Array Value} {h h' : Heap} {s a : Addr} {vs : List Value} {v : Value} {sl : Nat} {ws : List Addr}
theorem own_at {Z : State} {h : Heap} {s : Addr} {vs : List Value} {v : Value} (Q : own_seq Z h s vs) (i : Nat) (hi : i < 22) (hv : vs.getD i .null = v) : Fld Z h s "com/example/ariel/ariel/cbor/CborSequence" (own_fn i) (own_fd i) v := hv ▸ Q.2.2 i hi
theorem own_seq.lt (Q : own_seq Z h s vs) : s < h.size := (Q.2.2 0 (by decide)).lt
theorem own_seq.ext (Q : own_seq Z h s vs) (E : Ext h h') : own_seq Z h' s vs := ⟨Q.1.ext E, Q.2.1, fun i q => (Q.2.2 i q).ext E⟩
theorem own_seq.keep (Q : own_seq Z h s vs) (K : Keep h h' ws) (q : s ∉ ws) : own_seq Z h' s vs := ⟨Q.1.keep K, Q.2.1, fun i r => (Q.2.2 i r).keep K q⟩
theorem own_seq.other (Q : own_seq Z h s vs) (W : Wr h h' a sl v) (q : s ≠ a) : own_seq Z h' s vs := ⟨Q.1.wr W, Q.2.1, fun i r => (Q.2.2 i r).other W (Or.inl q)⟩
theorem own_seq.put (hw : ∀ d ∈ tables_1, d.before a0 Z = true) (Q : own_seq Z h s vs) {i : Nat} (hi : i < 22) (W : Wr h h' s (RoadKit.slotOf Z "com/example/ariel/ariel/cbor/CborSequence" (own_fn i) (own_fd i)) v) : own_seq Z h' s (vs.set i v) := by
  refine ⟨Q.1.wr W, by rw [List.length_set]; exact Q.2.1, fun j hj => ?_⟩
  by_cases e : j = i
  · subst e
    have q : (vs.set j v).getD j .null = v := by simp [List.getD, Q.2.1, hj]
    rw [q]
    exact (Q.2.2 j hj).same W
  · have q : (vs.set i v).getD j .null = vs.getD j .null := by simp [List.getD, List.getElem?_set, Ne.symm e]
    rw [q]
    obtain ⟨t, ht⟩ := own_fdp ⟨j, hj⟩
    obtain ⟨t', ht'⟩ := own_fdp ⟨i, hi⟩
    exact (Q.2.2 j hj).other W (Or.inr (slot_ne (own_laid hw j hj) (own_laid hw i hi) (own_fne ⟨j, hj⟩ ⟨i, hi⟩ (fun z => e (Fin.mk.inj z))) ht ht'))
end Seq
theorem own_lt28 {x : Int32} (h : x < (24 : Int32)) : x < (28 : Int32) := by
  rw [Int32.lt_iff_toInt_lt, show (24 : Int32).toInt = 24 from by decide] at h
  rw [Int32.lt_iff_toInt_lt, show (28 : Int32).toInt = 28 from by decide]
  omega
theorem own_padl (vs : List Value) (v : Value) (n : Nat) : n ≤ (vs ++ List.replicate n v).length := by simp
theorem own_nlt {x y : Int32} (h : ¬ x < y) : y.toNatClampNeg ≤ x.toNatClampNeg := by
  rw [Int32.lt_iff_toInt_lt] at h
  have e1 : x.toNatClampNeg = x.toInt.toNat := rfl
  have e2 : y.toNatClampNeg = y.toInt.toNat := rfl
  omega
theorem own_ne31 {x : Int32} (h : x < (24 : Int32)) (q : x = (31 : Int32)) : False := by
  subst q
  exact absurd h (by decide)
def own_i (n : Nat) : Int32 := Int32.ofNat n
def own_l (n : Nat) : Int64 := Int64.ofNat n
theorem own_ti {n : Nat} (h : n < 2147483648) : (own_i n).toInt = n := by unfold own_i; rw [Int32.toInt_ofNat_of_lt (by omega)]
theorem own_tl {n : Nat} (h : n < 2147483648) : (own_l n).toInt = n := by unfold own_l; rw [Int64.toInt_ofNat_of_lt (by omega)]
theorem own_tc {n : Nat} (h : n < 2147483648) : (own_i n).toNatClampNeg = n := by show (own_i n).toInt.toNat = n; rw [own_ti h]; omega
theorem own_ilt {a b : Nat} (ha : a < 2147483648) (hb : b < 2147483648) : own_i a < own_i b ↔ a < b := by rw [Int32.lt_iff_toInt_lt, own_ti ha, own_ti hb]; omega
theorem own_ieq {a b : Nat} (ha : a < 2147483648) (hb : b < 2147483648) : own_i a = own_i b ↔ a = b := ⟨fun h => by have q := congrArg Int32.toInt h; rw [own_ti ha, own_ti hb] at q; omega, fun h => h ▸ rfl⟩
theorem own_nn {n : Nat} (h : n < 2147483648) : ¬ own_i n < 0 := by rw [Int32.lt_iff_toInt_lt, own_ti h]; have : (0 : Int32).toInt = 0 := rfl; omega
theorem own_iadd (a b : Nat) : own_i a + own_i b = own_i (a + b) := by unfold own_i; exact (Int32.ofNat_add a b).symm
theorem own_isub (a b : Nat) : own_i (a + b) - own_i a = own_i b := by rw [← own_iadd, Int32.add_comm, Int32.add_sub_cancel]
theorem own_isubL {a b : Nat} (h : a ≤ b) : own_i b - own_i a = own_i (b - a) := by have q := own_isub a (b - a); rwa [show a + (b - a) = b by omega] at q
theorem own_imul2 (a : Nat) : (2 : Int32) * own_i a = own_i (2 * a) := by unfold own_i; exact (Int32.ofNat_mul 2 a).symm
theorem own_ladd (a b : Nat) : own_l a + own_l b = own_l (a + b) := by unfold own_l; exact (Int64.ofNat_add a b).symm
theorem own_lsub {a b : Nat} (h : a ≤ b) : own_l b - own_l a = own_l (b - a) := by
  have q : own_l (a + (b - a)) - own_l a = own_l (b - a) := by rw [← own_ladd, Int64.add_comm, Int64.add_sub_cancel]
  rwa [show a + (b - a) = b by omega] at q
theorem own_lmul2 (a : Nat) : (2 : Int64) * own_l a = own_l (2 * a) := by unfold own_l; exact (Int64.ofNat_mul 2 a).symm
theorem own_llt {a b : Nat} (ha : a < 2147483648) (hb : b < 2147483648) : own_l a < own_l b ↔ a < b := by rw [Int64.lt_iff_toInt_lt, own_tl ha, own_tl hb]; omega
theorem own_leq {a b : Nat} (ha : a < 2147483648) (hb : b < 2147483648) : own_l a = own_l b ↔ a = b := ⟨fun h => by have q := congrArg Int64.toInt h; rw [own_tl ha, own_tl hb] at q; omega, fun h => h ▸ rfl⟩
theorem own_i2l {a : Nat} (h : a < 2147483648) : (own_i a).toInt64 = own_l a := by apply Int64.toInt_inj.mp; rw [Int32.toInt_toInt64, own_ti h, own_tl h]
theorem own_l2iF : ∀ a : Fin 64, (own_l a.1).toInt32 = own_i a.1 := by decide +kernel
theorem own_l2i {a : Nat} (h : a < 64) : (own_l a).toInt32 = own_i a := own_l2iF ⟨a, h⟩
theorem own_by : ∀ n : Fin 24, (own_i (64 + n.1) &&& (255 : Int32)) = own_i (64 + n.1) ∧ (own_i (64 + n.1) &&& (31 : Int32)) = own_i n.1 ∧ ((own_i (64 + n.1)).toUInt32 >>> ((5 : Int32) &&& 31).toUInt32).toInt32 = (2 : Int32) ∧ ¬ own_i (64 + n.1) = (255 : Int32) ∧ own_i n.1 < (24 : Int32) ∧ ¬ own_i n.1 = (31 : Int32) := by decide +kernel
def own_c (x y : Nat) : Int32 := if x < y then -1 else if x = y then 0 else 1
theorem own_lmin {x : Nat} (h : x < 2147483648) : (own_l x + (-9223372036854775808 : Int64)).toInt = (x : Int) - 9223372036854775808 := by
  rw [Int64.toInt_add, own_tl h, show (-9223372036854775808 : Int64).toInt = -9223372036854775808 from by decide, Int.bmod_eq_of_le (by omega) (by omega)]; omega
theorem own_cmpU {x y : Nat} {r : Int32} (hx : x < 2147483648) (hy : y < 2147483648) (h : ((own_l x + (-9223372036854775808 : Int64)) < (own_l y + (-9223372036854775808 : Int64)) ∧ r = -1) ∨ (¬ (own_l x + (-9223372036854775808 : Int64)) < (own_l y + (-9223372036854775808 : Int64)) ∧ (own_l x + (-9223372036854775808 : Int64)) = (own_l y + (-9223372036854775808 : Int64)) ∧ r = 0) ∨ (¬ (own_l x + (-9223372036854775808 : Int64)) < (own_l y + (-9223372036854775808 : Int64)) ∧ ¬ (own_l x + (-9223372036854775808 : Int64)) = (own_l y + (-9223372036854775808 : Int64)) ∧ r = 1)) : r = own_c x y := by
  have l : ((own_l x + (-9223372036854775808 : Int64)) < (own_l y + (-9223372036854775808 : Int64))) ↔ x < y := by rw [Int64.lt_iff_toInt_lt, own_lmin hx, own_lmin hy]; omega
  have q : ((own_l x + (-9223372036854775808 : Int64)) = (own_l y + (-9223372036854775808 : Int64))) ↔ x = y := ⟨fun e => by have z := congrArg Int64.toInt e; rw [own_lmin hx, own_lmin hy] at z; omega, fun e => e ▸ rfl⟩
  unfold own_c
  rcases h with ⟨a, b⟩ | ⟨a, b, c⟩ | ⟨a, b, c⟩
  · rw [if_pos (l.mp a)]; exact b
  · rw [if_neg (fun z => a (l.mpr z)), if_pos (q.mp b)]; exact c
  · rw [if_neg (fun z => a (l.mpr z)), if_neg (fun z => b (q.mpr z))]; exact c
theorem own_cge {x y : Nat} (h : y ≤ x) : ¬ own_c x y < 0 := by
  unfold own_c; rw [if_neg (by omega)]; split <;> decide
theorem own_cle {x y : Nat} (h : x ≤ y) : ¬ (0 : Int32) < own_c x y := by
  unfold own_c; split
  · decide
  · rw [if_pos (by omega)]; decide
def own_gr (o x : Nat) : Nat := if o < x then max x (2 * o) else o
theorem own_grT {o x : Nat} (h : o < x) : own_gr o x = max x (2 * o) := if_pos h
theorem own_grF {o x : Nat} (h : ¬ o < x) : own_gr o x = o := if_neg h
theorem own_mx {r : Int32} {x y : Nat} (hx : x < 2147483648) (hy : y < 2147483648) (h : (own_i x < own_i y ∧ r = own_i y) ∨ (¬ own_i x < own_i y ∧ r = own_i x)) : r = own_i (max x y) := by
  rw [own_ilt hx hy] at h
  rcases h with ⟨a, b⟩ | ⟨a, b⟩
  · rw [b, Nat.max_eq_right (by omega)]
  · rw [b, Nat.max_eq_left (by omega)]
theorem own_mxl {r : Int64} {x y : Nat} (hx : x < 2147483648) (hy : y < 2147483648) (h : (own_l x < own_l y ∧ r = own_l y) ∨ (¬ own_l x < own_l y ∧ r = own_l x)) : r = own_l (max x y) := by
  rw [own_llt hx hy] at h
  rcases h with ⟨a, b⟩ | ⟨a, b⟩
  · rw [b, Nat.max_eq_right (by omega)]
  · rw [b, Nat.max_eq_left (by omega)]
def own_dt (o p : Nat) : Nat := if o < p ∨ 2 * p < o then p else o
def own_lev (d : Nat) : Nat := if d ≤ 8 then 0 else if d ≤ 16 then 8 else 24
theorem own_z0 : (0 : Int32).toNatClampNeg = 0 := rfl
theorem own_irr (x : Int64) : ¬ x < x := by rw [Int64.lt_iff_toInt_lt]; omega
theorem own_isucc (i : Nat) : own_i i + (1 : Int32) = own_i (i + 1) := own_iadd i 1
theorem own_ipred {i : Nat} (h : 0 < i) : own_i i - (1 : Int32) = own_i (i - 1) := own_isubL (a := 1) h
theorem own_ne0 {i : Nat} (h : 0 < i) (hb : i < 2147483648) : ¬ own_i i = 0 := fun q => by have z := (own_ieq (b := 0) hb (by omega)).mp q; omega
theorem own_lne0 {i : Nat} (h : 0 < i) (hb : i < 2147483648) : ¬ own_l i = 0 := fun q => by have z := (own_leq (b := 0) hb (by omega)).mp q; omega
theorem own_mvle {a p x : Nat} (h : p ≤ x) (hx : x < 2147483648) : (own_i (a + p) - own_i a).toNatClampNeg ≤ (own_i x).toNatClampNeg := by rw [own_isub, own_tc (n := p) (by omega), own_tc hx]; exact h
theorem own_mvle0 {p x : Nat} (h : p ≤ x) (hx : x < 2147483648) : (own_i p - (0 : Int32)).toNatClampNeg ≤ (own_i x).toNatClampNeg := by rw [Int32.sub_zero, own_tc (n := p) (by omega), own_tc hx]; exact h
theorem own_levA {d : Nat} (h : d ≤ 8) : own_lev d = 0 := if_pos h
theorem own_levB {d : Nat} (h : ¬ d ≤ 8) (h2 : d ≤ 16) : own_lev d = 8 := by unfold own_lev; rw [if_neg h, if_pos h2]
theorem own_levC {d : Nat} (h : ¬ d ≤ 8) (h2 : ¬ d ≤ 16) : own_lev d = 24 := by unfold own_lev; rw [if_neg h, if_neg h2]
theorem own_41 {x : Int32} (h : ¬ x < (41 : Int32)) {i : Nat} (hi : i ≤ 41) : ¬ x < own_i i := by
  rw [Int32.lt_iff_toInt_lt, show (41 : Int32).toInt = 41 from by decide] at h
  rw [Int32.lt_iff_toInt_lt, own_ti (by omega)]
  omega
theorem own_by1 {n : Nat} (h : n < 24) : (own_i (64 + n) &&& (255 : Int32)) = own_i (64 + n) ∧ (own_i (64 + n) &&& (31 : Int32)) = own_i n ∧ ((own_i (64 + n)).toUInt32 >>> ((5 : Int32) &&& 31).toUInt32).toInt32 = (2 : Int32) ∧ ¬ own_i (64 + n) = (255 : Int32) ∧ own_i n < (24 : Int32) ∧ ¬ own_i n = (31 : Int32) := own_by ⟨n, h⟩
theorem own_getset {α : Type} (l : List α) (v d : α) {i : Nat} (h : i < l.length) : (l.set i v).getD i d = v := by simp [List.getD, h]
theorem own_anti {x y : Int32} (h : ¬ x < y) (g : ¬ y < x) : x = y := by
  rw [Int32.lt_iff_toInt_lt] at h g
  exact Int32.toInt_inj.mp (by omega)
def own_S (Z : State) (h0 h : Heap) (n0 : Nat) (s_ bu ow od ub nl nc : Addr) (A_ K_ i L_ : Nat) (mx mi : Int32) (kb : ClassId) (vb : List Value) : Prop :=
  ∃ (od' ub' : Addr) (kq ku : ClassId) (vq vu : List Value) (sk : Int32) (kl cl : Int64), own_seq Z h s_ [(.ref bu), (.ref ow), (.int (own_i A_)), (.int (own_i (18 + K_))), (.int (own_i i)), (.ref od'), (.ref ub'), (.int (own_i i)), (.long (0 : Int64)), (.long kl), (.int sk), (.long cl), (.ref nl), (.int (0 : Int32)), (.ref nc), (.int (0 : Int32)), (.int (0 : Int32)), (.long (0 : Int64)), (.int (0 : Int32)), (.int mx), (.int mi), (.int (0 : Int32))] ∧ Arv Z h bu kb .byte (41 : Int32) vb (.int (0 : Int32)) ∧ Arv Z h od' kq .long (own_i L_) vq (.long (0 : Int64)) ∧ Arv Z h ub' ku .int (own_i L_) vu (.int (0 : Int32)) ∧ (0 < i → vu.getD (i - 1) (.int (0 : Int32)) = .int (4 : Int32)) ∧ n0 ≤ od' ∧ n0 ≤ ub' ∧ s_ ≠ od' ∧ s_ ≠ ub' ∧ od' ≠ ub' ∧ bu ≠ od' ∧ bu ≠ ub' ∧ (od' = od ∨ h0.size ≤ od') ∧ (ub' = ub ∨ h0.size ≤ ub') ∧ Keep h0 h [s_, od, ub] ∧ Old Z n0 h ∧ n0 ≤ h.size
def own_rFL : List (String × String) := [("source", "[B"), ("position", "I"), ("limit", "I"), ("maxItems", "I"), ("abridged", "Z"), ("chunkedLengths", "[J"), ("itemsLeft", "I")]
def own_rfn (i : Nat) : String := (own_rFL.getD i ("", "")).1
def own_rfd (i : Nat) : String := (own_rFL.getD i ("", "")).2
def own_rd (Z : State) (h : Heap) (s : Addr) (vs : List Value) : Prop := Exa Z h s "com/example/ariel/ariel/cbor/CborReader" ∧ vs.length = 7 ∧ ∀ i, i < 7 → Fld Z h s "com/example/ariel/ariel/cbor/CborReader" (own_rfn i) (own_rfd i) (vs.getD i .null)
theorem own_rlaid {Z : State} {a0 : Array Value} (hw : ∀ d ∈ tables_1, d.before a0 Z = true) : ∀ i, i < 7 → Laid Z a0 "com/example/ariel/ariel/cbor/CborReader" "com/example/ariel/ariel/cbor/CborReader" (own_rfn i) (own_rfd i)
  | 0, _ => Or.inr (wd_ hw 129 rfl)
  | 1, _ => Or.inl (wd_ hw 131 rfl)
  | 2, _ => Or.inr (wd_ hw 133 rfl)
  | 3, _ => Or.inr (wd_ hw 135 rfl)
  | 4, _ => Or.inr (wd_ hw 137 rfl)
  | 5, _ => Or.inr (wd_ hw 139 rfl)
  | 6, _ => Or.inl (wd_ hw 146 rfl)
  | _ + 7, q => absurd q (by omega)
theorem own_rfdp : ∀ i : Fin 7, ∃ t, parseFieldDescriptor (own_rfd i.val) = some t
  | ⟨0, _⟩ => ⟨(.array .byte), (by decide : parseFieldDescriptor "[B" = some (.array .byte))⟩
  | ⟨1, _⟩ => ⟨.int, (by decide : parseFieldDescriptor "I" = some .int)⟩
  | ⟨2, _⟩ => ⟨.int, (by decide : parseFieldDescriptor "I" = some .int)⟩
  | ⟨3, _⟩ => ⟨.int, (by decide : parseFieldDescriptor "I" = some .int)⟩
  | ⟨4, _⟩ => ⟨.boolean, (by decide : parseFieldDescriptor "Z" = some .boolean)⟩
  | ⟨5, _⟩ => ⟨(.array .long), (by decide : parseFieldDescriptor "[J" = some (.array .long))⟩
  | ⟨6, _⟩ => ⟨.int, (by decide : parseFieldDescriptor "I" = some .int)⟩
  | ⟨_ + 7, q⟩ => absurd q (by omega)
theorem own_rfne : ∀ i j : Fin 7, i ≠ j → own_rfn i.val ≠ own_rfn j.val := by decide +kernel
section Rd
variable {Z : State} {a0 : Array Value} {h h' : Heap} {s a : Addr} {vs : List Value} {v : Value} {sl : Nat} {ws : List Addr}
theorem own_rat {Z : State} {h : Heap} {s : Addr} {vs : List Value} {v : Value} (Q : own_rd Z h s vs) (i : Nat) (hi : i < 7) (hv : vs.getD i .null = v) : Fld Z h s "com/example/ariel/ariel/cbor/CborReader" (own_rfn i) (own_rfd i) v := hv ▸ Q.2.2 i hi
theorem own_rd.lt (Q : own_rd Z h s vs) : s < h.size := (Q.2.2 0 (by decide)).lt
theorem own_rd.ext (Q : own_rd Z h s vs) (E : Ext h h') : own_rd Z h' s vs := ⟨Q.1.ext E, Q.2.1, fun i q => (Q.2.2 i q).ext E⟩
theorem own_rd.keep (Q : own_rd Z h s vs) (K : Keep h h' ws) (q : s ∉ ws) : own_rd Z h' s vs := ⟨Q.1.keep K, Q.2.1, fun i r => (Q.2.2 i r).keep K q⟩
theorem own_rd.other (Q : own_rd Z h s vs) (W : Wr h h' a sl v) (q : s ≠ a) : own_rd Z h' s vs := ⟨Q.1.wr W, Q.2.1, fun i r => (Q.2.2 i r).other W (Or.inl q)⟩
theorem own_rd.put (hw : ∀ d ∈ tables_1, d.before a0 Z = true) (Q : own_rd Z h s vs) {i : Nat} (hi : i < 7) (W : Wr h h' s (RoadKit.slotOf Z "com/example/ariel/ariel/cbor/CborReader" (own_rfn i) (own_rfd i)) v) : own_rd Z h' s (vs.set i v) := by
  refine ⟨Q.1.wr W, by rw [List.length_set]; exact Q.2.1, fun j hj => ?_⟩
  by_cases e : j = i
  · subst e
    have q : (vs.set j v).getD j .null = v := by simp [List.getD, Q.2.1, hj]
    rw [q]
    exact (Q.2.2 j hj).same W
  · have q : (vs.set i v).getD j .null = vs.getD j .null := by simp [List.getD, List.getElem?_set, Ne.symm e]
    rw [q]
    obtain ⟨t, ht⟩ := own_rfdp ⟨j, hj⟩
    obtain ⟨t', ht'⟩ := own_rfdp ⟨i, hi⟩
    exact (Q.2.2 j hj).other W (Or.inr (slot_ne (own_rlaid hw j hj) (own_rlaid hw i hi) (own_rfne ⟨j, hj⟩ ⟨i, hi⟩ (fun z => e (Fin.mk.inj z))) ht ht'))
end Rd
theorem own_ckF : ∀ n : Fin 24, ¬ (((41 : Int32) ||| own_i 17) ||| own_i (0 + 1 + n.1)) < (0 : Int32) ∧ ¬ ((41 : Int32) - own_i 17) < own_i (0 + 1 + n.1) := by decide +kernel
theorem own_ck {n : Nat} (h : n < 24) : ¬ (((41 : Int32) ||| own_i 17) ||| own_i (0 + 1 + n)) < (0 : Int32) ∧ ¬ ((41 : Int32) - own_i 17) < own_i (0 + 1 + n) := own_ckF ⟨n, h⟩
theorem own_mi1 {x : Int32} (h : ¬ x < (1 : Int32)) : ¬ x.toInt64 < (1 : Int64) := by
  rw [Int32.lt_iff_toInt_lt, show (1 : Int32).toInt = 1 from by decide] at h
  rw [Int64.lt_iff_toInt_lt, Int32.toInt_toInt64, show (1 : Int64).toInt = 1 from by decide]
  exact h
theorem own_cat {v : Value} (h : v.isRef = true) : v.category = 1 := by cases v <;> first | rfl | cases h
def own_pp (D K N : Nat) : Nat := if D = 0 ∧ K = N then 0 else D + 1 + K
def own_pa (A D K N : Nat) : Nat := if D = 0 ∧ K = N then 0 else A
theorem own_ppF {D K N : Nat} (h : ¬ (D = 0 ∧ K = N)) : own_pp D K N = D + 1 + K := if_neg h
theorem own_paF {A D K N : Nat} (h : ¬ (D = 0 ∧ K = N)) : own_pa A D K N = A := if_neg h
theorem own_ppT {D K N : Nat} (h : D = 0 ∧ K = N) : own_pp D K N = 0 := if_pos h
theorem own_paT {A D K N : Nat} (h : D = 0 ∧ K = N) : own_pa A D K N = 0 := if_pos h
def own_I (Z : State) (h : Heap) (n0 : Nat) (s_ pz nl nc : Addr) (io : Bool) (O_ P_ lv : Nat) : Prop :=
  ∃ (bu ow od ub : Addr) (A_ : Nat) (sc dp sk mx mi : Int32) (sl kl cl : Int64) (kb ko kq kp : ClassId) (nb : Nat) (vb vo vq vp : List Value), own_seq Z h s_ [(.ref bu), (.ref ow), (.int (own_i A_)), (.int (own_i (A_ + P_))), (.int sc), (.ref od), (.ref ub), (.int dp), (.long sl), (.long kl), (.int sk), (.long cl), (.ref nl), (.int (0 : Int32)), (.ref nc), (.int (0 : Int32)), (.int (0 : Int32)), (.long (0 : Int64)), (.int (0 : Int32)), (.int mx), (.int mi), (.int (0 : Int32))] ∧ Arv Z h bu kb .byte (own_i nb) vb (.int (0 : Int32)) ∧ Arv Z h ow ko .byte (own_i O_) vo (.int (0 : Int32)) ∧ Arv Z h od kq .long (own_i (8 + lv)) vq (.long (0 : Int64)) ∧ Arv Z h pz kp .byte (40 : Int32) vp (.int (0 : Int32)) ∧ n0 ≤ s_ ∧ s_ ≠ bu ∧ s_ ≠ ow ∧ s_ ≠ od ∧ s_ ≠ pz ∧ pz ≠ ow ∧ od ≠ ow ∧ A_ + P_ ≤ nb ∧ nb ≤ 2000 ∧ O_ ≤ 2000 ∧ (io = true → bu = ow ∧ A_ = 0 ∧ P_ ≤ O_) ∧ (io = false → bu ≠ ow) ∧ (O_ = 0 ∨ n0 ≤ ow) ∧ Old Z n0 h ∧ n0 ≤ h.size
theorem own_I.old {Z : State} {h : Heap} {n0 : Nat} {s_ pz nl nc : Addr} {io : Bool} {O_ P_ lv : Nat} (J : own_I Z h n0 s_ pz nl nc io O_ P_ lv) : Old Z n0 h ∧ n0 ≤ h.size ∧ Exa Z h s_ "com/example/ariel/ariel/cbor/CborSequence" ∧ (io = true → P_ ≤ O_) := by
  obtain ⟨bu, ow, od, ub, A_, sc, dp, sk, mx, mi, sl, kl, cl, kb, ko, kq, kp, nb, vb, vo, vq, vp, Q, Vb, Vo, Vq, Vp, g_s_, hsb, hso, hsq, hsp, hpo, hqo, hab, hnb, hO, hT, hF, hg, O, Z0⟩ := J
  exact ⟨O, Z0, Q.1, fun q => (hT q).2.2⟩
theorem own_neT {x t ow n : Nat} (h : x ≠ ow) (l : x < n) (ht : t = ow ∨ n ≤ t) : x ≠ t := ht.elim (fun q => q ▸ h) (fun q => Nat.ne_of_lt (Nat.lt_of_lt_of_le l q))
theorem own_grge (o x : Nat) : x ≤ own_gr o x := by unfold own_gr; split <;> omega
theorem own_grle {o x c : Nat} (h : x ≤ c) (g : 2 * o ≤ c) : own_gr o x ≤ c := by unfold own_gr; split <;> omega
theorem own_iadd0 (m : Nat) : (0 : Int32) + own_i m = own_i (0 + m) := own_iadd 0 m
theorem own_fpe {o v : Nat} (ho : o < 2147483648) (hv : v < 2147483648) : ((((own_i o).toInt64 + ((4 : Int64) * (0 : Int32).toInt64)) + ((8 : Int64) * (0 : Int32).toInt64)) + ((12 : Int64) * (own_i (8 + v) - (8 : Int32)).toInt64)) = own_l o + own_l (12 * v) := by
  rw [show (own_i (8 + v) - (8 : Int32)) = own_i v from own_isub 8 v, own_i2l ho, own_i2l hv, show ((4 : Int64) * (0 : Int32).toInt64) = 0 from by decide, show ((8 : Int64) * (0 : Int32).toInt64) = 0 from by decide, Int64.add_zero, Int64.add_zero]
  have q : (12 : Int64) * own_l v = own_l (12 * v) := by unfold own_l; exact (Int64.ofNat_mul 12 v).symm
  rw [q]
def own_Z : Value := .int (0 : Int32)
def own_X : Value := .int (nar .byte (-97 : Int32))
def own_b (io : Bool) : Int32 := if io then 1 else 0
theorem own_bT {io : Bool} (h : ¬ own_b io = (0 : Int32)) : io = true := by cases io; exact absurd rfl h; rfl
theorem own_dtT {o p : Nat} (h : o < p ∨ 2 * p < o) : own_dt o p = p := if_pos h
theorem own_dtF {o p : Nat} (h : ¬ (o < p ∨ 2 * p < o)) : own_dt o p = o := if_neg h
theorem own_rem {y : Int32} {m : Nat} (hy : 0 ≤ y.toInt) (hm : 0 < m) (hb : m < 2147483648) : ∃ r, r < m ∧ y % own_i m = own_i r := by
  have q := (c_irem y (own_i m) m (own_ti hb)).1 hy
  have l1 := Int.emod_lt_of_pos y.toInt (show (0 : Int) < m by omega)
  have l2 := Int.emod_nonneg y.toInt (show (m : Int) ≠ 0 by omega)
  refine ⟨(y.toInt % m).toNat, by omega, Int32.toInt_inj.mp ?_⟩
  rw [q, own_ti (by omega)]
  omega
theorem own_m31 (x : Int32) : 0 ≤ (x &&& (2147483647 : Int32)).toInt := by have := c_mask x 2147483647 31 (by decide) (by decide); omega
theorem own_m8 (x : Int32) : 0 ≤ (x &&& (255 : Int32)).toInt := by have := c_mask x 255 8 (by decide) (by decide); omega
theorem own_orF : ∀ n : Fin 24, ((64 : Int32) ||| own_i n.1).toInt8.toInt32 = own_i (64 + n.1) ∧ nar .byte (own_i (64 + n.1)) = own_i (64 + n.1) := by decide +kernel
theorem own_or {n : Nat} (h : n < 24) : ((64 : Int32) ||| own_i n).toInt8.toInt32 = own_i (64 + n) ∧ nar .byte (own_i (64 + n)) = own_i (64 + n) := own_orF ⟨n, h⟩
theorem own_mxge {a b r : Int32} (h : (a < b ∧ r = b) ∨ (¬ a < b ∧ r = a)) : ¬ r < b := by
  rcases h with ⟨_, q⟩ | ⟨g, q⟩
  · rw [q, Int32.lt_iff_toInt_lt]; omega
  · rw [q]; exact g
theorem own_41to1 {x : Int32} (h : ¬ x < (41 : Int32)) : ¬ x < (1 : Int32) := by
  rw [Int32.lt_iff_toInt_lt, show (41 : Int32).toInt = 41 from by decide] at h
  rw [Int32.lt_iff_toInt_lt, show (1 : Int32).toInt = 1 from by decide]
  omega
theorem own_pale {A D K N : Nat} (h : A + D = 17) (hk : K ≤ 23) : own_pa A D K N + own_pp D K N ≤ 41 := by unfold own_pa own_pp; split <;> omega
theorem own_p1 (x y d : Value) : ∀ j, j < 17 → ([x, x, x, x, x, x, x, x, x, x, x, x, x, x, x, x, x, y, x, x, x, x, x, x, x, x, x, x, x, x, x, x, x, x, x, x, x, x, x, x, x] : List Value).getD j d = x
  | 0, _ => rfl
  | 1, _ => rfl
  | 2, _ => rfl
  | 3, _ => rfl
  | 4, _ => rfl
  | 5, _ => rfl
  | 6, _ => rfl
  | 7, _ => rfl
  | 8, _ => rfl
  | 9, _ => rfl
  | 10, _ => rfl
  | 11, _ => rfl
  | 12, _ => rfl
  | 13, _ => rfl
  | 14, _ => rfl
  | 15, _ => rfl
  | 16, _ => rfl
  | _ + 17, q => absurd q (by omega)
section OwnS
variable {Z : State} {args : Array Value} {t u : Term} {a b : Addr} {ty : FieldType} {cl : Cell}
theorem own_arr {n : Int32} (ev : t.eval args Z none [] Z = some (.ref a)) (x : (Jvm.Cond.arrayOf t ty).value args Z none Z [] = some true) (xl : (Jvm.Cond.eq (.length t) (.int n)).value args Z none Z [] = some true) : ∃ cl, Arr Z Z.heap a cl ty ∧ cl.slots.size < 2 ^ 31 ∧ cl.slots.size.toInt32 = n ∧ Z.arrayAt? a = some cl := by
  obtain ⟨cl, A⟩ := Arr.start ev x
  have ha : Z.arrayAt? a = some cl := Arr.fin (Vm.Alike.refl _) A
  have hL := eqv_i (Term.int_eval n) xl
  by_cases q : cl.slots.size < 2 ^ 31
  · rw [len_f ev ha q] at hL
    cases hL
    exact ⟨cl, A, q, rfl, ha⟩
  · exfalso
    simp [Term.eval, ev, ha, q] at hL
end OwnS
theorem i8_0 : Ins1 prog_32_method_12_code 0 (.aload_n 0) 1 1 := ⟨by decide +kernel, rfl⟩
theorem i8_1 : Ins1 prog_32_method_12_code 1 (.getfield 125) 3 4 := ⟨by decide +kernel, rfl⟩
theorem i8_4 : Ins1 prog_32_method_12_code 4 (.lconst 0) 1 5 := ⟨by decide +kernel, rfl⟩
theorem i8_5 : Ins1 prog_32_method_12_code 5 (.lcmp) 1 6 := ⟨by decide +kernel, rfl⟩
theorem i8_6 : InsB prog_32_method_12_code 6 (.ifCond .ne 10) 10 9 16 := ⟨by decide +kernel, rfl, by decide, by decide⟩
theorem i8_9 : Ins1 prog_32_method_12_code 9 (.aload_n 0) 1 10 := ⟨by decide +kernel, rfl⟩
theorem i8_10 : Ins1 prog_32_method_12_code 10 (.getfield 135) 3 13 := ⟨by decide +kernel, rfl⟩
theorem i8_13 : InsB prog_32_method_12_code 13 (.ifCond .eq 7) 7 16 20 := ⟨by decide +kernel, rfl, by decide, by decide⟩
theorem i8_20 : Ins1 prog_32_method_12_code 20 (.iconst 0) 1 21 := ⟨by decide +kernel, rfl⟩
theorem i8_21 : Ins1 prog_32_method_12_code 21 (.ireturn) 1 22 := ⟨by decide +kernel, rfl⟩
theorem pn_com_example_ariel_ariel_cbor_CborSequence : plainName "com/example/ariel/ariel/cbor/CborSequence" = true := by first | (simp [plainName, overriddenIn]; done) | decide +kernel
theorem ef_8 (m : MethodId) (s_ : Addr) : entryFrame m #[(.ref s_)] 1 = mkF m 0 #[.val (.ref s_)] [] := by first | (simp [entryFrame, mkF, argsToLocals, Value.category]; done) | rfl
theorem rm8 (l : Launch) (Z : State) (a0 : Array Value) (hw : ∀ d ∈ tables_1, d.before a0 Z = true) (ws : List Jvm.Cond) (s_ : Addr) (bu ow od ub nl nc : Addr) (st en sc dp sk mx mi : Int32) (sl kl cl : Int64) (h0 : Heap) (n0 : Nat) (Z0 : n0 ≤ h0.size) (Q : own_seq Z h0 s_ [(.ref bu), (.ref ow), (.int st), (.int en), (.int sc), (.ref od), (.ref ub), (.int dp), (.long sl), (.long kl), (.int sk), (.long cl), (.ref nl), (.int (0 : Int32)), (.ref nc), (.int (0 : Int32)), (.int (0 : Int32)), (.long (0 : Int64)), (.int (0 : Int32)), (.int mx), (.int mi), (.int (0 : Int32))]) :
    Met1 l (⟨"com/example/ariel/ariel/cbor/CborSequence", "inByteString", "()Z"⟩ : MethodName) prog_32_method_12_code 1 (some .boolean) ws ({ frames := 0, cells := 0, slots := 0, locals := 0 } : Room) #[(.ref s_)] Z h0 (RV fun vv h L => vv = .int 0 ∧ h = h0 ∧ Fr n0 L) := by
  refine met_of (plainFor_of_name pn_com_example_ariel_ariel_cbor_CborSequence) ?_
  intro p e s m below meth c T0 X0 hx hby hml hZ hown hnm hret hlk e0 es
  have N0 := Fr.nil n0
  refine Gd.cast (ef_8 m s_) ?_
  refine g_aloadN X0 hx hby i8_0 rfl rfl ?_
  refine g_getfield X0 hx hby hZ hown (host := "") (Or.inl (wd_ hw 67 rfl)) Via.refl e0 (own_at Q 17 (by decide) (v := (.long (0 : Int64))) rfl) i8_1 fun T1 X1 e1 => ?_
  refine g_lconst X1 hx hby i8_4 (z := (0 : Int64)) (by decide) ?_
  refine g_lcmp_ne X1 hx hby i8_5 i8_6 (fun c5_2 => False.elim (absurd c5_2 (by decide))) fun c5_2 => ?_
  refine g_aloadN X1 hx hby i8_9 rfl rfl ?_
  refine g_getfield X1 hx hby hZ hown (host := "") (Or.inl (wd_ hw 69 rfl)) Via.refl e1 (own_at Q 18 (by decide) (v := (.int (0 : Int32))) rfl) i8_10 fun T3 X3 e3 => ?_
  refine g_if_eq X3 hx hby i8_13 (fun c13_4 => ?_) (fun c13_4 => False.elim (absurd c13_4 (by decide)))
  refine g_iconst X3 hx hby i8_20 (z := (0 : Int32)) (by decide) ?_
  refine g_ireturnN X3 hx hby (ty := .boolean) hret (by simp) hlk i8_21 (by decide) (by decide) ?_
  exact ⟨_, rfl, rfl, e3, N0⟩
theorem i11_0 : Ins1 prog_32_method_16_code 0 (.iload_n 1) 1 1 := ⟨by decide +kernel, rfl⟩
theorem i11_1 : Ins1 prog_32_method_16_code 1 (.aload_n 0) 1 2 := ⟨by decide +kernel, rfl⟩
theorem i11_2 : Ins1 prog_32_method_16_code 2 (.getfield 65) 3 5 := ⟨by decide +kernel, rfl⟩
theorem i11_5 : InsB prog_32_method_16_code 5 (.if_icmp .le 20) 20 8 25 := ⟨by decide +kernel, rfl, by decide, by decide⟩
theorem i11_25 : Ins1 prog_32_method_16_code 25 (.return_) 1 26 := ⟨by decide +kernel, rfl⟩
theorem ef_11 (m : MethodId) (s_ : Addr) (p1 : Int32) : entryFrame m #[(.ref s_), (.int p1)] 2 = mkF m 0 #[.val (.ref s_), .val (.int p1)] [] := by first | (simp [entryFrame, mkF, argsToLocals, Value.category]; done) | rfl
theorem rm11 (l : Launch) (Z : State) (a0 : Array Value) (hw : ∀ d ∈ tables_1, d.before a0 Z = true) (ws : List Jvm.Cond) (s_ : Addr) (p1 : Int32) (bu ow od ub nl nc : Addr) (st en sc dp sk mx mi : Int32) (sl kl cl : Int64) (h0 : Heap) (n0 : Nat) (Z0 : n0 ≤ h0.size) (Q : own_seq Z h0 s_ [(.ref bu), (.ref ow), (.int st), (.int en), (.int sc), (.ref od), (.ref ub), (.int dp), (.long sl), (.long kl), (.int sk), (.long cl), (.ref nl), (.int (0 : Int32)), (.ref nc), (.int (0 : Int32)), (.int (0 : Int32)), (.long (0 : Int64)), (.int (0 : Int32)), (.int mx), (.int mi), (.int (0 : Int32))]) (hp : ¬ mx < p1) :
    Met1 l (⟨"com/example/ariel/ariel/cbor/CborSequence", "checkHeld", "(I)V"⟩ : MethodName) prog_32_method_16_code 2 none ws ({ frames := 0, cells := 0, slots := 0, locals := 0 } : Room) #[(.ref s_), (.int p1)] Z h0 (RN fun h L => h = h0 ∧ Fr n0 L) := by
  refine met_of (plainFor_of_name pn_com_example_ariel_ariel_cbor_CborSequence) ?_
  intro p e s m below meth c T0 X0 hx hby hml hZ hown hnm hret hlk e0 es
  have N0 := Fr.nil n0
  refine Gd.cast (ef_11 m s_ p1) ?_
  refine g_iloadN X0 hx hby i11_0 rfl ?_
  refine g_aloadN X0 hx hby i11_1 rfl rfl ?_
  refine g_getfield X0 hx hby hZ hown (host := "") (Or.inl (wd_ hw 42 rfl)) Via.refl e0 (own_at Q 19 (by decide) (v := (.int mx)) rfl) i11_2 fun T1 X1 e1 => ?_
  refine g_icmp_le X1 hx hby i11_5 (fun c5_2 => ?_) (fun c5_2 => False.elim (hp c5_2))
  refine g_return X1 hx hby hret hlk i11_25 (by decide) (by decide) ?_
  exact ⟨rfl, e1, N0⟩
theorem i45_0 : Ins1 prog_32_method_11_code 0 (.aload_n 0) 1 1 := ⟨by decide +kernel, rfl⟩
theorem i45_1 : Ins1 prog_32_method_11_code 1 (.getfield 80) 3 4 := ⟨by decide +kernel, rfl⟩
theorem i45_4 : Ins1 prog_32_method_11_code 4 (.aload_n 0) 1 5 := ⟨by decide +kernel, rfl⟩
theorem i45_5 : Ins1 prog_32_method_11_code 5 (.getfield 83) 3 8 := ⟨by decide +kernel, rfl⟩
theorem i45_8 : Ins1 prog_32_method_11_code 8 (.isub) 1 9 := ⟨by decide +kernel, rfl⟩
theorem i45_9 : Ins1 prog_32_method_11_code 9 (.aload_n 0) 1 10 := ⟨by decide +kernel, rfl⟩
theorem i45_10 : Ins1 prog_32_method_11_code 10 (.getfield 86) 3 13 := ⟨by decide +kernel, rfl⟩
theorem i45_13 : Ins1 prog_32_method_11_code 13 (.isub) 1 14 := ⟨by decide +kernel, rfl⟩
theorem i45_14 : Ins1 prog_32_method_11_code 14 (.ireturn) 1 15 := ⟨by decide +kernel, rfl⟩
theorem ef_45 (m : MethodId) (s_ : Addr) : entryFrame m #[(.ref s_)] 1 = mkF m 0 #[.val (.ref s_)] [] := by first | (simp [entryFrame, mkF, argsToLocals, Value.category]; done) | rfl
theorem rm45 (l : Launch) (Z : State) (a0 : Array Value) (hw : ∀ d ∈ tables_1, d.before a0 Z = true) (ws : List Jvm.Cond) (s_ : Addr) (bu ow od ub nl nc : Addr) (st en sc dp sk mx mi : Int32) (sl kl cl : Int64) (h0 : Heap) (n0 : Nat) (Z0 : n0 ≤ h0.size) (Q : own_seq Z h0 s_ [(.ref bu), (.ref ow), (.int st), (.int en), (.int sc), (.ref od), (.ref ub), (.int dp), (.long sl), (.long kl), (.int sk), (.long cl), (.ref nl), (.int (0 : Int32)), (.ref nc), (.int (0 : Int32)), (.int (0 : Int32)), (.long (0 : Int64)), (.int (0 : Int32)), (.int mx), (.int mi), (.int (0 : Int32))]) :
    Met1 l (⟨"com/example/ariel/ariel/cbor/CborSequence", "pending", "()I"⟩ : MethodName) prog_32_method_11_code 1 (some .int) ws ({ frames := 0, cells := 0, slots := 0, locals := 0 } : Room) #[(.ref s_)] Z h0 (RV fun vv h L => vv = .int ((en - st) - (0 : Int32)) ∧ h = h0 ∧ Fr n0 L) := by
  refine met_of (plainFor_of_name pn_com_example_ariel_ariel_cbor_CborSequence) ?_
  intro p e s m below meth c T0 X0 hx hby hml hZ hown hnm hret hlk e0 es
  have N0 := Fr.nil n0
  refine Gd.cast (ef_45 m s_) ?_
  refine g_aloadN X0 hx hby i45_0 rfl rfl ?_
  refine g_getfield X0 hx hby hZ hown (host := "") (Or.inl (wd_ hw 53 rfl)) Via.refl e0 (own_at Q 3 (by decide) (v := (.int en)) rfl) i45_1 fun T1 X1 e1 => ?_
  refine g_aloadN X1 hx hby i45_4 rfl rfl ?_
  refine g_getfield X1 hx hby hZ hown (host := "") (Or.inl (wd_ hw 55 rfl)) Via.refl e1 (own_at Q 2 (by decide) (v := (.int st)) rfl) i45_5 fun T2 X2 e2 => ?_
  refine g_isub X2 hx hby i45_8 ?_
  refine g_aloadN X2 hx hby i45_9 rfl rfl ?_
  refine g_getfield X2 hx hby hZ hown (host := "") (Or.inl (wd_ hw 81 rfl)) Via.refl e2 (own_at Q 16 (by decide) (v := (.int (0 : Int32))) rfl) i45_10 fun T3 X3 e3 => ?_
  refine g_isub X3 hx hby i45_13 ?_
  refine g_ireturn X3 hx hby hret hlk i45_14 (by decide) (by decide) ?_
  exact ⟨_, rfl, rfl, e3, N0⟩
theorem i39_0 : Ins1 prog_32_method_22_code 0 (.aload_n 0) 1 1 := ⟨by decide +kernel, rfl⟩
theorem i39_1 : Ins1 prog_32_method_22_code 1 (.getstatic 45) 3 4 := ⟨by decide +kernel, rfl⟩
theorem i39_4 : Ins1 prog_32_method_22_code 4 (.putfield 48) 3 7 := ⟨by decide +kernel, rfl⟩
theorem i39_7 : Ins1 prog_32_method_22_code 7 (.aload_n 0) 1 8 := ⟨by decide +kernel, rfl⟩
theorem i39_8 : Ins1 prog_32_method_22_code 8 (.iconst 0) 1 9 := ⟨by decide +kernel, rfl⟩
theorem i39_9 : Ins1 prog_32_method_22_code 9 (.putfield 172) 3 12 := ⟨by decide +kernel, rfl⟩
theorem i39_12 : Ins1 prog_32_method_22_code 12 (.aload_n 0) 1 13 := ⟨by decide +kernel, rfl⟩
theorem i39_13 : Ins1 prog_32_method_22_code 13 (.iconst 0) 1 14 := ⟨by decide +kernel, rfl⟩
theorem i39_14 : Ins1 prog_32_method_22_code 14 (.putfield 86) 3 17 := ⟨by decide +kernel, rfl⟩
theorem i39_17 : Ins1 prog_32_method_22_code 17 (.return_) 1 18 := ⟨by decide +kernel, rfl⟩
theorem ef_39 (m : MethodId) (s_ : Addr) : entryFrame m #[(.ref s_)] 1 = mkF m 0 #[.val (.ref s_)] [] := by first | (simp [entryFrame, mkF, argsToLocals, Value.category]; done) | rfl
theorem rm39 (l : Launch) (Z : State) (a0 : Array Value) (hw : ∀ d ∈ tables_1, d.before a0 Z = true) (ws : List Jvm.Cond) (s_ : Addr) (no_ : Addr) (bu ow od ub nl nc : Addr) (st en sc dp sk mx mi : Int32) (sl kl cl : Int64)  (h0 : Heap) (n0 : Nat) (Z0 : n0 ≤ h0.size) (SA_ : Sta Z Z.heap "com/example/ariel/ariel/cbor/CborSequence" "NOTHING" "[B" (.ref no_)) (SB_ : Sta Z Z.heap "com/example/ariel/ariel/cbor/CborSequence" "NO_LENGTHS" "[J" (.ref nl)) (SC_ : Sta Z Z.heap "com/example/ariel/ariel/cbor/CborSequence" "NO_CUTS" "[I" (.ref nc)) (O : Old Z n0 h0) (Q : own_seq Z h0 s_ [(.ref bu), (.ref ow), (.int st), (.int en), (.int sc), (.ref od), (.ref ub), (.int dp), (.long sl), (.long kl), (.int sk), (.long cl), (.ref nl), (.int (0 : Int32)), (.ref nc), (.int (0 : Int32)), (.int (0 : Int32)), (.long (0 : Int64)), (.int (0 : Int32)), (.int mx), (.int mi), (.int (0 : Int32))]) (g_s_ : n0 ≤ s_) :
    Met1 l (⟨"com/example/ariel/ariel/cbor/CborSequence", "dropCuts", "()V"⟩ : MethodName) prog_32_method_22_code 1 none ws ({ frames := 0, cells := 0, slots := 0, locals := 0 } : Room) #[(.ref s_)] Z h0 (RN fun h L => Keep h0 h [s_] ∧ own_seq Z h s_ [(.ref bu), (.ref ow), (.int st), (.int en), (.int sc), (.ref od), (.ref ub), (.int dp), (.long sl), (.long kl), (.int sk), (.long cl), (.ref nl), (.int (0 : Int32)), (.ref nc), (.int (0 : Int32)), (.int (0 : Int32)), (.long (0 : Int64)), (.int (0 : Int32)), (.int mx), (.int mi), (.int (0 : Int32))] ∧ Fr n0 L) := by
  refine met_of (plainFor_of_name pn_com_example_ariel_ariel_cbor_CborSequence) ?_
  intro p e s m below meth c T0 X0 hx hby hml hZ hown hnm hret hlk e0 es
  have N0 := Fr.nil n0
  refine Gd.cast (ef_39 m s_) ?_
  have K0 : Keep h0 h0 [s_] := Keep.refl _ _
  refine g_aloadN X0 hx hby i39_0 rfl rfl ?_
  refine g_getstatic X0 hx hby hZ hown (host := "") (Or.inl (wd_ hw 34 rfl)) Via.refl e0 (SC_.ext O.2) i39_1 fun T1 X1 e1 => ?_
  refine g_putfield X1 hx hby hZ hown (host := "") (Or.inl (wd_ hw 36 rfl)) Via.refl e1 (own_at Q 14 (by decide) (v := (.ref nc)) rfl) Q.1 (Or.inl (wd_ hw 37 rfl)) (wd_ hw 3 rfl) (ty := (.array .int)) (by decide) rfl rfl i39_4 fun T2 h2 X2 e2 W2 => ?_
  have Q : own_seq Z h2 s_ [(.ref bu), (.ref ow), (.int st), (.int en), (.int sc), (.ref od), (.ref ub), (.int dp), (.long sl), (.long kl), (.int sk), (.long cl), (.ref nl), (.int (0 : Int32)), (.ref nc), (.int (0 : Int32)), (.int (0 : Int32)), (.long (0 : Int64)), (.int (0 : Int32)), (.int mx), (.int mi), (.int (0 : Int32))] := Q.put hw (i := 14) (by decide) W2
  have O := O.wr W2 g_s_
  have Z0 : n0 ≤ h2.size := Nat.le_trans Z0 (Nat.le_of_eq W2.size.symm)
  have N0 := Fr.snoc X2 N0 g_s_
  have K0 := K0.wr W2 (Or.inl (by simp))
  refine g_aloadN X2 hx hby i39_7 rfl rfl ?_
  refine g_iconst X2 hx hby i39_8 (z := (0 : Int32)) (by decide) ?_
  refine g_putfield X2 hx hby hZ hown (host := "") (Or.inl (wd_ hw 111 rfl)) Via.refl e2 (own_at Q 15 (by decide) (v := (.int (0 : Int32))) rfl) Q.1 (Or.inl (wd_ hw 112 rfl)) (wd_ hw 3 rfl) (ty := .int) (by decide) rfl rfl i39_9 fun T3 h3 X3 e3 W3 => ?_
  have Q : own_seq Z h3 s_ [(.ref bu), (.ref ow), (.int st), (.int en), (.int sc), (.ref od), (.ref ub), (.int dp), (.long sl), (.long kl), (.int sk), (.long cl), (.ref nl), (.int (0 : Int32)), (.ref nc), (.int (0 : Int32)), (.int (0 : Int32)), (.long (0 : Int64)), (.int (0 : Int32)), (.int mx), (.int mi), (.int (0 : Int32))] := Q.put hw (i := 15) (by decide) W3
  have O := O.wr W3 g_s_
  have Z0 : n0 ≤ h3.size := Nat.le_trans Z0 (Nat.le_of_eq W3.size.symm)
  have N0 := Fr.snoc X3 N0 g_s_
  have K0 := K0.wr W3 (Or.inl (by simp))
  refine g_aloadN X3 hx hby i39_12 rfl rfl ?_
  refine g_iconst X3 hx hby i39_13 (z := (0 : Int32)) (by decide) ?_
  refine g_putfield X3 hx hby hZ hown (host := "") (Or.inl (wd_ hw 81 rfl)) Via.refl e3 (own_at Q 16 (by decide) (v := (.int (0 : Int32))) rfl) Q.1 (Or.inl (wd_ hw 82 rfl)) (wd_ hw 3 rfl) (ty := .int) (by decide) rfl rfl i39_14 fun T4 h4 X4 e4 W4 => ?_
  have Q : own_seq Z h4 s_ [(.ref bu), (.ref ow), (.int st), (.int en), (.int sc), (.ref od), (.ref ub), (.int dp), (.long sl), (.long kl), (.int sk), (.long cl), (.ref nl), (.int (0 : Int32)), (.ref nc), (.int (0 : Int32)), (.int (0 : Int32)), (.long (0 : Int64)), (.int (0 : Int32)), (.int mx), (.int mi), (.int (0 : Int32))] := Q.put hw (i := 16) (by decide) W4
  have O := O.wr W4 g_s_
  have Z0 : n0 ≤ h4.size := Nat.le_trans Z0 (Nat.le_of_eq W4.size.symm)
  have N0 := Fr.snoc X4 N0 g_s_
  have K0 := K0.wr W4 (Or.inl (by simp))
  refine g_return X4 hx hby hret hlk i39_17 (by decide) (by decide) ?_
  rw [e4]
  exact ⟨rfl, K0, Q, N0⟩
theorem i38_0 : Ins1 prog_32_method_21_code 0 (.aload_n 0) 1 1 := ⟨by decide +kernel, rfl⟩
theorem i38_1 : Ins1 prog_32_method_21_code 1 (.getfield 83) 3 4 := ⟨by decide +kernel, rfl⟩
theorem i38_4 : Ins1 prog_32_method_21_code 4 (.istore_n 3) 1 5 := ⟨by decide +kernel, rfl⟩
theorem i38_5 : Ins1 prog_32_method_21_code 5 (.iconst 0) 1 6 := ⟨by decide +kernel, rfl⟩
theorem i38_6 : Ins1 prog_32_method_21_code 6 (.istore 4) 2 8 := ⟨by decide +kernel, rfl⟩
theorem i38_8 : Ins1 prog_32_method_21_code 8 (.iconst 0) 1 9 := ⟨by decide +kernel, rfl⟩
theorem i38_9 : Ins1 prog_32_method_21_code 9 (.istore 5) 2 11 := ⟨by decide +kernel, rfl⟩
theorem i38_11 : Ins1 prog_32_method_21_code 11 (.iload 5) 2 13 := ⟨by decide +kernel, rfl⟩
theorem i38_13 : Ins1 prog_32_method_21_code 13 (.iconst 2) 1 14 := ⟨by decide +kernel, rfl⟩
theorem i38_14 : Ins1 prog_32_method_21_code 14 (.aload_n 0) 1 15 := ⟨by decide +kernel, rfl⟩
theorem i38_15 : Ins1 prog_32_method_21_code 15 (.getfield 172) 3 18 := ⟨by decide +kernel, rfl⟩
theorem i38_18 : Ins1 prog_32_method_21_code 18 (.imul) 1 19 := ⟨by decide +kernel, rfl⟩
theorem i38_19 : InsB prog_32_method_21_code 19 (.if_icmp .ge 53) 53 22 72 := ⟨by decide +kernel, rfl, by decide, by decide⟩
theorem i38_72 : Ins1 prog_32_method_21_code 72 (.aload_n 0) 1 73 := ⟨by decide +kernel, rfl⟩
theorem i38_73 : Ins1 prog_32_method_21_code 73 (.getfield 25) 3 76 := ⟨by decide +kernel, rfl⟩
theorem i38_76 : Ins1 prog_32_method_21_code 76 (.iload_n 3) 1 77 := ⟨by decide +kernel, rfl⟩
theorem i38_77 : Ins1 prog_32_method_21_code 77 (.aload_n 2) 1 78 := ⟨by decide +kernel, rfl⟩
theorem i38_78 : Ins1 prog_32_method_21_code 78 (.iload 4) 2 80 := ⟨by decide +kernel, rfl⟩
theorem i38_80 : Ins1 prog_32_method_21_code 80 (.iload_n 1) 1 81 := ⟨by decide +kernel, rfl⟩
theorem i38_81 : Ins1 prog_32_method_21_code 81 (.iload_n 3) 1 82 := ⟨by decide +kernel, rfl⟩
theorem i38_82 : Ins1 prog_32_method_21_code 82 (.isub) 1 83 := ⟨by decide +kernel, rfl⟩
theorem i38_83 : Ins1 prog_32_method_21_code 83 (.invokestatic 99) 3 86 := ⟨by decide +kernel, rfl⟩
theorem i38_86 : Ins1 prog_32_method_21_code 86 (.iload 4) 2 88 := ⟨by decide +kernel, rfl⟩
theorem i38_88 : Ins1 prog_32_method_21_code 88 (.iload_n 1) 1 89 := ⟨by decide +kernel, rfl⟩
theorem i38_89 : Ins1 prog_32_method_21_code 89 (.iadd) 1 90 := ⟨by decide +kernel, rfl⟩
theorem i38_90 : Ins1 prog_32_method_21_code 90 (.iload_n 3) 1 91 := ⟨by decide +kernel, rfl⟩
theorem i38_91 : Ins1 prog_32_method_21_code 91 (.isub) 1 92 := ⟨by decide +kernel, rfl⟩
theorem i38_92 : Ins1 prog_32_method_21_code 92 (.ireturn) 1 93 := ⟨by decide +kernel, rfl⟩
theorem ef_38 (m : MethodId) (s_ : Addr) (p1 : Int32) (d : Addr) : entryFrame m #[(.ref s_), (.int p1), (.ref d)] 6 = mkF m 0 #[.val (.ref s_), .val (.int p1), .val (.ref d), .unset, .unset, .unset] [] := by first | (simp [entryFrame, mkF, argsToLocals, Value.category]; done) | rfl
theorem rm38 (l : Launch) (Z : State) (a0 : Array Value) (hw : ∀ d ∈ tables_1, d.before a0 Z = true) (ws : List Jvm.Cond) (s_ : Addr) (p1 : Int32) (d : Addr) (no_ : Addr) (bu ow od ub nl nc : Addr) (st en sc dp sk mx mi : Int32) (sl kl cl : Int64) (kb kd : ClassId) (zb zd : Int32) (vb vd : List Value) (i zn : Nat) (h0 : Heap) (n0 : Nat) (Z0 : n0 ≤ h0.size) (SA_ : Sta Z Z.heap "com/example/ariel/ariel/cbor/CborSequence" "NOTHING" "[B" (.ref no_)) (SB_ : Sta Z Z.heap "com/example/ariel/ariel/cbor/CborSequence" "NO_LENGTHS" "[J" (.ref nl)) (SC_ : Sta Z Z.heap "com/example/ariel/ariel/cbor/CborSequence" "NO_CUTS" "[I" (.ref nc)) (O : Old Z n0 h0) (Q : own_seq Z h0 s_ [(.ref bu), (.ref ow), (.int st), (.int en), (.int sc), (.ref od), (.ref ub), (.int dp), (.long sl), (.long kl), (.int sk), (.long cl), (.ref nl), (.int (0 : Int32)), (.ref nc), (.int (0 : Int32)), (.int (0 : Int32)), (.long (0 : Int64)), (.int (0 : Int32)), (.int mx), (.int mi), (.int (0 : Int32))]) (Vb : Arv Z h0 bu kb .byte zb vb (.int (0 : Int32))) (Vd : Arv Z h0 d kd .byte zd vd (.int (0 : Int32))) (g_d : n0 ≤ d) (hbd : bu ≠ d) (hsd : s_ ≠ d) (hi0 : ¬ st < 0) (hi : st.toNatClampNeg = i) (hz0 : ¬ p1 - st < 0) (hzn : (p1 - st).toNatClampNeg = zn) (hle : i + zn ≤ zb.toNatClampNeg) (hle2 : zn ≤ zd.toNatClampNeg) (hvl : zn ≤ vd.length) :
    Met1 l (⟨"com/example/ariel/ariel/cbor/CborSequence", "copyHeld", "(I[B)I"⟩ : MethodName) prog_32_method_21_code 6 (some .int) ws ({ frames := 1, cells := 0, slots := 0, locals := 18 } : Room) #[(.ref s_), (.int p1), (.ref d)] Z h0 (RV fun vv h L => vv = .int (((0 : Int32) + p1) - st) ∧ Keep h0 h [d] ∧ own_seq Z h s_ [(.ref bu), (.ref ow), (.int st), (.int en), (.int sc), (.ref od), (.ref ub), (.int dp), (.long sl), (.long kl), (.int sk), (.long cl), (.ref nl), (.int (0 : Int32)), (.ref nc), (.int (0 : Int32)), (.int (0 : Int32)), (.long (0 : Int64)), (.int (0 : Int32)), (.int mx), (.int mi), (.int (0 : Int32))] ∧ (∃ vd', Arv Z h d kd .byte zd vd' (.int (0 : Int32))) ∧ Fr n0 L) := by
  refine met_of (plainFor_of_name pn_com_example_ariel_ariel_cbor_CborSequence) ?_
  intro p e s m below meth c T0 X0 hx hby hml hZ hown hnm hret hlk e0 es
  have N0 := Fr.nil n0
  refine Gd.cast (ef_38 m s_ p1 d) ?_
  have K0 : Keep h0 h0 [d] := Keep.refl _ _
  refine g_aloadN X0 hx hby i38_0 rfl rfl ?_
  refine g_getfield X0 hx hby hZ hown (host := "") (Or.inl (wd_ hw 55 rfl)) Via.refl e0 (own_at Q 2 (by decide) (v := (.int st)) rfl) i38_1 fun T1 X1 e1 => ?_
  refine g_istoreN X1 hx hby i38_4 (l' := #[.val (.ref s_), .val (.int p1), .val (.ref d), .val (.int st), .unset, .unset]) rfl ?_
  refine g_iconst X1 hx hby i38_5 (z := (0 : Int32)) (by decide) ?_
  refine g_istore X1 hx hby i38_6 (l' := #[.val (.ref s_), .val (.int p1), .val (.ref d), .val (.int st), .val (.int (0 : Int32)), .unset]) rfl ?_
  refine g_iconst X1 hx hby i38_8 (z := (0 : Int32)) (by decide) ?_
  refine g_istore X1 hx hby i38_9 (l' := #[.val (.ref s_), .val (.int p1), .val (.ref d), .val (.int st), .val (.int (0 : Int32)), .val (.int (0 : Int32))]) rfl ?_
  refine g_iload X1 hx hby i38_11 rfl ?_
  refine g_iconst X1 hx hby i38_13 (z := (2 : Int32)) (by decide) ?_
  refine g_aloadN X1 hx hby i38_14 rfl rfl ?_
  refine g_getfield X1 hx hby hZ hown (host := "") (Or.inl (wd_ hw 111 rfl)) Via.refl e1 (own_at Q 15 (by decide) (v := (.int (0 : Int32))) rfl) i38_15 fun T2 X2 e2 => ?_
  refine g_imul X2 hx hby i38_18 ?_
  refine g_icmp_ge X2 hx hby i38_19 (fun c19_3 => ?_) (fun c19_3 => False.elim (absurd c19_3 (by decide)))
  refine g_aloadN X2 hx hby i38_72 rfl rfl ?_
  refine g_getfield X2 hx hby hZ hown (host := "") (Or.inl (wd_ hw 20 rfl)) Via.refl e2 (own_at Q 0 (by decide) (v := (.ref bu)) rfl) i38_73 fun T4 X4 e4 => ?_
  refine g_iloadN X4 hx hby i38_76 rfl ?_
  refine g_aloadN X4 hx hby i38_77 rfl rfl ?_
  refine g_iload X4 hx hby i38_78 rfl ?_
  refine g_iloadN X4 hx hby i38_80 rfl ?_
  refine g_iloadN X4 hx hby i38_81 rfl ?_
  refine g_isub X4 hx hby i38_82 ?_
  refine g_arraycopy X4 hx hby hZ hown (wd_ hw 237 rfl) (wd_ hw 196 rfl) (wd_ hw 194 rfl) (wd_ hw 195 rfl) e4 Vb Vd rfl hi0 (by decide) hz0 (by rw [hi, hzn]; exact hle) (by rw [hzn]; exact Nat.le_trans (Nat.le_of_eq (Nat.zero_add _)) hle2) (us := _) rfl (by rw [hzn]; exact Nat.le_trans (Nat.le_of_eq (Nat.zero_add _)) hvl) N0 g_d (by rw [hml]; rfl) i38_83 (by decide) 0 rfl (by decide) fun T5 h5 L5 X5 e5 N0 K5 V5 => ?_
  have K0 := K0.trans K5 (fun x hx => Or.inl (by simp at hx ⊢; simp [hx]))
  have Q := Q.keep K5 (ninS hsd nin0)
  have Vb := Vb.keep K5 (ninS hbd nin0)
  have O := O.keep K5 (allS g_d all0)
  have Z0 : n0 ≤ h5.size := Nat.le_trans Z0 K5.1
  show Gd p e below _ T5 (mkF m 86 #[.val (.ref s_), .val (.int p1), .val (.ref d), .val (.int st), .val (.int (0 : Int32)), .val (.int (0 : Int32))] [])
  refine g_iload X5 hx hby i38_86 rfl ?_
  refine g_iloadN X5 hx hby i38_88 rfl ?_
  refine g_iadd X5 hx hby i38_89 ?_
  refine g_iloadN X5 hx hby i38_90 rfl ?_
  refine g_isub X5 hx hby i38_91 ?_
  refine g_ireturn X5 hx hby hret hlk i38_92 (by decide) (by decide) ?_
  rw [e5]
  exact ⟨_, rfl, rfl, K0, Q, ⟨_, V5⟩, N0⟩
theorem i37_0 : Ins1 prog_32_method_23_code 0 (.aload_n 0) 1 1 := ⟨by decide +kernel, rfl⟩
theorem i37_1 : Ins1 prog_32_method_23_code 1 (.aload_n 0) 1 2 := ⟨by decide +kernel, rfl⟩
theorem i37_2 : Ins1 prog_32_method_23_code 2 (.aload_n 0) 1 3 := ⟨by decide +kernel, rfl⟩
theorem i37_3 : Ins1 prog_32_method_23_code 3 (.getfield 80) 3 6 := ⟨by decide +kernel, rfl⟩
theorem i37_6 : Ins1 prog_32_method_23_code 6 (.aload_n 1) 1 7 := ⟨by decide +kernel, rfl⟩
theorem i37_7 : Ins1 prog_32_method_23_code 7 (.invokevirtual 175) 3 10 := ⟨by decide +kernel, rfl⟩
theorem i37_10 : Ins1 prog_32_method_23_code 10 (.putfield 80) 3 13 := ⟨by decide +kernel, rfl⟩
theorem i37_13 : Ins1 prog_32_method_23_code 13 (.aload_n 0) 1 14 := ⟨by decide +kernel, rfl⟩
theorem i37_14 : Ins1 prog_32_method_23_code 14 (.dup) 1 15 := ⟨by decide +kernel, rfl⟩
theorem i37_15 : Ins1 prog_32_method_23_code 15 (.getfield 122) 3 18 := ⟨by decide +kernel, rfl⟩
theorem i37_18 : Ins1 prog_32_method_23_code 18 (.aload_n 0) 1 19 := ⟨by decide +kernel, rfl⟩
theorem i37_19 : Ins1 prog_32_method_23_code 19 (.getfield 86) 3 22 := ⟨by decide +kernel, rfl⟩
theorem i37_22 : Ins1 prog_32_method_23_code 22 (.isub) 1 23 := ⟨by decide +kernel, rfl⟩
theorem i37_23 : Ins1 prog_32_method_23_code 23 (.putfield 122) 3 26 := ⟨by decide +kernel, rfl⟩
theorem i37_26 : Ins1 prog_32_method_23_code 26 (.aload_n 0) 1 27 := ⟨by decide +kernel, rfl⟩
theorem i37_27 : Ins1 prog_32_method_23_code 27 (.invokevirtual 179) 3 30 := ⟨by decide +kernel, rfl⟩
theorem i37_30 : Ins1 prog_32_method_23_code 30 (.aload_n 0) 1 31 := ⟨by decide +kernel, rfl⟩
theorem i37_31 : Ins1 prog_32_method_23_code 31 (.aload_n 1) 1 32 := ⟨by decide +kernel, rfl⟩
theorem i37_32 : Ins1 prog_32_method_23_code 32 (.putfield 28) 3 35 := ⟨by decide +kernel, rfl⟩
theorem i37_35 : Ins1 prog_32_method_23_code 35 (.aload_n 0) 1 36 := ⟨by decide +kernel, rfl⟩
theorem i37_36 : Ins1 prog_32_method_23_code 36 (.aload_n 1) 1 37 := ⟨by decide +kernel, rfl⟩
theorem i37_37 : Ins1 prog_32_method_23_code 37 (.putfield 25) 3 40 := ⟨by decide +kernel, rfl⟩
theorem i37_40 : Ins1 prog_32_method_23_code 40 (.aload_n 0) 1 41 := ⟨by decide +kernel, rfl⟩
theorem i37_41 : Ins1 prog_32_method_23_code 41 (.iconst 0) 1 42 := ⟨by decide +kernel, rfl⟩
theorem i37_42 : Ins1 prog_32_method_23_code 42 (.putfield 83) 3 45 := ⟨by decide +kernel, rfl⟩
theorem i37_45 : Ins1 prog_32_method_23_code 45 (.return_) 1 46 := ⟨by decide +kernel, rfl⟩
theorem ef_37 (m : MethodId) (s_ : Addr) (d : Addr) : entryFrame m #[(.ref s_), (.ref d)] 2 = mkF m 0 #[.val (.ref s_), .val (.ref d)] [] := by first | (simp [entryFrame, mkF, argsToLocals, Value.category]; done) | rfl
theorem pd_0 : parseMethodDescriptor "(I[B)I" = some ⟨[.int, (.array .byte)], some .int⟩ := by decide +kernel
theorem pd_1 : parseMethodDescriptor "()V" = some ⟨[], none⟩ := by decide +kernel
theorem rm37 (l : Launch) (Z : State) (a0 : Array Value) (hw : ∀ d ∈ tables_1, d.before a0 Z = true) (ws : List Jvm.Cond) (s_ : Addr) (d : Addr) (no_ : Addr) (bu ow od ub nl nc : Addr) (st en sc dp sk mx mi : Int32) (sl kl cl : Int64) (kb kd : ClassId) (zb zd : Int32) (vb vd : List Value) (i zn : Nat) (h0 : Heap) (n0 : Nat) (Z0 : n0 ≤ h0.size) (SA_ : Sta Z Z.heap "com/example/ariel/ariel/cbor/CborSequence" "NOTHING" "[B" (.ref no_)) (SB_ : Sta Z Z.heap "com/example/ariel/ariel/cbor/CborSequence" "NO_LENGTHS" "[J" (.ref nl)) (SC_ : Sta Z Z.heap "com/example/ariel/ariel/cbor/CborSequence" "NO_CUTS" "[I" (.ref nc)) (O : Old Z n0 h0) (Q : own_seq Z h0 s_ [(.ref bu), (.ref ow), (.int st), (.int en), (.int sc), (.ref od), (.ref ub), (.int dp), (.long sl), (.long kl), (.int sk), (.long cl), (.ref nl), (.int (0 : Int32)), (.ref nc), (.int (0 : Int32)), (.int (0 : Int32)), (.long (0 : Int64)), (.int (0 : Int32)), (.int mx), (.int mi), (.int (0 : Int32))]) (g_s_ : n0 ≤ s_) (hsb : s_ ≠ bu) (Vb : Arv Z h0 bu kb .byte zb vb (.int (0 : Int32))) (Vd : Arv Z h0 d kd .byte zd vd (.int (0 : Int32))) (g_d : n0 ≤ d) (hbd : bu ≠ d) (hsd : s_ ≠ d) (hi0 : ¬ st < 0) (hi : st.toNatClampNeg = i) (hz0 : ¬ en - st < 0) (hzn : (en - st).toNatClampNeg = zn) (hle : i + zn ≤ zb.toNatClampNeg) (hle2 : zn ≤ zd.toNatClampNeg) (hvl : zn ≤ vd.length) :
    Met1 l (⟨"com/example/ariel/ariel/cbor/CborSequence", "moveHeldTo", "([B)V"⟩ : MethodName) prog_32_method_23_code 2 none ws ({ frames := 2, cells := 0, slots := 0, locals := 36 } : Room) #[(.ref s_), (.ref d)] Z h0 (RN fun h L => Keep h0 h [s_, d] ∧ own_seq Z h s_ [(.ref d), (.ref d), (.int (0 : Int32)), (.int (en - st)), (.int sc), (.ref od), (.ref ub), (.int dp), (.long sl), (.long kl), (.int sk), (.long cl), (.ref nl), (.int (0 : Int32)), (.ref nc), (.int (0 : Int32)), (.int (0 : Int32)), (.long (0 : Int64)), (.int (0 : Int32)), (.int mx), (.int mi), (.int (0 : Int32))] ∧ (∃ vd', Arv Z h d kd .byte zd vd' (.int (0 : Int32))) ∧ Fr n0 L) := by
  refine met_of (plainFor_of_name pn_com_example_ariel_ariel_cbor_CborSequence) ?_
  intro p e s m below meth c T0 X0 hx hby hml hZ hown hnm hret hlk e0 es
  have N0 := Fr.nil n0
  refine Gd.cast (ef_37 m s_ d) ?_
  have K0 : Keep h0 h0 [s_, d] := Keep.refl _ _
  refine g_aloadN X0 hx hby i37_0 rfl rfl ?_
  refine g_aloadN X0 hx hby i37_1 rfl rfl ?_
  refine g_aloadN X0 hx hby i37_2 rfl rfl ?_
  refine g_getfield X0 hx hby hZ hown (host := "") (Or.inl (wd_ hw 53 rfl)) Via.refl e0 (own_at Q 3 (by decide) (v := (.int en)) rfl) i37_3 fun T1 X1 e1 => ?_
  refine g_aloadN X1 hx hby i37_6 rfl rfl ?_
  refine g_callPriv X1 hx hby hZ (y := (⟨"com/example/ariel/ariel/cbor/CborSequence", "copyHeld", "(I[B)I"⟩ : MethodName)) (argsL := [(.int en), (.ref d)]) (rest := [(.ref s_)]) hown (wd_ hw 233 rfl) (wd_ hw 234 rfl) (wd_ hw 3 rfl) (wd_ hw 235 rfl) (wd_ hw 4 rfl) (wd_ hw 236 rfl) (by decide) (a := s_) Q.1 (rm38 l Z a0 hw [] s_ en d no_ bu ow od ub nl nc st en sc dp sk mx mi sl kl cl kb kd zb zd _ _ i zn h0 n0 Z0 SA_ SB_ SC_ O Q Vb Vd g_d hbd hsd hi0 hi hz0 hzn hle hle2 hvl) e1 (by rw [hml]; rfl) pd_0 rfl rfl i37_7 (by decide) 1 rfl (by decide) (by decide) (by decide) fun T2 v2 L2 X2 q2 => ?_
  obtain ⟨_, rfl, rfl, K2, Q2, ⟨vd2, V2⟩, N2⟩ := q2
  have N0 := Fr.app N0 N2
  have K0 := K0.trans K2 (fun x hx => Or.inl (by simp at hx ⊢; simp [hx]))
  have Vb := Vb.keep K2 (ninS hbd nin0)
  have O := O.keep K2 (allS g_d all0)
  have Z0 : n0 ≤ T2.heap.size := Nat.le_trans Z0 K2.1
  show Gd p e below _ T2 (mkF m 10 #[.val (.ref s_), .val (.ref d)] [(.int (((0 : Int32) + en) - st)), (.ref s_)])
  refine g_putfield X2 hx hby hZ hown (host := "") (Or.inl (wd_ hw 53 rfl)) Via.refl rfl (own_at Q2 3 (by decide) (v := (.int en)) rfl) Q2.1 (Or.inl (wd_ hw 54 rfl)) (wd_ hw 3 rfl) (ty := .int) (by decide) rfl rfl i37_10 fun T3 h3 X3 e3 W3 => ?_
  have Q2 : own_seq Z h3 s_ [(.ref bu), (.ref ow), (.int st), (.int (((0 : Int32) + en) - st)), (.int sc), (.ref od), (.ref ub), (.int dp), (.long sl), (.long kl), (.int sk), (.long cl), (.ref nl), (.int (0 : Int32)), (.ref nc), (.int (0 : Int32)), (.int (0 : Int32)), (.long (0 : Int64)), (.int (0 : Int32)), (.int mx), (.int mi), (.int (0 : Int32))] := Q2.put hw (i := 3) (by decide) W3
  have Vb := Vb.other W3 (Ne.symm hsb)
  have V2 := V2.other W3 (Ne.symm hsd)
  have O := O.wr W3 g_s_
  have Z0 : n0 ≤ h3.size := Nat.le_trans Z0 (Nat.le_of_eq W3.size.symm)
  have N0 := Fr.snoc X3 N0 g_s_
  have K0 := K0.wr W3 (Or.inl (by simp))
  refine g_aloadN X3 hx hby i37_13 rfl rfl ?_
  refine g_dup X3 hx hby i37_14 rfl ?_
  refine g_getfield X3 hx hby hZ hown (host := "") (Or.inl (wd_ hw 79 rfl)) Via.refl e3 (own_at Q2 4 (by decide) (v := (.int sc)) rfl) i37_15 fun T4 X4 e4 => ?_
  refine g_aloadN X4 hx hby i37_18 rfl rfl ?_
  refine g_getfield X4 hx hby hZ hown (host := "") (Or.inl (wd_ hw 81 rfl)) Via.refl e4 (own_at Q2 16 (by decide) (v := (.int (0 : Int32))) rfl) i37_19 fun T5 X5 e5 => ?_
  refine g_isub X5 hx hby i37_22 ?_
  refine g_putfield X5 hx hby hZ hown (host := "") (Or.inl (wd_ hw 79 rfl)) Via.refl e5 (own_at Q2 4 (by decide) (v := (.int sc)) rfl) Q2.1 (Or.inl (wd_ hw 80 rfl)) (wd_ hw 3 rfl) (ty := .int) (by decide) rfl rfl i37_23 fun T6 h6 X6 e6 W6 => ?_
  have Q2 : own_seq Z h6 s_ [(.ref bu), (.ref ow), (.int st), (.int (((0 : Int32) + en) - st)), (.int (sc - (0 : Int32))), (.ref od), (.ref ub), (.int dp), (.long sl), (.long kl), (.int sk), (.long cl), (.ref nl), (.int (0 : Int32)), (.ref nc), (.int (0 : Int32)), (.int (0 : Int32)), (.long (0 : Int64)), (.int (0 : Int32)), (.int mx), (.int mi), (.int (0 : Int32))] := Q2.put hw (i := 4) (by decide) W6
  have Vb := Vb.other W6 (Ne.symm hsb)
  have V2 := V2.other W6 (Ne.symm hsd)
  have O := O.wr W6 g_s_
  have Z0 : n0 ≤ h6.size := Nat.le_trans Z0 (Nat.le_of_eq W6.size.symm)
  have N0 := Fr.snoc X6 N0 g_s_
  have K0 := K0.wr W6 (Or.inl (by simp))
  refine g_aloadN X6 hx hby i37_26 rfl rfl ?_
  refine g_callPriv X6 hx hby hZ (y := (⟨"com/example/ariel/ariel/cbor/CborSequence", "dropCuts", "()V"⟩ : MethodName)) (argsL := []) (rest := []) hown (wd_ hw 238 rfl) (wd_ hw 239 rfl) (wd_ hw 3 rfl) (wd_ hw 240 rfl) (wd_ hw 4 rfl) (wd_ hw 241 rfl) (by decide) (a := s_) Q2.1 (rm39 l Z a0 hw [] s_ no_ bu ow od ub nl nc st (((0 : Int32) + en) - st) (sc - (0 : Int32)) dp sk mx mi sl kl cl h6 n0 Z0 SA_ SB_ SC_ O Q2 g_s_) e6 (by rw [hml]; rfl) pd_1 rfl rfl i37_27 (by decide) 0 rfl (by decide) (by decide) (by decide) fun T7 v7 L7 X7 q7 => ?_
  obtain ⟨rfl, K7, Q7, N7⟩ := q7
  have N0 := Fr.app N0 N7
  have K0 := K0.trans K7 (fun x hx => Or.inl (by simp at hx ⊢; simp [hx]))
  have Vb := Vb.keep K7 (ninS (Ne.symm hsb) nin0)
  have V2 := V2.keep K7 (ninS (Ne.symm hsd) nin0)
  have O := O.keep K7 (allS g_s_ all0)
  have Z0 : n0 ≤ T7.heap.size := Nat.le_trans Z0 K7.1
  show Gd p e below _ T7 (mkF m 30 #[.val (.ref s_), .val (.ref d)] [])
  refine g_aloadN X7 hx hby i37_30 rfl rfl ?_
  refine g_aloadN X7 hx hby i37_31 rfl rfl ?_
  refine g_putfield X7 hx hby hZ hown (host := "") (Or.inl (wd_ hw 22 rfl)) Via.refl rfl (own_at Q7 1 (by decide) (v := (.ref ow)) rfl) Q7.1 (Or.inl (wd_ hw 23 rfl)) (wd_ hw 3 rfl) (ty := (.array .byte)) (by decide) rfl rfl i37_32 fun T8 h8 X8 e8 W8 => ?_
  have Q7 : own_seq Z h8 s_ [(.ref bu), (.ref d), (.int st), (.int (((0 : Int32) + en) - st)), (.int (sc - (0 : Int32))), (.ref od), (.ref ub), (.int dp), (.long sl), (.long kl), (.int sk), (.long cl), (.ref nl), (.int (0 : Int32)), (.ref nc), (.int (0 : Int32)), (.int (0 : Int32)), (.long (0 : Int64)), (.int (0 : Int32)), (.int mx), (.int mi), (.int (0 : Int32))] := Q7.put hw (i := 1) (by decide) W8
  have Vb := Vb.other W8 (Ne.symm hsb)
  have V2 := V2.other W8 (Ne.symm hsd)
  have O := O.wr W8 g_s_
  have Z0 : n0 ≤ h8.size := Nat.le_trans Z0 (Nat.le_of_eq W8.size.symm)
  have N0 := Fr.snoc X8 N0 g_s_
  have K0 := K0.wr W8 (Or.inl (by simp))
  refine g_aloadN X8 hx hby i37_35 rfl rfl ?_
  refine g_aloadN X8 hx hby i37_36 rfl rfl ?_
  refine g_putfield X8 hx hby hZ hown (host := "") (Or.inl (wd_ hw 20 rfl)) Via.refl e8 (own_at Q7 0 (by decide) (v := (.ref bu)) rfl) Q7.1 (Or.inl (wd_ hw 21 rfl)) (wd_ hw 3 rfl) (ty := (.array .byte)) (by decide) rfl rfl i37_37 fun T9 h9 X9 e9 W9 => ?_
  have Q7 : own_seq Z h9 s_ [(.ref d), (.ref d), (.int st), (.int (((0 : Int32) + en) - st)), (.int (sc - (0 : Int32))), (.ref od), (.ref ub), (.int dp), (.long sl), (.long kl), (.int sk), (.long cl), (.ref nl), (.int (0 : Int32)), (.ref nc), (.int (0 : Int32)), (.int (0 : Int32)), (.long (0 : Int64)), (.int (0 : Int32)), (.int mx), (.int mi), (.int (0 : Int32))] := Q7.put hw (i := 0) (by decide) W9
  have Vb := Vb.other W9 (Ne.symm hsb)
  have V2 := V2.other W9 (Ne.symm hsd)
  have O := O.wr W9 g_s_
  have Z0 : n0 ≤ h9.size := Nat.le_trans Z0 (Nat.le_of_eq W9.size.symm)
  have N0 := Fr.snoc X9 N0 g_s_
  have K0 := K0.wr W9 (Or.inl (by simp))
  refine g_aloadN X9 hx hby i37_40 rfl rfl ?_
  refine g_iconst X9 hx hby i37_41 (z := (0 : Int32)) (by decide) ?_
  refine g_putfield X9 hx hby hZ hown (host := "") (Or.inl (wd_ hw 55 rfl)) Via.refl e9 (own_at Q7 2 (by decide) (v := (.int st)) rfl) Q7.1 (Or.inl (wd_ hw 56 rfl)) (wd_ hw 3 rfl) (ty := .int) (by decide) rfl rfl i37_42 fun T10 h10 X10 e10 W10 => ?_
  have Q7 : own_seq Z h10 s_ [(.ref d), (.ref d), (.int (0 : Int32)), (.int (((0 : Int32) + en) - st)), (.int (sc - (0 : Int32))), (.ref od), (.ref ub), (.int dp), (.long sl), (.long kl), (.int sk), (.long cl), (.ref nl), (.int (0 : Int32)), (.ref nc), (.int (0 : Int32)), (.int (0 : Int32)), (.long (0 : Int64)), (.int (0 : Int32)), (.int mx), (.int mi), (.int (0 : Int32))] := Q7.put hw (i := 2) (by decide) W10
  have Vb := Vb.other W10 (Ne.symm hsb)
  have V2 := V2.other W10 (Ne.symm hsd)
  have O := O.wr W10 g_s_
  have Z0 : n0 ≤ h10.size := Nat.le_trans Z0 (Nat.le_of_eq W10.size.symm)
  have N0 := Fr.snoc X10 N0 g_s_
  have K0 := K0.wr W10 (Or.inl (by simp))
  refine g_return X10 hx hby hret hlk i37_45 (by decide) (by decide) ?_
  rw [e10]
  rw [Int32.zero_add, Int32.sub_zero] at Q7
  exact ⟨rfl, K0, Q7, ⟨_, V2⟩, N0⟩
theorem i1_0 : Ins1 jdk_29_method_65_code 0 (.iload_n 0) 1 1 := ⟨by decide +kernel, rfl⟩
theorem i1_1 : Ins1 jdk_29_method_65_code 1 (.iload_n 1) 1 2 := ⟨by decide +kernel, rfl⟩
theorem i1_2 : InsB jdk_29_method_65_code 2 (.if_icmp .lt 7) 7 5 9 := ⟨by decide +kernel, rfl, by decide, by decide⟩
theorem i1_5 : Ins1 jdk_29_method_65_code 5 (.iload_n 0) 1 6 := ⟨by decide +kernel, rfl⟩
theorem i1_6 : InsB jdk_29_method_65_code 6 (.goto 4) 4 9 10 := ⟨by decide +kernel, rfl, by decide, by decide⟩
theorem i1_9 : Ins1 jdk_29_method_65_code 9 (.iload_n 1) 1 10 := ⟨by decide +kernel, rfl⟩
theorem i1_10 : Ins1 jdk_29_method_65_code 10 (.ireturn) 1 11 := ⟨by decide +kernel, rfl⟩
theorem ef_1 (m : MethodId) (p0 : Int32) (p1 : Int32) : entryFrame m #[(.int p0), (.int p1)] 2 = mkF m 0 #[.val (.int p0), .val (.int p1)] [] := by first | (simp [entryFrame, mkF, argsToLocals, Value.category]; done) | rfl
theorem rm1 (l : Launch) (Z : State) (a0 : Array Value) (hw : ∀ d ∈ tables_1, d.before a0 Z = true) (ws : List Jvm.Cond) (p0 : Int32) (p1 : Int32)  (h0 : Heap) (n0 : Nat) (Z0 : n0 ≤ h0.size)  :
    Met1 l (⟨"java/lang/Math", "max", "(II)I"⟩ : MethodName) jdk_29_method_65_code 2 (some .int) ws ({ frames := 0, cells := 0, slots := 0, locals := 0 } : Room) #[(.int p0), (.int p1)] Z h0 (RV fun vv h L => ∃ r, vv = .int r ∧ ((p0 < p1 ∧ r = p1) ∨ (¬ p0 < p1 ∧ r = p0)) ∧ h = h0 ∧ Fr n0 L) := by
  refine met_of (Jvm.Free.JP.mathPlain rfl (by decide +kernel)) ?_
  intro p e s m below meth c T0 X0 hx hby hml hZ hown hnm hret hlk e0 es
  have N0 := Fr.nil n0
  refine Gd.cast (ef_1 m p0 p1) ?_
  refine g_iloadN X0 hx hby i1_0 rfl ?_
  refine g_iloadN X0 hx hby i1_1 rfl ?_
  refine g_icmp_lt X0 hx hby i1_2 (fun c2_1 => ?_) (fun c2_1 => ?_)
  · refine g_iloadN X0 hx hby i1_9 rfl ?_
    refine g_ireturn X0 hx hby hret hlk i1_10 (by decide) (by decide) ?_
    exact ⟨_, rfl, _, rfl, Or.inl ⟨c2_1, rfl⟩, e0, N0⟩
  · refine g_iloadN X0 hx hby i1_5 rfl ?_
    refine g_goto X0 hx hby i1_6 ?_
    refine g_ireturn X0 hx hby hret hlk i1_10 (by decide) (by decide) ?_
    exact ⟨_, rfl, _, rfl, Or.inr ⟨c2_1, rfl⟩, e0, N0⟩
theorem i35_0 : Ins1 prog_32_method_13_code 0 (.aload_n 0) 1 1 := ⟨by decide +kernel, rfl⟩
theorem i35_1 : Ins1 prog_32_method_13_code 1 (.getfield 28) 3 4 := ⟨by decide +kernel, rfl⟩
theorem i35_4 : Ins1 prog_32_method_13_code 4 (.arraylength) 1 5 := ⟨by decide +kernel, rfl⟩
theorem i35_5 : Ins1 prog_32_method_13_code 5 (.i2l) 1 6 := ⟨by decide +kernel, rfl⟩
theorem i35_6 : Ins1 prog_32_method_13_code 6 (.ldc2_w 160) 3 9 := ⟨by decide +kernel, rfl⟩
theorem i35_9 : Ins1 prog_32_method_13_code 9 (.aload_n 0) 1 10 := ⟨by decide +kernel, rfl⟩
theorem i35_10 : Ins1 prog_32_method_13_code 10 (.getfield 48) 3 13 := ⟨by decide +kernel, rfl⟩
theorem i35_13 : Ins1 prog_32_method_13_code 13 (.arraylength) 1 14 := ⟨by decide +kernel, rfl⟩
theorem i35_14 : Ins1 prog_32_method_13_code 14 (.i2l) 1 15 := ⟨by decide +kernel, rfl⟩
theorem i35_15 : Ins1 prog_32_method_13_code 15 (.lmul) 1 16 := ⟨by decide +kernel, rfl⟩
theorem i35_16 : Ins1 prog_32_method_13_code 16 (.ladd) 1 17 := ⟨by decide +kernel, rfl⟩
theorem i35_17 : Ins1 prog_32_method_13_code 17 (.ldc2_w 162) 3 20 := ⟨by decide +kernel, rfl⟩
theorem i35_20 : Ins1 prog_32_method_13_code 20 (.aload_n 0) 1 21 := ⟨by decide +kernel, rfl⟩
theorem i35_21 : Ins1 prog_32_method_13_code 21 (.getfield 42) 3 24 := ⟨by decide +kernel, rfl⟩
theorem i35_24 : Ins1 prog_32_method_13_code 24 (.arraylength) 1 25 := ⟨by decide +kernel, rfl⟩
theorem i35_25 : Ins1 prog_32_method_13_code 25 (.i2l) 1 26 := ⟨by decide +kernel, rfl⟩
theorem i35_26 : Ins1 prog_32_method_13_code 26 (.lmul) 1 27 := ⟨by decide +kernel, rfl⟩
theorem i35_27 : Ins1 prog_32_method_13_code 27 (.ladd) 1 28 := ⟨by decide +kernel, rfl⟩
theorem i35_28 : Ins1 prog_32_method_13_code 28 (.ldc2_w 164) 3 31 := ⟨by decide +kernel, rfl⟩
theorem i35_31 : Ins1 prog_32_method_13_code 31 (.aload_n 0) 1 32 := ⟨by decide +kernel, rfl⟩
theorem i35_32 : Ins1 prog_32_method_13_code 32 (.getfield 31) 3 35 := ⟨by decide +kernel, rfl⟩
theorem i35_35 : Ins1 prog_32_method_13_code 35 (.arraylength) 1 36 := ⟨by decide +kernel, rfl⟩
theorem i35_36 : Ins1 prog_32_method_13_code 36 (.bipush 8) 2 38 := ⟨by decide +kernel, rfl⟩
theorem i35_38 : Ins1 prog_32_method_13_code 38 (.isub) 1 39 := ⟨by decide +kernel, rfl⟩
theorem i35_39 : Ins1 prog_32_method_13_code 39 (.i2l) 1 40 := ⟨by decide +kernel, rfl⟩
theorem i35_40 : Ins1 prog_32_method_13_code 40 (.lmul) 1 41 := ⟨by decide +kernel, rfl⟩
theorem i35_41 : Ins1 prog_32_method_13_code 41 (.ladd) 1 42 := ⟨by decide +kernel, rfl⟩
theorem i35_42 : Ins1 prog_32_method_13_code 42 (.lreturn) 1 43 := ⟨by decide +kernel, rfl⟩
theorem ef_35 (m : MethodId) (s_ : Addr) : entryFrame m #[(.ref s_)] 1 = mkF m 0 #[.val (.ref s_)] [] := by first | (simp [entryFrame, mkF, argsToLocals, Value.category]; done) | rfl
theorem rm35 (l : Launch) (Z : State) (a0 : Array Value) (hw : ∀ d ∈ tables_1, d.before a0 Z = true) (ws : List Jvm.Cond) (s_ : Addr) (bu ow od ub nl nc : Addr) (st en sc dp sk mx mi : Int32) (sl kl cl : Int64) (k1 k2 k3 k4 : ClassId) (zo zq : Int32) (v1 v2 v3 v4 : List Value) (h0 : Heap) (n0 : Nat) (Z0 : n0 ≤ h0.size) (Q : own_seq Z h0 s_ [(.ref bu), (.ref ow), (.int st), (.int en), (.int sc), (.ref od), (.ref ub), (.int dp), (.long sl), (.long kl), (.int sk), (.long cl), (.ref nl), (.int (0 : Int32)), (.ref nc), (.int (0 : Int32)), (.int (0 : Int32)), (.long (0 : Int64)), (.int (0 : Int32)), (.int mx), (.int mi), (.int (0 : Int32))]) (V1 : Arv Z h0 ow k1 .byte zo v1 (.int (0 : Int32))) (V2 : Arv Z h0 nc k2 .int (0 : Int32) v2 (.int (0 : Int32))) (V3 : Arv Z h0 nl k3 .long (0 : Int32) v3 (.long (0 : Int64))) (V4 : Arv Z h0 od k4 .long zq v4 (.long (0 : Int64))) :
    Met1 l (⟨"com/example/ariel/ariel/cbor/CborSequence", "footprint", "()J"⟩ : MethodName) prog_32_method_13_code 1 (some .long) ws ({ frames := 0, cells := 0, slots := 0, locals := 0 } : Room) #[(.ref s_)] Z h0 (RV fun vv h L => vv = .long (((zo.toInt64 + ((4 : Int64) * (0 : Int32).toInt64)) + ((8 : Int64) * (0 : Int32).toInt64)) + ((12 : Int64) * (zq - (8 : Int32)).toInt64)) ∧ h = h0 ∧ Fr n0 L) := by
  refine met_of (plainFor_of_name pn_com_example_ariel_ariel_cbor_CborSequence) ?_
  intro p e s m below meth c T0 X0 hx hby hml hZ hown hnm hret hlk e0 es
  have N0 := Fr.nil n0
  refine Gd.cast (ef_35 m s_) ?_
  refine g_aloadN X0 hx hby i35_0 rfl rfl ?_
  refine g_getfield X0 hx hby hZ hown (host := "") (Or.inl (wd_ hw 22 rfl)) Via.refl e0 (own_at Q 1 (by decide) (v := (.ref ow)) rfl) i35_1 fun T1 X1 e1 => ?_
  refine g_arraylength X1 hx hby hZ e1 V1 i35_4 ?_
  refine g_i2l X1 hx hby i35_5 ?_
  refine g_ldc2Long X1 hx hby hZ hown (wd_ hw 221 rfl) i35_6 ?_
  refine g_aloadN X1 hx hby i35_9 rfl rfl ?_
  refine g_getfield X1 hx hby hZ hown (host := "") (Or.inl (wd_ hw 36 rfl)) Via.refl e1 (own_at Q 14 (by decide) (v := (.ref nc)) rfl) i35_10 fun T2 X2 e2 => ?_
  refine g_arraylength X2 hx hby hZ e2 V2 i35_13 ?_
  refine g_i2l X2 hx hby i35_14 ?_
  refine g_lmul X2 hx hby i35_15 ?_
  refine g_ladd X2 hx hby i35_16 ?_
  refine g_ldc2Long X2 hx hby hZ hown (wd_ hw 222 rfl) i35_17 ?_
  refine g_aloadN X2 hx hby i35_20 rfl rfl ?_
  refine g_getfield X2 hx hby hZ hown (host := "") (Or.inl (wd_ hw 32 rfl)) Via.refl e2 (own_at Q 12 (by decide) (v := (.ref nl)) rfl) i35_21 fun T3 X3 e3 => ?_
  refine g_arraylength X3 hx hby hZ e3 V3 i35_24 ?_
  refine g_i2l X3 hx hby i35_25 ?_
  refine g_lmul X3 hx hby i35_26 ?_
  refine g_ladd X3 hx hby i35_27 ?_
  refine g_ldc2Long X3 hx hby hZ hown (wd_ hw 223 rfl) i35_28 ?_
  refine g_aloadN X3 hx hby i35_31 rfl rfl ?_
  refine g_getfield X3 hx hby hZ hown (host := "") (Or.inl (wd_ hw 25 rfl)) Via.refl e3 (own_at Q 5 (by decide) (v := (.ref od)) rfl) i35_32 fun T4 X4 e4 => ?_
  refine g_arraylength X4 hx hby hZ e4 V4 i35_35 ?_
  refine g_bipush X4 hx hby i35_36 (z := (8 : Int32)) (by decide) ?_
  refine g_isub X4 hx hby i35_38 ?_
  refine g_i2l X4 hx hby i35_39 ?_
  refine g_lmul X4 hx hby i35_40 ?_
  refine g_ladd X4 hx hby i35_41 ?_
  refine g_lreturn X4 hx hby hret hlk i35_42 (by decide) (by decide) ?_
  exact ⟨_, rfl, rfl, e4, N0⟩
theorem i40_0 : Ins1 prog_30_method_27_code 0 (.iload_n 0) 1 1 := ⟨by decide +kernel, rfl⟩
theorem i40_1 : Ins1 prog_30_method_27_code 1 (.sipush 256) 3 4 := ⟨by decide +kernel, rfl⟩
theorem i40_4 : InsB prog_30_method_27_code 4 (.if_icmp .lt 14) 14 7 18 := ⟨by decide +kernel, rfl, by decide, by decide⟩
theorem i40_18 : Ins1 prog_30_method_27_code 18 (.return_) 1 19 := ⟨by decide +kernel, rfl⟩
theorem pn_com_example_ariel_ariel_cbor_CborReader : plainName "com/example/ariel/ariel/cbor/CborReader" = true := by first | (simp [plainName, overriddenIn]; done) | decide +kernel
theorem ef_40 (m : MethodId) (p0 : Int32) : entryFrame m #[(.int p0)] 1 = mkF m 0 #[.val (.int p0)] [] := by first | (simp [entryFrame, mkF, argsToLocals, Value.category]; done) | rfl
theorem rm40 (l : Launch) (Z : State) (a0 : Array Value) (hw : ∀ d ∈ tables_1, d.before a0 Z = true) (ws : List Jvm.Cond) (p0 : Int32)  (h0 : Heap) (n0 : Nat) (Z0 : n0 ≤ h0.size) (hp : p0 < (256 : Int32)) :
    Met1 l (⟨"com/example/ariel/ariel/cbor/CborReader", "checkDepth", "(I)V"⟩ : MethodName) prog_30_method_27_code 1 none ws ({ frames := 0, cells := 0, slots := 0, locals := 0 } : Room) #[(.int p0)] Z h0 (RN fun h L => h = h0 ∧ Fr n0 L) := by
  refine met_of (plainFor_of_name pn_com_example_ariel_ariel_cbor_CborReader) ?_
  intro p e s m below meth c T0 X0 hx hby hml hZ hown hnm hret hlk e0 es
  have N0 := Fr.nil n0
  refine Gd.cast (ef_40 m p0) ?_
  refine g_iloadN X0 hx hby i40_0 rfl ?_
  refine g_sipush X0 hx hby i40_1 (z := (256 : Int32)) (by decide) ?_
  refine g_icmp_lt X0 hx hby i40_4 (fun c4_1 => ?_) (fun c4_1 => False.elim (c4_1 hp))
  refine g_return X0 hx hby hret hlk i40_18 (by decide) (by decide) ?_
  exact ⟨rfl, e0, N0⟩
theorem i13_0 : Ins1 prog_30_method_28_code 0 (.iload_n 0) 1 1 := ⟨by decide +kernel, rfl⟩
theorem i13_1 : Ins1 prog_30_method_28_code 1 (.bipush 24) 2 3 := ⟨by decide +kernel, rfl⟩
theorem i13_3 : InsB prog_30_method_28_code 3 (.if_icmp .ge 7) 7 6 10 := ⟨by decide +kernel, rfl, by decide, by decide⟩
theorem i13_6 : Ins1 prog_30_method_28_code 6 (.iconst 0) 1 7 := ⟨by decide +kernel, rfl⟩
theorem i13_7 : InsB prog_30_method_28_code 7 (.goto 9) 9 10 16 := ⟨by decide +kernel, rfl, by decide, by decide⟩
theorem i13_16 : Ins1 prog_30_method_28_code 16 (.ireturn) 1 17 := ⟨by decide +kernel, rfl⟩
theorem ef_13 (m : MethodId) (p0 : Int32) : entryFrame m #[(.int p0)] 1 = mkF m 0 #[.val (.int p0)] [] := by first | (simp [entryFrame, mkF, argsToLocals, Value.category]; done) | rfl
theorem rm13 (l : Launch) (Z : State) (a0 : Array Value) (hw : ∀ d ∈ tables_1, d.before a0 Z = true) (ws : List Jvm.Cond) (p0 : Int32)  (h0 : Heap) (n0 : Nat) (Z0 : n0 ≤ h0.size) (hp : p0 < (24 : Int32)) :
    Met1 l (⟨"com/example/ariel/ariel/cbor/CborReader", "argumentSize", "(I)I"⟩ : MethodName) prog_30_method_28_code 1 (some .int) ws ({ frames := 0, cells := 0, slots := 0, locals := 0 } : Room) #[(.int p0)] Z h0 (RV fun vv h L => vv = .int 0 ∧ h = h0 ∧ Fr n0 L) := by
  refine met_of (plainFor_of_name pn_com_example_ariel_ariel_cbor_CborReader) ?_
  intro p e s m below meth c T0 X0 hx hby hml hZ hown hnm hret hlk e0 es
  have N0 := Fr.nil n0
  refine Gd.cast (ef_13 m p0) ?_
  refine g_iloadN X0 hx hby i13_0 rfl ?_
  refine g_bipush X0 hx hby i13_1 (z := (24 : Int32)) (by decide) ?_
  refine g_icmp_ge X0 hx hby i13_3 (fun c3_1 => False.elim (c3_1 hp)) fun c3_1 => ?_
  refine g_iconst X0 hx hby i13_6 (z := (0 : Int32)) (by decide) ?_
  refine g_goto X0 hx hby i13_7 ?_
  refine g_ireturn X0 hx hby hret hlk i13_16 (by decide) (by decide) ?_
  exact ⟨_, rfl, rfl, e0, N0⟩
theorem i14_0 : Ins1 prog_32_method_17_code 0 (.aload_n 0) 1 1 := ⟨by decide +kernel, rfl⟩
theorem i14_1 : Ins1 prog_32_method_17_code 1 (.getfield 72) 3 4 := ⟨by decide +kernel, rfl⟩
theorem i14_4 : InsB prog_32_method_17_code 4 (.ifCond .ne 5) 5 7 9 := ⟨by decide +kernel, rfl, by decide, by decide⟩
theorem i14_7 : Ins1 prog_32_method_17_code 7 (.lload_n 1) 1 8 := ⟨by decide +kernel, rfl⟩
theorem i14_8 : Ins1 prog_32_method_17_code 8 (.lreturn) 1 9 := ⟨by decide +kernel, rfl⟩
theorem ef_14 (m : MethodId) (s_ : Addr) (q1 : Int64) : entryFrame m #[(.ref s_), (.long q1)] 5 = mkF m 0 #[.val (.ref s_), .val (.long q1), .second, .unset, .unset] [] := by first | (simp [entryFrame, mkF, argsToLocals, Value.category]; done) | rfl
theorem rm14 (l : Launch) (Z : State) (a0 : Array Value) (hw : ∀ d ∈ tables_1, d.before a0 Z = true) (ws : List Jvm.Cond) (s_ : Addr) (q1 : Int64) (bu ow od ub nl nc : Addr) (st en sc dp sk mx mi : Int32) (sl kl cl : Int64) (h0 : Heap) (n0 : Nat) (Z0 : n0 ≤ h0.size) (Q : own_seq Z h0 s_ [(.ref bu), (.ref ow), (.int st), (.int en), (.int sc), (.ref od), (.ref ub), (.int dp), (.long sl), (.long kl), (.int sk), (.long cl), (.ref nl), (.int (0 : Int32)), (.ref nc), (.int (0 : Int32)), (.int (0 : Int32)), (.long (0 : Int64)), (.int (0 : Int32)), (.int mx), (.int mi), (.int (0 : Int32))]) :
    Met1 l (⟨"com/example/ariel/ariel/cbor/CborSequence", "kept", "(J)J"⟩ : MethodName) prog_32_method_17_code 5 (some .long) ws ({ frames := 0, cells := 0, slots := 0, locals := 0 } : Room) #[(.ref s_), (.long q1)] Z h0 (RV fun vv h L => vv = .long q1 ∧ h = h0 ∧ Fr n0 L) := by
  refine met_of (plainFor_of_name pn_com_example_ariel_ariel_cbor_CborSequence) ?_
  intro p e s m below meth c T0 X0 hx hby hml hZ hown hnm hret hlk e0 es
  have N0 := Fr.nil n0
  refine Gd.cast (ef_14 m s_ q1) ?_
  refine g_aloadN X0 hx hby i14_0 rfl rfl ?_
  refine g_getfield X0 hx hby hZ hown (host := "") (Or.inl (wd_ hw 46 rfl)) Via.refl e0 (own_at Q 21 (by decide) (v := (.int (0 : Int32))) rfl) i14_1 fun T1 X1 e1 => ?_
  refine g_if_ne X1 hx hby i14_4 (fun c4_2 => False.elim (absurd c4_2 (by decide))) fun c4_2 => ?_
  refine g_lloadN X1 hx hby i14_7 rfl ?_
  refine g_lreturn X1 hx hby hret hlk i14_8 (by decide) (by decide) ?_
  exact ⟨_, rfl, rfl, e1, N0⟩
theorem i12_0 : Ins1 prog_30_method_25_code 0 (.iload_n 0) 1 1 := ⟨by decide +kernel, rfl⟩
theorem i12_1 : Ins1 prog_30_method_25_code 1 (.bipush 31) 2 3 := ⟨by decide +kernel, rfl⟩
theorem i12_3 : Ins1 prog_30_method_25_code 3 (.iand) 1 4 := ⟨by decide +kernel, rfl⟩
theorem i12_4 : Ins1 prog_30_method_25_code 4 (.istore_n 1) 1 5 := ⟨by decide +kernel, rfl⟩
theorem i12_5 : Ins1 prog_30_method_25_code 5 (.iload_n 0) 1 6 := ⟨by decide +kernel, rfl⟩
theorem i12_6 : Ins1 prog_30_method_25_code 6 (.iconst 5) 1 7 := ⟨by decide +kernel, rfl⟩
theorem i12_7 : Ins1 prog_30_method_25_code 7 (.iushr) 1 8 := ⟨by decide +kernel, rfl⟩
theorem i12_8 : Ins1 prog_30_method_25_code 8 (.istore_n 2) 1 9 := ⟨by decide +kernel, rfl⟩
theorem i12_9 : Ins1 prog_30_method_25_code 9 (.iload_n 0) 1 10 := ⟨by decide +kernel, rfl⟩
theorem i12_10 : Ins1 prog_30_method_25_code 10 (.sipush 255) 3 13 := ⟨by decide +kernel, rfl⟩
theorem i12_13 : InsB prog_30_method_25_code 13 (.if_icmp .ne 14) 14 16 27 := ⟨by decide +kernel, rfl, by decide, by decide⟩
theorem i12_27 : Ins1 prog_30_method_25_code 27 (.iload_n 1) 1 28 := ⟨by decide +kernel, rfl⟩
theorem i12_28 : Ins1 prog_30_method_25_code 28 (.bipush 28) 2 30 := ⟨by decide +kernel, rfl⟩
theorem i12_30 : InsB prog_30_method_25_code 30 (.if_icmp .lt 23) 23 33 53 := ⟨by decide +kernel, rfl, by decide, by decide⟩
theorem i12_33 : Ins1 prog_30_method_25_code 33 (.iload_n 1) 1 34 := ⟨by decide +kernel, rfl⟩
theorem i12_34 : Ins1 prog_30_method_25_code 34 (.bipush 31) 2 36 := ⟨by decide +kernel, rfl⟩
theorem i12_36 : InsB prog_30_method_25_code 36 (.if_icmp .ge 17) 17 39 53 := ⟨by decide +kernel, rfl, by decide, by decide⟩
theorem i12_53 : Ins1 prog_30_method_25_code 53 (.iload_n 1) 1 54 := ⟨by decide +kernel, rfl⟩
theorem i12_54 : Ins1 prog_30_method_25_code 54 (.bipush 31) 2 56 := ⟨by decide +kernel, rfl⟩
theorem i12_56 : InsB prog_30_method_25_code 56 (.if_icmp .ne 28) 28 59 84 := ⟨by decide +kernel, rfl, by decide, by decide⟩
theorem i12_59 : Ins1 prog_30_method_25_code 59 (.iload_n 2) 1 60 := ⟨by decide +kernel, rfl⟩
theorem i12_60 : Ins1 prog_30_method_25_code 60 (.iconst 2) 1 61 := ⟨by decide +kernel, rfl⟩
theorem i12_61 : InsB prog_30_method_25_code 61 (.if_icmp .lt 9) 9 64 70 := ⟨by decide +kernel, rfl, by decide, by decide⟩
theorem i12_64 : Ins1 prog_30_method_25_code 64 (.iload_n 2) 1 65 := ⟨by decide +kernel, rfl⟩
theorem i12_65 : Ins1 prog_30_method_25_code 65 (.bipush 6) 2 67 := ⟨by decide +kernel, rfl⟩
theorem i12_67 : InsB prog_30_method_25_code 67 (.if_icmp .ne 17) 17 70 84 := ⟨by decide +kernel, rfl, by decide, by decide⟩
theorem i12_84 : Ins1 prog_30_method_25_code 84 (.return_) 1 85 := ⟨by decide +kernel, rfl⟩
theorem ef_12_a (m : MethodId) (p0 : Int32) : entryFrame m #[(.int p0)] 3 = mkF m 0 #[.val (.int p0), .unset, .unset] [] := by first | (simp [entryFrame, mkF, argsToLocals, Value.category]; done) | rfl
theorem rm12_a (l : Launch) (Z : State) (a0 : Array Value) (hw : ∀ d ∈ tables_1, d.before a0 Z = true) (ws : List Jvm.Cond) (p0 : Int32)  (h0 : Heap) (n0 : Nat) (Z0 : n0 ≤ h0.size) (hp : p0 = (159 : Int32)) :
    Met1 l (⟨"com/example/ariel/ariel/cbor/CborReader", "checkInitialByte", "(I)V"⟩ : MethodName) prog_30_method_25_code 3 none ws ({ frames := 0, cells := 0, slots := 0, locals := 0 } : Room) #[(.int p0)] Z h0 (RN fun h L => h = h0 ∧ Fr n0 L) := by
  refine met_of (plainFor_of_name pn_com_example_ariel_ariel_cbor_CborReader) ?_
  intro p e s m below meth c T0 X0 hx hby hml hZ hown hnm hret hlk e0 es
  have N0 := Fr.nil n0
  refine Gd.cast (ef_12_a m p0) ?_
  subst hp
  refine g_iloadN X0 hx hby i12_0 rfl ?_
  refine g_bipush X0 hx hby i12_1 (z := (31 : Int32)) (by decide) ?_
  refine g_iand X0 hx hby i12_3 ?_
  refine g_istoreN X0 hx hby i12_4 (l' := #[.val (.int (159 : Int32)), .val (.int ((159 : Int32) &&& (31 : Int32))), .unset]) rfl ?_
  refine g_iloadN X0 hx hby i12_5 rfl ?_
  refine g_iconst X0 hx hby i12_6 (z := (5 : Int32)) (by decide) ?_
  refine g_iushr X0 hx hby i12_7 ?_
  refine g_istoreN X0 hx hby i12_8 (l' := #[.val (.int (159 : Int32)), .val (.int ((159 : Int32) &&& (31 : Int32))), .val (.int (((159 : Int32).toUInt32 >>> ((5 : Int32) &&& 31).toUInt32).toInt32))]) rfl ?_
  refine g_iloadN X0 hx hby i12_9 rfl ?_
  refine g_sipush X0 hx hby i12_10 (z := (255 : Int32)) (by decide) ?_
  refine g_icmp_ne X0 hx hby i12_13 (fun c13_1 => ?_) (fun c13_1 => False.elim (absurd c13_1 (by decide)))
  refine g_iloadN X0 hx hby i12_27 rfl ?_
  refine g_bipush X0 hx hby i12_28 (z := (28 : Int32)) (by decide) ?_
  refine g_icmp_lt X0 hx hby i12_30 (fun c30_2 => False.elim (absurd c30_2 (by decide))) fun c30_2 => ?_
  refine g_iloadN X0 hx hby i12_33 rfl ?_
  refine g_bipush X0 hx hby i12_34 (z := (31 : Int32)) (by decide) ?_
  refine g_icmp_ge X0 hx hby i12_36 (fun c36_3 => ?_) (fun c36_3 => False.elim (absurd c36_3 (by decide)))
  refine g_iloadN X0 hx hby i12_53 rfl ?_
  refine g_bipush X0 hx hby i12_54 (z := (31 : Int32)) (by decide) ?_
  refine g_icmp_ne X0 hx hby i12_56 (fun c56_4 => False.elim (absurd c56_4 (by decide))) fun c56_4 => ?_
  refine g_iloadN X0 hx hby i12_59 rfl ?_
  refine g_iconst X0 hx hby i12_60 (z := (2 : Int32)) (by decide) ?_
  refine g_icmp_lt X0 hx hby i12_61 (fun c61_5 => False.elim (absurd c61_5 (by decide))) fun c61_5 => ?_
  refine g_iloadN X0 hx hby i12_64 rfl ?_
  refine g_bipush X0 hx hby i12_65 (z := (6 : Int32)) (by decide) ?_
  refine g_icmp_ne X0 hx hby i12_67 (fun c67_6 => ?_) (fun c67_6 => False.elim (absurd c67_6 (by decide)))
  refine g_return X0 hx hby hret hlk i12_84 (by decide) (by decide) ?_
  exact ⟨rfl, e0, N0⟩
theorem rm12_s (l : Launch) (Z : State) (a0 : Array Value) (hw : ∀ d ∈ tables_1, d.before a0 Z = true) (ws : List Jvm.Cond) (p0 : Int32)  (h0 : Heap) (n0 : Nat) (Z0 : n0 ≤ h0.size) (hp : ¬ p0 = (255 : Int32)) (hq : (p0 &&& (31 : Int32)) < (24 : Int32)) :
    Met1 l (⟨"com/example/ariel/ariel/cbor/CborReader", "checkInitialByte", "(I)V"⟩ : MethodName) prog_30_method_25_code 3 none ws ({ frames := 0, cells := 0, slots := 0, locals := 0 } : Room) #[(.int p0)] Z h0 (RN fun h L => h = h0 ∧ Fr n0 L) := by
  refine met_of (plainFor_of_name pn_com_example_ariel_ariel_cbor_CborReader) ?_
  intro p e s m below meth c T0 X0 hx hby hml hZ hown hnm hret hlk e0 es
  have N0 := Fr.nil n0
  refine Gd.cast (ef_12_a m p0) ?_
  refine g_iloadN X0 hx hby i12_0 rfl ?_
  refine g_bipush X0 hx hby i12_1 (z := (31 : Int32)) (by decide) ?_
  refine g_iand X0 hx hby i12_3 ?_
  refine g_istoreN X0 hx hby i12_4 (l' := #[.val (.int p0), .val (.int (p0 &&& (31 : Int32))), .unset]) rfl ?_
  refine g_iloadN X0 hx hby i12_5 rfl ?_
  refine g_iconst X0 hx hby i12_6 (z := (5 : Int32)) (by decide) ?_
  refine g_iushr X0 hx hby i12_7 ?_
  refine g_istoreN X0 hx hby i12_8 (l' := #[.val (.int p0), .val (.int (p0 &&& (31 : Int32))), .val (.int ((p0.toUInt32 >>> ((5 : Int32) &&& 31).toUInt32).toInt32))]) rfl ?_
  refine g_iloadN X0 hx hby i12_9 rfl ?_
  refine g_sipush X0 hx hby i12_10 (z := (255 : Int32)) (by decide) ?_
  refine g_icmp_ne X0 hx hby i12_13 (fun c13_1 => ?_) (fun c13_1 => False.elim (hp c13_1))
  refine g_iloadN X0 hx hby i12_27 rfl ?_
  refine g_bipush X0 hx hby i12_28 (z := (28 : Int32)) (by decide) ?_
  refine g_icmp_lt X0 hx hby i12_30 (fun c30_2 => ?_) (fun c30_2 => False.elim (c30_2 (own_lt28 hq)))
  refine g_iloadN X0 hx hby i12_53 rfl ?_
  refine g_bipush X0 hx hby i12_54 (z := (31 : Int32)) (by decide) ?_
  refine g_icmp_ne X0 hx hby i12_56 (fun c56_3 => ?_) (fun c56_3 => False.elim (own_ne31 hq c56_3))
  refine g_return X0 hx hby hret hlk i12_84 (by decide) (by decide) ?_
  exact ⟨rfl, e0, N0⟩
theorem i44_0 : Ins1 prog_32_method_8_code 0 (.aload_n 0) 1 1 := ⟨by decide +kernel, rfl⟩
theorem i44_1 : Ins1 prog_32_method_8_code 1 (.invokevirtual 105) 3 4 := ⟨by decide +kernel, rfl⟩
theorem i44_4 : Ins1 prog_32_method_8_code 4 (.istore_n 1) 1 5 := ⟨by decide +kernel, rfl⟩
theorem i44_5 : Ins1 prog_32_method_8_code 5 (.aload_n 0) 1 6 := ⟨by decide +kernel, rfl⟩
theorem i44_6 : Ins1 prog_32_method_8_code 6 (.getfield 28) 3 9 := ⟨by decide +kernel, rfl⟩
theorem i44_9 : Ins1 prog_32_method_8_code 9 (.arraylength) 1 10 := ⟨by decide +kernel, rfl⟩
theorem i44_10 : Ins1 prog_32_method_8_code 10 (.iload_n 1) 1 11 := ⟨by decide +kernel, rfl⟩
theorem i44_11 : InsB prog_32_method_8_code 11 (.if_icmp .lt 14) 14 14 25 := ⟨by decide +kernel, rfl, by decide, by decide⟩
theorem i44_14 : Ins1 prog_32_method_8_code 14 (.aload_n 0) 1 15 := ⟨by decide +kernel, rfl⟩
theorem i44_15 : Ins1 prog_32_method_8_code 15 (.getfield 28) 3 18 := ⟨by decide +kernel, rfl⟩
theorem i44_18 : Ins1 prog_32_method_8_code 18 (.arraylength) 1 19 := ⟨by decide +kernel, rfl⟩
theorem i44_19 : Ins1 prog_32_method_8_code 19 (.iconst 2) 1 20 := ⟨by decide +kernel, rfl⟩
theorem i44_20 : Ins1 prog_32_method_8_code 20 (.iload_n 1) 1 21 := ⟨by decide +kernel, rfl⟩
theorem i44_21 : Ins1 prog_32_method_8_code 21 (.imul) 1 22 := ⟨by decide +kernel, rfl⟩
theorem i44_22 : InsB prog_32_method_8_code 22 (.if_icmp .le 13) 13 25 35 := ⟨by decide +kernel, rfl, by decide, by decide⟩
theorem i44_25 : Ins1 prog_32_method_8_code 25 (.aload_n 0) 1 26 := ⟨by decide +kernel, rfl⟩
theorem i44_26 : Ins1 prog_32_method_8_code 26 (.iload_n 1) 1 27 := ⟨by decide +kernel, rfl⟩
theorem i44_27 : Ins1 prog_32_method_8_code 27 (.newarray .byte) 2 29 := ⟨by decide +kernel, rfl⟩
theorem i44_29 : Ins1 prog_32_method_8_code 29 (.invokevirtual 95) 3 32 := ⟨by decide +kernel, rfl⟩
theorem i44_32 : InsB prog_32_method_8_code 32 (.goto 22) 22 35 54 := ⟨by decide +kernel, rfl, by decide, by decide⟩
theorem i44_35 : Ins1 prog_32_method_8_code 35 (.aload_n 0) 1 36 := ⟨by decide +kernel, rfl⟩
theorem i44_36 : Ins1 prog_32_method_8_code 36 (.getfield 25) 3 39 := ⟨by decide +kernel, rfl⟩
theorem i44_39 : Ins1 prog_32_method_8_code 39 (.aload_n 0) 1 40 := ⟨by decide +kernel, rfl⟩
theorem i44_40 : Ins1 prog_32_method_8_code 40 (.getfield 28) 3 43 := ⟨by decide +kernel, rfl⟩
theorem i44_43 : InsB prog_32_method_8_code 43 (.if_acmp .eq 11) 11 46 54 := ⟨by decide +kernel, rfl, by decide, by decide⟩
theorem i44_46 : Ins1 prog_32_method_8_code 46 (.aload_n 0) 1 47 := ⟨by decide +kernel, rfl⟩
theorem i44_47 : Ins1 prog_32_method_8_code 47 (.aload_n 0) 1 48 := ⟨by decide +kernel, rfl⟩
theorem i44_48 : Ins1 prog_32_method_8_code 48 (.getfield 28) 3 51 := ⟨by decide +kernel, rfl⟩
theorem i44_51 : Ins1 prog_32_method_8_code 51 (.invokevirtual 95) 3 54 := ⟨by decide +kernel, rfl⟩
theorem i44_54 : Ins1 prog_32_method_8_code 54 (.return_) 1 55 := ⟨by decide +kernel, rfl⟩
theorem ef_44_A (m : MethodId) (s_ : Addr) : entryFrame m #[(.ref s_)] 2 = mkF m 0 #[.val (.ref s_), .unset] [] := by first | (simp [entryFrame, mkF, argsToLocals, Value.category]; done) | rfl
theorem pd_2 : parseMethodDescriptor "()I" = some ⟨[], some .int⟩ := by decide +kernel
theorem pd_3 : parseMethodDescriptor "([B)V" = some ⟨[(.array .byte)], none⟩ := by decide +kernel
theorem rm44_A (l : Launch) (Z : State) (a0 : Array Value) (hw : ∀ d ∈ tables_1, d.before a0 Z = true) (ws : List Jvm.Cond) (s_ : Addr) (no_ : Addr) (bu ow od ub nl nc : Addr) (st en sc dp sk mx mi : Int32) (sl kl cl : Int64) (kb ko : ClassId) (zb zo : Int32) (vb vo : List Value) (h0 : Heap) (n0 : Nat) (Z0 : n0 ≤ h0.size) (SA_ : Sta Z Z.heap "com/example/ariel/ariel/cbor/CborSequence" "NOTHING" "[B" (.ref no_)) (SB_ : Sta Z Z.heap "com/example/ariel/ariel/cbor/CborSequence" "NO_LENGTHS" "[J" (.ref nl)) (SC_ : Sta Z Z.heap "com/example/ariel/ariel/cbor/CborSequence" "NO_CUTS" "[I" (.ref nc)) (O : Old Z n0 h0) (Q : own_seq Z h0 s_ [(.ref bu), (.ref ow), (.int st), (.int en), (.int sc), (.ref od), (.ref ub), (.int dp), (.long sl), (.long kl), (.int sk), (.long cl), (.ref nl), (.int (0 : Int32)), (.ref nc), (.int (0 : Int32)), (.int (0 : Int32)), (.long (0 : Int64)), (.int (0 : Int32)), (.int mx), (.int mi), (.int (0 : Int32))]) (Vb : Arv Z h0 bu kb .byte zb vb (.int (0 : Int32))) (Vo : Arv Z h0 ow ko .byte zo vo (.int (0 : Int32))) (hgo : zo < (en - st) ∨ n0 ≤ ow) (hbo : bu ≠ ow) (hsb : s_ ≠ bu) (hso : s_ ≠ ow) (g_s_ : n0 ≤ s_) (hi0 : ¬ st < 0) (hz0 : ¬ en - st < 0) (hle : st.toNatClampNeg + (en - st).toNatClampNeg ≤ zb.toNatClampNeg) (hcap : (en - st).toNatClampNeg ≤ 128) :
    Met1 l (⟨"com/example/ariel/ariel/cbor/CborSequence", "detach", "()V"⟩ : MethodName) prog_32_method_8_code 2 none ws ({ frames := 3, cells := 1, slots := 128, locals := 50 } : Room) #[(.ref s_)] Z h0 (RN fun h L => (((zo < (en - st) ∨ (2 : Int32) * (en - st) < zo) ∧ ∃ t kt vt, Keep h0 h [s_, ow] ∧ own_seq Z h s_ [(.ref t), (.ref t), (.int (0 : Int32)), (.int (en - st)), (.int sc), (.ref od), (.ref ub), (.int dp), (.long sl), (.long kl), (.int sk), (.long cl), (.ref nl), (.int (0 : Int32)), (.ref nc), (.int (0 : Int32)), (.int (0 : Int32)), (.long (0 : Int64)), (.int (0 : Int32)), (.int mx), (.int mi), (.int (0 : Int32))] ∧ Arv Z h t kt .byte (en - st) vt (.int (0 : Int32)) ∧ n0 ≤ t ∧ h0.size ≤ t) ∨ (¬ (zo < (en - st) ∨ (2 : Int32) * (en - st) < zo) ∧ Keep h0 h [s_, ow] ∧ own_seq Z h s_ [(.ref ow), (.ref ow), (.int (0 : Int32)), (.int (en - st)), (.int sc), (.ref od), (.ref ub), (.int dp), (.long sl), (.long kl), (.int sk), (.long cl), (.ref nl), (.int (0 : Int32)), (.ref nc), (.int (0 : Int32)), (.int (0 : Int32)), (.long (0 : Int64)), (.int (0 : Int32)), (.int mx), (.int mi), (.int (0 : Int32))] ∧ ∃ vo', Arv Z h ow ko .byte zo vo' (.int (0 : Int32)))) ∧ Old Z n0 h ∧ Fr n0 L) := by
  refine met_of (plainFor_of_name pn_com_example_ariel_ariel_cbor_CborSequence) ?_
  intro p e s m below meth c T0 X0 hx hby hml hZ hown hnm hret hlk e0 es
  have N0 := Fr.nil n0
  refine Gd.cast (ef_44_A m s_) ?_
  have K0 : Keep h0 h0 [s_, ow] := Keep.refl _ _
  refine g_aloadN X0 hx hby i44_0 rfl rfl ?_
  refine g_callV0 X0 hx hby hZ (y0 := (⟨"com/example/ariel/ariel/cbor/CborSequence", "pending", "()I"⟩ : MethodName)) (y := (⟨"com/example/ariel/ariel/cbor/CborSequence", "pending", "()I"⟩ : MethodName)) (argsL := []) (rest := []) hown (wd_ hw 262 rfl) (wd_ hw 263 rfl) (notFace_of_selects (args := #[]) (mvT hZ (wd_ hw 265 rfl))) (wd_ hw 265 rfl) (wd_ hw 264 rfl) (wd_ hw 4 rfl) (wd_ hw 266 rfl) (by decide) (a := s_) Q.1 (rm45 l Z a0 hw [] s_ bu ow od ub nl nc st en sc dp sk mx mi sl kl cl h0 n0 Z0 Q) e0 (by rw [hml]; rfl) pd_2 rfl rfl i44_1 (by decide) 0 rfl (by decide) (by decide) (by decide) fun T1 v1 L1 X1 q1 => ?_
  obtain ⟨_, rfl, rfl, e1, N1⟩ := q1
  have N0 := Fr.app N0 N1
  rw [Int32.sub_zero]
  show Gd p e below _ T1 (mkF m 4 #[.val (.ref s_), .unset] [(.int (en - st))])
  refine g_istoreN X1 hx hby i44_4 (l' := #[.val (.ref s_), .val (.int (en - st))]) rfl ?_
  refine g_aloadN X1 hx hby i44_5 rfl rfl ?_
  refine g_getfield X1 hx hby hZ hown (host := "") (Or.inl (wd_ hw 22 rfl)) Via.refl e1 (own_at Q 1 (by decide) (v := (.ref ow)) rfl) i44_6 fun T2 X2 e2 => ?_
  refine g_arraylength X2 hx hby hZ e2 Vo i44_9 ?_
  refine g_iloadN X2 hx hby i44_10 rfl ?_
  refine g_icmp_lt X2 hx hby i44_11 (fun c11_3 => ?_) (fun c11_3 => ?_)
  · refine g_aloadN X2 hx hby i44_25 rfl rfl ?_
    refine g_iloadN X2 hx hby i44_26 rfl ?_
    refine g_newarray X2 hx hby hZ (ty := .byte) rfl (wd_ hw 1 rfl) e2 i44_27 hz0 128 hcap (by decide) (by decide) (by decide) fun T4 h4 b4 k4 X4 e4 E4 hb4 V4 => ?_
    have ne_s__b4 : s_ ≠ b4 := Nat.ne_of_lt (Nat.lt_of_lt_of_le Q.lt (Nat.le_of_eq hb4.symm))
    have ne_bu_b4 : bu ≠ b4 := Nat.ne_of_lt (Nat.lt_of_lt_of_le Vb.lt (Nat.le_of_eq hb4.symm))
    have ne_ow_b4 : ow ≠ b4 := Nat.ne_of_lt (Nat.lt_of_lt_of_le Vo.lt (Nat.le_of_eq hb4.symm))
    have g_b4 : n0 ≤ b4 := Nat.le_trans Z0 (Nat.le_of_eq hb4.symm)
    have Q := Q.ext E4
    have Vb := Vb.ext E4
    have Vo := Vo.ext E4
    have O := O.ext E4
    have sz_b4 : h0.size ≤ b4 := Nat.le_trans K0.1 (Nat.le_of_eq hb4.symm)
    have K0 := K0.ext E4
    have Z0 : n0 ≤ h4.size := Nat.le_trans Z0 E4.1
    have V4 : Arv Z h4 b4 k4 .byte (en - st) [] (.int (0 : Int32)) := V4
    have V4 := V4.pad (pad_rep _ _ (en - st).toNatClampNeg)
    refine g_callPriv X4 hx hby hZ (y := (⟨"com/example/ariel/ariel/cbor/CborSequence", "moveHeldTo", "([B)V"⟩ : MethodName)) (argsL := [(.ref b4)]) (rest := []) hown (wd_ hw 229 rfl) (wd_ hw 230 rfl) (wd_ hw 3 rfl) (wd_ hw 231 rfl) (wd_ hw 4 rfl) (wd_ hw 232 rfl) (by decide) (a := s_) Q.1 (rm37 l Z a0 hw [] s_ b4 no_ bu ow od ub nl nc st en sc dp sk mx mi sl kl cl kb k4 zb (en - st) _ _ _ _ h4 n0 Z0 SA_ SB_ SC_ O Q g_s_ hsb Vb V4 g_b4 ne_bu_b4 ne_s__b4 hi0 rfl hz0 rfl hle (Nat.le_refl _) (own_padl _ _ _)) e4 (by rw [hml]; rfl) pd_3 rfl rfl i44_29 (by decide) 0 rfl (by decide) (by decide) (by decide) fun T5 v5 L5 X5 q5 => ?_
    obtain ⟨rfl, K5, Q5, ⟨vd5, V5⟩, N5⟩ := q5
    have N0 := Fr.app N0 N5
    have K0 := K0.trans K5 (fun x hx => by simp at hx; rcases hx with rfl | rfl; exact Or.inl (by simp); exact Or.inr sz_b4)
    have Vb := Vb.keep K5 (ninS (Ne.symm hsb) (ninS ne_bu_b4 nin0))
    have Vo := Vo.keep K5 (ninS (Ne.symm hso) (ninS ne_ow_b4 nin0))
    have O := O.keep K5 (allS g_s_ (allS g_b4 all0))
    have Z0 : n0 ≤ T5.heap.size := Nat.le_trans Z0 K5.1
    show Gd p e below _ T5 (mkF m 32 #[.val (.ref s_), .val (.int (en - st))] [])
    refine g_goto X5 hx hby i44_32 ?_
    refine g_return X5 hx hby hret hlk i44_54 (by decide) (by decide) ?_
    exact ⟨rfl, Or.inl ⟨Or.inl c11_3, b4, _, _, K0, Q5, V5, g_b4, sz_b4⟩, O, N0⟩
  · refine g_aloadN X2 hx hby i44_14 rfl rfl ?_
    refine g_getfield X2 hx hby hZ hown (host := "") (Or.inl (wd_ hw 22 rfl)) Via.refl e2 (own_at Q 1 (by decide) (v := (.ref ow)) rfl) i44_15 fun T6 X6 e6 => ?_
    refine g_arraylength X6 hx hby hZ e6 Vo i44_18 ?_
    refine g_iconst X6 hx hby i44_19 (z := (2 : Int32)) (by decide) ?_
    refine g_iloadN X6 hx hby i44_20 rfl ?_
    refine g_imul X6 hx hby i44_21 ?_
    refine g_icmp_le X6 hx hby i44_22 (fun c22_7 => ?_) (fun c22_7 => ?_)
    · refine g_aloadN X6 hx hby i44_35 rfl rfl ?_
      refine g_getfield X6 hx hby hZ hown (host := "") (Or.inl (wd_ hw 20 rfl)) Via.refl e6 (own_at Q 0 (by decide) (v := (.ref bu)) rfl) i44_36 fun T8 X8 e8 => ?_
      refine g_aloadN X8 hx hby i44_39 rfl rfl ?_
      refine g_getfield X8 hx hby hZ hown (host := "") (Or.inl (wd_ hw 22 rfl)) Via.refl e8 (own_at Q 1 (by decide) (v := (.ref ow)) rfl) i44_40 fun T9 X9 e9 => ?_
      refine g_acmp_eq X9 hx hby i44_43 rfl rfl (fun c43_10 => False.elim (hbo (Value.ref.inj c43_10))) fun c43_10 => ?_
      have g_ow : n0 ≤ ow := hgo.resolve_left c11_3
      refine g_aloadN X9 hx hby i44_46 rfl rfl ?_
      refine g_aloadN X9 hx hby i44_47 rfl rfl ?_
      refine g_getfield X9 hx hby hZ hown (host := "") (Or.inl (wd_ hw 22 rfl)) Via.refl e9 (own_at Q 1 (by decide) (v := (.ref ow)) rfl) i44_48 fun T11 X11 e11 => ?_
      have Vo := Vo.pad (pad_rep _ _ (en - st).toNatClampNeg)
      refine g_callPriv X11 hx hby hZ (y := (⟨"com/example/ariel/ariel/cbor/CborSequence", "moveHeldTo", "([B)V"⟩ : MethodName)) (argsL := [(.ref ow)]) (rest := []) hown (wd_ hw 229 rfl) (wd_ hw 230 rfl) (wd_ hw 3 rfl) (wd_ hw 231 rfl) (wd_ hw 4 rfl) (wd_ hw 232 rfl) (by decide) (a := s_) Q.1 (rm37 l Z a0 hw [] s_ ow no_ bu ow od ub nl nc st en sc dp sk mx mi sl kl cl kb ko zb zo _ _ _ _ h0 n0 Z0 SA_ SB_ SC_ O Q g_s_ hsb Vb Vo g_ow hbo hso hi0 rfl hz0 rfl hle (own_nlt c11_3) (own_padl _ _ _)) e11 (by rw [hml]; rfl) pd_3 rfl rfl i44_51 (by decide) 0 rfl (by decide) (by decide) (by decide) fun T12 v12 L12 X12 q12 => ?_
      obtain ⟨rfl, K12, Q12, ⟨vd12, V12⟩, N12⟩ := q12
      have N0 := Fr.app N0 N12
      have K0 := K0.trans K12 (fun x hx => by simp at hx; rcases hx with rfl | rfl; exact Or.inl (by simp); exact Or.inl (by simp))
      have Vb := Vb.keep K12 (ninS (Ne.symm hsb) (ninS hbo nin0))
      have O := O.keep K12 (allS g_s_ (allS g_ow all0))
      have Z0 : n0 ≤ T12.heap.size := Nat.le_trans Z0 K12.1
      show Gd p e below _ T12 (mkF m 54 #[.val (.ref s_), .val (.int (en - st))] [])
      refine g_return X12 hx hby hret hlk i44_54 (by decide) (by decide) ?_
      exact ⟨rfl, Or.inr ⟨fun q => q.elim c11_3 c22_7, K0, Q12, _, V12⟩, O, N0⟩
    · refine g_aloadN X6 hx hby i44_25 rfl rfl ?_
      refine g_iloadN X6 hx hby i44_26 rfl ?_
      refine g_newarray X6 hx hby hZ (ty := .byte) rfl (wd_ hw 1 rfl) e6 i44_27 hz0 128 hcap (by decide) (by decide) (by decide) fun T13 h13 b13 k13 X13 e13 E13 hb13 V13 => ?_
      have ne_s__b13 : s_ ≠ b13 := Nat.ne_of_lt (Nat.lt_of_lt_of_le Q.lt (Nat.le_of_eq hb13.symm))
      have ne_bu_b13 : bu ≠ b13 := Nat.ne_of_lt (Nat.lt_of_lt_of_le Vb.lt (Nat.le_of_eq hb13.symm))
      have ne_ow_b13 : ow ≠ b13 := Nat.ne_of_lt (Nat.lt_of_lt_of_le Vo.lt (Nat.le_of_eq hb13.symm))
      have g_b13 : n0 ≤ b13 := Nat.le_trans Z0 (Nat.le_of_eq hb13.symm)
      have Q := Q.ext E13
      have Vb := Vb.ext E13
      have Vo := Vo.ext E13
      have O := O.ext E13
      have sz_b13 : h0.size ≤ b13 := Nat.le_trans K0.1 (Nat.le_of_eq hb13.symm)
      have K0 := K0.ext E13
      have Z0 : n0 ≤ h13.size := Nat.le_trans Z0 E13.1
      have V13 : Arv Z h13 b13 k13 .byte (en - st) [] (.int (0 : Int32)) := V13
      have V13 := V13.pad (pad_rep _ _ (en - st).toNatClampNeg)
      refine g_callPriv X13 hx hby hZ (y := (⟨"com/example/ariel/ariel/cbor/CborSequence", "moveHeldTo", "([B)V"⟩ : MethodName)) (argsL := [(.ref b13)]) (rest := []) hown (wd_ hw 229 rfl) (wd_ hw 230 rfl) (wd_ hw 3 rfl) (wd_ hw 231 rfl) (wd_ hw 4 rfl) (wd_ hw 232 rfl) (by decide) (a := s_) Q.1 (rm37 l Z a0 hw [] s_ b13 no_ bu ow od ub nl nc st en sc dp sk mx mi sl kl cl kb k13 zb (en - st) _ _ _ _ h13 n0 Z0 SA_ SB_ SC_ O Q g_s_ hsb Vb V13 g_b13 ne_bu_b13 ne_s__b13 hi0 rfl hz0 rfl hle (Nat.le_refl _) (own_padl _ _ _)) e13 (by rw [hml]; rfl) pd_3 rfl rfl i44_29 (by decide) 0 rfl (by decide) (by decide) (by decide) fun T14 v14 L14 X14 q14 => ?_
      obtain ⟨rfl, K14, Q14, ⟨vd14, V14⟩, N14⟩ := q14
      have N0 := Fr.app N0 N14
      have K0 := K0.trans K14 (fun x hx => by simp at hx; rcases hx with rfl | rfl; exact Or.inl (by simp); exact Or.inr sz_b13)
      have Vb := Vb.keep K14 (ninS (Ne.symm hsb) (ninS ne_bu_b13 nin0))
      have Vo := Vo.keep K14 (ninS (Ne.symm hso) (ninS ne_ow_b13 nin0))
      have O := O.keep K14 (allS g_s_ (allS g_b13 all0))
      have Z0 : n0 ≤ T14.heap.size := Nat.le_trans Z0 K14.1
      show Gd p e below _ T14 (mkF m 32 #[.val (.ref s_), .val (.int (en - st))] [])
      refine g_goto X14 hx hby i44_32 ?_
      refine g_return X14 hx hby hret hlk i44_54 (by decide) (by decide) ?_
      exact ⟨rfl, Or.inl ⟨Or.inr c22_7, b13, _, _, K0, Q14, V14, g_b13, sz_b13⟩, O, N0⟩
theorem rm44_B (l : Launch) (Z : State) (a0 : Array Value) (hw : ∀ d ∈ tables_1, d.before a0 Z = true) (ws : List Jvm.Cond) (s_ : Addr) (no_ : Addr) (bu ow od ub nl nc : Addr) (st en sc dp sk mx mi : Int32) (sl kl cl : Int64) (ko : ClassId) (zo : Int32) (vo : List Value) (h0 : Heap) (n0 : Nat) (Z0 : n0 ≤ h0.size) (SA_ : Sta Z Z.heap "com/example/ariel/ariel/cbor/CborSequence" "NOTHING" "[B" (.ref no_)) (SB_ : Sta Z Z.heap "com/example/ariel/ariel/cbor/CborSequence" "NO_LENGTHS" "[J" (.ref nl)) (SC_ : Sta Z Z.heap "com/example/ariel/ariel/cbor/CborSequence" "NO_CUTS" "[I" (.ref nc)) (O : Old Z n0 h0) (Q : own_seq Z h0 s_ [(.ref ow), (.ref ow), (.int st), (.int en), (.int sc), (.ref od), (.ref ub), (.int dp), (.long sl), (.long kl), (.int sk), (.long cl), (.ref nl), (.int (0 : Int32)), (.ref nc), (.int (0 : Int32)), (.int (0 : Int32)), (.long (0 : Int64)), (.int (0 : Int32)), (.int mx), (.int mi), (.int (0 : Int32))]) (Vo : Arv Z h0 ow ko .byte zo vo (.int (0 : Int32))) (hso : s_ ≠ ow) (g_s_ : n0 ≤ s_) (hi0 : ¬ st < 0) (hz0 : ¬ en - st < 0) (hle : st.toNatClampNeg + (en - st).toNatClampNeg ≤ zo.toNatClampNeg) (hcap : (en - st).toNatClampNeg ≤ 128) :
    Met1 l (⟨"com/example/ariel/ariel/cbor/CborSequence", "detach", "()V"⟩ : MethodName) prog_32_method_8_code 2 none ws ({ frames := 3, cells := 1, slots := 128, locals := 50 } : Room) #[(.ref s_)] Z h0 (RN fun h L => (((zo < (en - st) ∨ (2 : Int32) * (en - st) < zo) ∧ ∃ t kt vt, Keep h0 h [s_] ∧ own_seq Z h s_ [(.ref t), (.ref t), (.int (0 : Int32)), (.int (en - st)), (.int sc), (.ref od), (.ref ub), (.int dp), (.long sl), (.long kl), (.int sk), (.long cl), (.ref nl), (.int (0 : Int32)), (.ref nc), (.int (0 : Int32)), (.int (0 : Int32)), (.long (0 : Int64)), (.int (0 : Int32)), (.int mx), (.int mi), (.int (0 : Int32))] ∧ Arv Z h t kt .byte (en - st) vt (.int (0 : Int32)) ∧ n0 ≤ t ∧ h0.size ≤ t) ∨ (¬ (zo < (en - st) ∨ (2 : Int32) * (en - st) < zo) ∧ h = h0)) ∧ Old Z n0 h ∧ Fr n0 L) := by
  refine met_of (plainFor_of_name pn_com_example_ariel_ariel_cbor_CborSequence) ?_
  intro p e s m below meth c T0 X0 hx hby hml hZ hown hnm hret hlk e0 es
  have N0 := Fr.nil n0
  refine Gd.cast (ef_44_A m s_) ?_
  have K0 : Keep h0 h0 [s_] := Keep.refl _ _
  refine g_aloadN X0 hx hby i44_0 rfl rfl ?_
  refine g_callV0 X0 hx hby hZ (y0 := (⟨"com/example/ariel/ariel/cbor/CborSequence", "pending", "()I"⟩ : MethodName)) (y := (⟨"com/example/ariel/ariel/cbor/CborSequence", "pending", "()I"⟩ : MethodName)) (argsL := []) (rest := []) hown (wd_ hw 262 rfl) (wd_ hw 263 rfl) (notFace_of_selects (args := #[]) (mvT hZ (wd_ hw 265 rfl))) (wd_ hw 265 rfl) (wd_ hw 264 rfl) (wd_ hw 4 rfl) (wd_ hw 266 rfl) (by decide) (a := s_) Q.1 (rm45 l Z a0 hw [] s_ ow ow od ub nl nc st en sc dp sk mx mi sl kl cl h0 n0 Z0 Q) e0 (by rw [hml]; rfl) pd_2 rfl rfl i44_1 (by decide) 0 rfl (by decide) (by decide) (by decide) fun T1 v1 L1 X1 q1 => ?_
  obtain ⟨_, rfl, rfl, e1, N1⟩ := q1
  have N0 := Fr.app N0 N1
  rw [Int32.sub_zero]
  show Gd p e below _ T1 (mkF m 4 #[.val (.ref s_), .unset] [(.int (en - st))])
  refine g_istoreN X1 hx hby i44_4 (l' := #[.val (.ref s_), .val (.int (en - st))]) rfl ?_
  refine g_aloadN X1 hx hby i44_5 rfl rfl ?_
  refine g_getfield X1 hx hby hZ hown (host := "") (Or.inl (wd_ hw 22 rfl)) Via.refl e1 (own_at Q 1 (by decide) (v := (.ref ow)) rfl) i44_6 fun T2 X2 e2 => ?_
  refine g_arraylength X2 hx hby hZ e2 Vo i44_9 ?_
  refine g_iloadN X2 hx hby i44_10 rfl ?_
  refine g_icmp_lt X2 hx hby i44_11 (fun c11_3 => ?_) (fun c11_3 => ?_)
  · refine g_aloadN X2 hx hby i44_25 rfl rfl ?_
    refine g_iloadN X2 hx hby i44_26 rfl ?_
    refine g_newarray X2 hx hby hZ (ty := .byte) rfl (wd_ hw 1 rfl) e2 i44_27 hz0 128 hcap (by decide) (by decide) (by decide) fun T4 h4 b4 k4 X4 e4 E4 hb4 V4 => ?_
    have ne_s__b4 : s_ ≠ b4 := Nat.ne_of_lt (Nat.lt_of_lt_of_le Q.lt (Nat.le_of_eq hb4.symm))
    have ne_ow_b4 : ow ≠ b4 := Nat.ne_of_lt (Nat.lt_of_lt_of_le Vo.lt (Nat.le_of_eq hb4.symm))
    have g_b4 : n0 ≤ b4 := Nat.le_trans Z0 (Nat.le_of_eq hb4.symm)
    have Q := Q.ext E4
    have Vo := Vo.ext E4
    have O := O.ext E4
    have sz_b4 : h0.size ≤ b4 := Nat.le_trans K0.1 (Nat.le_of_eq hb4.symm)
    have K0 := K0.ext E4
    have Z0 : n0 ≤ h4.size := Nat.le_trans Z0 E4.1
    have V4 : Arv Z h4 b4 k4 .byte (en - st) [] (.int (0 : Int32)) := V4
    have V4 := V4.pad (pad_rep _ _ (en - st).toNatClampNeg)
    refine g_callPriv X4 hx hby hZ (y := (⟨"com/example/ariel/ariel/cbor/CborSequence", "moveHeldTo", "([B)V"⟩ : MethodName)) (argsL := [(.ref b4)]) (rest := []) hown (wd_ hw 229 rfl) (wd_ hw 230 rfl) (wd_ hw 3 rfl) (wd_ hw 231 rfl) (wd_ hw 4 rfl) (wd_ hw 232 rfl) (by decide) (a := s_) Q.1 (rm37 l Z a0 hw [] s_ b4 no_ ow ow od ub nl nc st en sc dp sk mx mi sl kl cl ko k4 zo (en - st) _ _ _ _ h4 n0 Z0 SA_ SB_ SC_ O Q g_s_ hso Vo V4 g_b4 ne_ow_b4 ne_s__b4 hi0 rfl hz0 rfl hle (Nat.le_refl _) (own_padl _ _ _)) e4 (by rw [hml]; rfl) pd_3 rfl rfl i44_29 (by decide) 0 rfl (by decide) (by decide) (by decide) fun T5 v5 L5 X5 q5 => ?_
    obtain ⟨rfl, K5, Q5, ⟨vd5, V5⟩, N5⟩ := q5
    have N0 := Fr.app N0 N5
    have K0 := K0.trans K5 (fun x hx => by simp at hx; rcases hx with rfl | rfl; exact Or.inl (by simp); exact Or.inr sz_b4)
    have Vo := Vo.keep K5 (ninS (Ne.symm hso) (ninS ne_ow_b4 nin0))
    have O := O.keep K5 (allS g_s_ (allS g_b4 all0))
    have Z0 : n0 ≤ T5.heap.size := Nat.le_trans Z0 K5.1
    show Gd p e below _ T5 (mkF m 32 #[.val (.ref s_), .val (.int (en - st))] [])
    refine g_goto X5 hx hby i44_32 ?_
    refine g_return X5 hx hby hret hlk i44_54 (by decide) (by decide) ?_
    exact ⟨rfl, Or.inl ⟨Or.inl c11_3, b4, _, _, K0, Q5, V5, g_b4, sz_b4⟩, O, N0⟩
  · refine g_aloadN X2 hx hby i44_14 rfl rfl ?_
    refine g_getfield X2 hx hby hZ hown (host := "") (Or.inl (wd_ hw 22 rfl)) Via.refl e2 (own_at Q 1 (by decide) (v := (.ref ow)) rfl) i44_15 fun T6 X6 e6 => ?_
    refine g_arraylength X6 hx hby hZ e6 Vo i44_18 ?_
    refine g_iconst X6 hx hby i44_19 (z := (2 : Int32)) (by decide) ?_
    refine g_iloadN X6 hx hby i44_20 rfl ?_
    refine g_imul X6 hx hby i44_21 ?_
    refine g_icmp_le X6 hx hby i44_22 (fun c22_7 => ?_) (fun c22_7 => ?_)
    · refine g_aloadN X6 hx hby i44_35 rfl rfl ?_
      refine g_getfield X6 hx hby hZ hown (host := "") (Or.inl (wd_ hw 20 rfl)) Via.refl e6 (own_at Q 0 (by decide) (v := (.ref ow)) rfl) i44_36 fun T8 X8 e8 => ?_
      refine g_aloadN X8 hx hby i44_39 rfl rfl ?_
      refine g_getfield X8 hx hby hZ hown (host := "") (Or.inl (wd_ hw 22 rfl)) Via.refl e8 (own_at Q 1 (by decide) (v := (.ref ow)) rfl) i44_40 fun T9 X9 e9 => ?_
      refine g_acmp_eq X9 hx hby i44_43 rfl rfl (fun c43_10 => ?_) (fun c43_10 => False.elim (c43_10 rfl))
      refine g_return X9 hx hby hret hlk i44_54 (by decide) (by decide) ?_
      exact ⟨rfl, Or.inr ⟨fun q => q.elim c11_3 c22_7, e9⟩, (by rw [e9]; exact O), N0⟩
    · refine g_aloadN X6 hx hby i44_25 rfl rfl ?_
      refine g_iloadN X6 hx hby i44_26 rfl ?_
      refine g_newarray X6 hx hby hZ (ty := .byte) rfl (wd_ hw 1 rfl) e6 i44_27 hz0 128 hcap (by decide) (by decide) (by decide) fun T11 h11 b11 k11 X11 e11 E11 hb11 V11 => ?_
      have ne_s__b11 : s_ ≠ b11 := Nat.ne_of_lt (Nat.lt_of_lt_of_le Q.lt (Nat.le_of_eq hb11.symm))
      have ne_ow_b11 : ow ≠ b11 := Nat.ne_of_lt (Nat.lt_of_lt_of_le Vo.lt (Nat.le_of_eq hb11.symm))
      have g_b11 : n0 ≤ b11 := Nat.le_trans Z0 (Nat.le_of_eq hb11.symm)
      have Q := Q.ext E11
      have Vo := Vo.ext E11
      have O := O.ext E11
      have sz_b11 : h0.size ≤ b11 := Nat.le_trans K0.1 (Nat.le_of_eq hb11.symm)
      have K0 := K0.ext E11
      have Z0 : n0 ≤ h11.size := Nat.le_trans Z0 E11.1
      have V11 : Arv Z h11 b11 k11 .byte (en - st) [] (.int (0 : Int32)) := V11
      have V11 := V11.pad (pad_rep _ _ (en - st).toNatClampNeg)
      refine g_callPriv X11 hx hby hZ (y := (⟨"com/example/ariel/ariel/cbor/CborSequence", "moveHeldTo", "([B)V"⟩ : MethodName)) (argsL := [(.ref b11)]) (rest := []) hown (wd_ hw 229 rfl) (wd_ hw 230 rfl) (wd_ hw 3 rfl) (wd_ hw 231 rfl) (wd_ hw 4 rfl) (wd_ hw 232 rfl) (by decide) (a := s_) Q.1 (rm37 l Z a0 hw [] s_ b11 no_ ow ow od ub nl nc st en sc dp sk mx mi sl kl cl ko k11 zo (en - st) _ _ _ _ h11 n0 Z0 SA_ SB_ SC_ O Q g_s_ hso Vo V11 g_b11 ne_ow_b11 ne_s__b11 hi0 rfl hz0 rfl hle (Nat.le_refl _) (own_padl _ _ _)) e11 (by rw [hml]; rfl) pd_3 rfl rfl i44_29 (by decide) 0 rfl (by decide) (by decide) (by decide) fun T12 v12 L12 X12 q12 => ?_
      obtain ⟨rfl, K12, Q12, ⟨vd12, V12⟩, N12⟩ := q12
      have N0 := Fr.app N0 N12
      have K0 := K0.trans K12 (fun x hx => by simp at hx; rcases hx with rfl | rfl; exact Or.inl (by simp); exact Or.inr sz_b11)
      have Vo := Vo.keep K12 (ninS (Ne.symm hso) (ninS ne_ow_b11 nin0))
      have O := O.keep K12 (allS g_s_ (allS g_b11 all0))
      have Z0 : n0 ≤ T12.heap.size := Nat.le_trans Z0 K12.1
      show Gd p e below _ T12 (mkF m 32 #[.val (.ref s_), .val (.int (en - st))] [])
      refine g_goto X12 hx hby i44_32 ?_
      refine g_return X12 hx hby hret hlk i44_54 (by decide) (by decide) ?_
      exact ⟨rfl, Or.inl ⟨Or.inr c22_7, b11, _, _, K0, Q12, V12, g_b11, sz_b11⟩, O, N0⟩
theorem i6_0 : Ins1 prog_32_method_7_code 0 (.aload_n 0) 1 1 := ⟨by decide +kernel, rfl⟩
theorem i6_1 : Ins1 prog_32_method_7_code 1 (.getfield 80) 3 4 := ⟨by decide +kernel, rfl⟩
theorem i6_4 : Ins1 prog_32_method_7_code 4 (.aload_n 0) 1 5 := ⟨by decide +kernel, rfl⟩
theorem i6_5 : Ins1 prog_32_method_7_code 5 (.getfield 83) 3 8 := ⟨by decide +kernel, rfl⟩
theorem i6_8 : Ins1 prog_32_method_7_code 8 (.isub) 1 9 := ⟨by decide +kernel, rfl⟩
theorem i6_9 : Ins1 prog_32_method_7_code 9 (.istore 4) 2 11 := ⟨by decide +kernel, rfl⟩
theorem i6_11 : Ins1 prog_32_method_7_code 11 (.iload 4) 2 13 := ⟨by decide +kernel, rfl⟩
theorem i6_13 : InsB prog_32_method_7_code 13 (.ifCond .ne 21) 21 16 34 := ⟨by decide +kernel, rfl, by decide, by decide⟩
theorem i6_16 : Ins1 prog_32_method_7_code 16 (.aload_n 0) 1 17 := ⟨by decide +kernel, rfl⟩
theorem i6_17 : Ins1 prog_32_method_7_code 17 (.aload_n 1) 1 18 := ⟨by decide +kernel, rfl⟩
theorem i6_18 : Ins1 prog_32_method_7_code 18 (.putfield 25) 3 21 := ⟨by decide +kernel, rfl⟩
theorem i6_21 : Ins1 prog_32_method_7_code 21 (.aload_n 0) 1 22 := ⟨by decide +kernel, rfl⟩
theorem i6_22 : Ins1 prog_32_method_7_code 22 (.iload_n 2) 1 23 := ⟨by decide +kernel, rfl⟩
theorem i6_23 : Ins1 prog_32_method_7_code 23 (.putfield 83) 3 26 := ⟨by decide +kernel, rfl⟩
theorem i6_26 : Ins1 prog_32_method_7_code 26 (.aload_n 0) 1 27 := ⟨by decide +kernel, rfl⟩
theorem i6_27 : Ins1 prog_32_method_7_code 27 (.iload_n 2) 1 28 := ⟨by decide +kernel, rfl⟩
theorem i6_28 : Ins1 prog_32_method_7_code 28 (.iload_n 3) 1 29 := ⟨by decide +kernel, rfl⟩
theorem i6_29 : Ins1 prog_32_method_7_code 29 (.iadd) 1 30 := ⟨by decide +kernel, rfl⟩
theorem i6_30 : Ins1 prog_32_method_7_code 30 (.putfield 80) 3 33 := ⟨by decide +kernel, rfl⟩
theorem i6_33 : Ins1 prog_32_method_7_code 33 (.return_) 1 34 := ⟨by decide +kernel, rfl⟩
theorem i6_34 : Ins1 prog_32_method_7_code 34 (.aload_n 0) 1 35 := ⟨by decide +kernel, rfl⟩
theorem i6_35 : Ins1 prog_32_method_7_code 35 (.getfield 25) 3 38 := ⟨by decide +kernel, rfl⟩
theorem i6_38 : Ins1 prog_32_method_7_code 38 (.aload_n 0) 1 39 := ⟨by decide +kernel, rfl⟩
theorem i6_39 : Ins1 prog_32_method_7_code 39 (.getfield 28) 3 42 := ⟨by decide +kernel, rfl⟩
theorem i6_42 : InsB prog_32_method_7_code 42 (.if_acmp .ne 17) 17 45 59 := ⟨by decide +kernel, rfl, by decide, by decide⟩
theorem i6_45 : Ins1 prog_32_method_7_code 45 (.aload_n 0) 1 46 := ⟨by decide +kernel, rfl⟩
theorem i6_46 : Ins1 prog_32_method_7_code 46 (.getfield 28) 3 49 := ⟨by decide +kernel, rfl⟩
theorem i6_49 : Ins1 prog_32_method_7_code 49 (.arraylength) 1 50 := ⟨by decide +kernel, rfl⟩
theorem i6_50 : Ins1 prog_32_method_7_code 50 (.aload_n 0) 1 51 := ⟨by decide +kernel, rfl⟩
theorem i6_51 : Ins1 prog_32_method_7_code 51 (.getfield 80) 3 54 := ⟨by decide +kernel, rfl⟩
theorem i6_54 : Ins1 prog_32_method_7_code 54 (.isub) 1 55 := ⟨by decide +kernel, rfl⟩
theorem i6_55 : Ins1 prog_32_method_7_code 55 (.iload_n 3) 1 56 := ⟨by decide +kernel, rfl⟩
theorem i6_56 : InsB prog_32_method_7_code 56 (.if_icmp .ge 49) 49 59 105 := ⟨by decide +kernel, rfl, by decide, by decide⟩
theorem i6_59 : Ins1 prog_32_method_7_code 59 (.iload 4) 2 61 := ⟨by decide +kernel, rfl⟩
theorem i6_61 : Ins1 prog_32_method_7_code 61 (.aload_n 0) 1 62 := ⟨by decide +kernel, rfl⟩
theorem i6_62 : Ins1 prog_32_method_7_code 62 (.getfield 86) 3 65 := ⟨by decide +kernel, rfl⟩
theorem i6_65 : Ins1 prog_32_method_7_code 65 (.isub) 1 66 := ⟨by decide +kernel, rfl⟩
theorem i6_66 : Ins1 prog_32_method_7_code 66 (.iload_n 3) 1 67 := ⟨by decide +kernel, rfl⟩
theorem i6_67 : Ins1 prog_32_method_7_code 67 (.iadd) 1 68 := ⟨by decide +kernel, rfl⟩
theorem i6_68 : Ins1 prog_32_method_7_code 68 (.istore 5) 2 70 := ⟨by decide +kernel, rfl⟩
theorem i6_70 : Ins1 prog_32_method_7_code 70 (.aload_n 0) 1 71 := ⟨by decide +kernel, rfl⟩
theorem i6_71 : Ins1 prog_32_method_7_code 71 (.iload 5) 2 73 := ⟨by decide +kernel, rfl⟩
theorem i6_73 : Ins1 prog_32_method_7_code 73 (.aload_n 0) 1 74 := ⟨by decide +kernel, rfl⟩
theorem i6_74 : Ins1 prog_32_method_7_code 74 (.getfield 28) 3 77 := ⟨by decide +kernel, rfl⟩
theorem i6_77 : Ins1 prog_32_method_7_code 77 (.arraylength) 1 78 := ⟨by decide +kernel, rfl⟩
theorem i6_78 : InsB prog_32_method_7_code 78 (.if_icmp .gt 10) 10 81 88 := ⟨by decide +kernel, rfl, by decide, by decide⟩
theorem i6_81 : Ins1 prog_32_method_7_code 81 (.aload_n 0) 1 82 := ⟨by decide +kernel, rfl⟩
theorem i6_82 : Ins1 prog_32_method_7_code 82 (.getfield 28) 3 85 := ⟨by decide +kernel, rfl⟩
theorem i6_85 : InsB prog_32_method_7_code 85 (.goto 17) 17 88 102 := ⟨by decide +kernel, rfl, by decide, by decide⟩
theorem i6_88 : Ins1 prog_32_method_7_code 88 (.iload 5) 2 90 := ⟨by decide +kernel, rfl⟩
theorem i6_90 : Ins1 prog_32_method_7_code 90 (.iconst 2) 1 91 := ⟨by decide +kernel, rfl⟩
theorem i6_91 : Ins1 prog_32_method_7_code 91 (.aload_n 0) 1 92 := ⟨by decide +kernel, rfl⟩
theorem i6_92 : Ins1 prog_32_method_7_code 92 (.getfield 28) 3 95 := ⟨by decide +kernel, rfl⟩
theorem i6_95 : Ins1 prog_32_method_7_code 95 (.arraylength) 1 96 := ⟨by decide +kernel, rfl⟩
theorem i6_96 : Ins1 prog_32_method_7_code 96 (.imul) 1 97 := ⟨by decide +kernel, rfl⟩
theorem i6_97 : Ins1 prog_32_method_7_code 97 (.invokestatic 89) 3 100 := ⟨by decide +kernel, rfl⟩
theorem i6_100 : Ins1 prog_32_method_7_code 100 (.newarray .byte) 2 102 := ⟨by decide +kernel, rfl⟩
theorem i6_102 : Ins1 prog_32_method_7_code 102 (.invokevirtual 95) 3 105 := ⟨by decide +kernel, rfl⟩
theorem i6_105 : Ins1 prog_32_method_7_code 105 (.aload_n 1) 1 106 := ⟨by decide +kernel, rfl⟩
theorem i6_106 : Ins1 prog_32_method_7_code 106 (.iload_n 2) 1 107 := ⟨by decide +kernel, rfl⟩
theorem i6_107 : Ins1 prog_32_method_7_code 107 (.aload_n 0) 1 108 := ⟨by decide +kernel, rfl⟩
theorem i6_108 : Ins1 prog_32_method_7_code 108 (.getfield 25) 3 111 := ⟨by decide +kernel, rfl⟩
theorem i6_111 : Ins1 prog_32_method_7_code 111 (.aload_n 0) 1 112 := ⟨by decide +kernel, rfl⟩
theorem i6_112 : Ins1 prog_32_method_7_code 112 (.getfield 80) 3 115 := ⟨by decide +kernel, rfl⟩
theorem i6_115 : Ins1 prog_32_method_7_code 115 (.iload_n 3) 1 116 := ⟨by decide +kernel, rfl⟩
theorem i6_116 : Ins1 prog_32_method_7_code 116 (.invokestatic 99) 3 119 := ⟨by decide +kernel, rfl⟩
theorem i6_119 : Ins1 prog_32_method_7_code 119 (.aload_n 0) 1 120 := ⟨by decide +kernel, rfl⟩
theorem i6_120 : Ins1 prog_32_method_7_code 120 (.dup) 1 121 := ⟨by decide +kernel, rfl⟩
theorem i6_121 : Ins1 prog_32_method_7_code 121 (.getfield 80) 3 124 := ⟨by decide +kernel, rfl⟩
theorem i6_124 : Ins1 prog_32_method_7_code 124 (.iload_n 3) 1 125 := ⟨by decide +kernel, rfl⟩
theorem i6_125 : Ins1 prog_32_method_7_code 125 (.iadd) 1 126 := ⟨by decide +kernel, rfl⟩
theorem i6_126 : Ins1 prog_32_method_7_code 126 (.putfield 80) 3 129 := ⟨by decide +kernel, rfl⟩
theorem i6_129 : Ins1 prog_32_method_7_code 129 (.return_) 1 130 := ⟨by decide +kernel, rfl⟩
theorem ef_6_E (m : MethodId) (s_ : Addr) (pc_ : Addr) (p2 : Int32) (p3 : Int32) : entryFrame m #[(.ref s_), (.ref pc_), (.int p2), (.int p3)] 6 = mkF m 0 #[.val (.ref s_), .val (.ref pc_), .val (.int p2), .val (.int p3), .unset, .unset] [] := by first | (simp [entryFrame, mkF, argsToLocals, Value.category]; done) | rfl
theorem rm6_E (l : Launch) (Z : State) (a0 : Array Value) (hw : ∀ d ∈ tables_1, d.before a0 Z = true) (ws : List Jvm.Cond) (s_ : Addr) (pc_ : Addr) (p2 : Int32) (p3 : Int32) (no_ : Addr) (bu ow od ub nl nc : Addr) (st en sc dp sk mx mi : Int32) (sl kl cl : Int64)  (h0 : Heap) (n0 : Nat) (Z0 : n0 ≤ h0.size) (SA_ : Sta Z Z.heap "com/example/ariel/ariel/cbor/CborSequence" "NOTHING" "[B" (.ref no_)) (SB_ : Sta Z Z.heap "com/example/ariel/ariel/cbor/CborSequence" "NO_LENGTHS" "[J" (.ref nl)) (SC_ : Sta Z Z.heap "com/example/ariel/ariel/cbor/CborSequence" "NO_CUTS" "[I" (.ref nc)) (O : Old Z n0 h0) (Q : own_seq Z h0 s_ [(.ref bu), (.ref ow), (.int st), (.int en), (.int sc), (.ref od), (.ref ub), (.int dp), (.long sl), (.long kl), (.int sk), (.long cl), (.ref nl), (.int (0 : Int32)), (.ref nc), (.int (0 : Int32)), (.int (0 : Int32)), (.long (0 : Int64)), (.int (0 : Int32)), (.int mx), (.int mi), (.int (0 : Int32))]) (g_s_ : n0 ≤ s_) (hem : en - st = 0) :
    Met1 l (⟨"com/example/ariel/ariel/cbor/CborSequence", "append", "([BII)V"⟩ : MethodName) prog_32_method_7_code 6 none ws ({ frames := 0, cells := 0, slots := 0, locals := 0 } : Room) #[(.ref s_), (.ref pc_), (.int p2), (.int p3)] Z h0 (RN fun h L => Keep h0 h [s_] ∧ own_seq Z h s_ [(.ref pc_), (.ref ow), (.int p2), (.int (p2 + p3)), (.int sc), (.ref od), (.ref ub), (.int dp), (.long sl), (.long kl), (.int sk), (.long cl), (.ref nl), (.int (0 : Int32)), (.ref nc), (.int (0 : Int32)), (.int (0 : Int32)), (.long (0 : Int64)), (.int (0 : Int32)), (.int mx), (.int mi), (.int (0 : Int32))] ∧ Fr n0 L) := by
  refine met_of (plainFor_of_name pn_com_example_ariel_ariel_cbor_CborSequence) ?_
  intro p e s m below meth c T0 X0 hx hby hml hZ hown hnm hret hlk e0 es
  have N0 := Fr.nil n0
  refine Gd.cast (ef_6_E m s_ pc_ p2 p3) ?_
  have K0 : Keep h0 h0 [s_] := Keep.refl _ _
  refine g_aloadN X0 hx hby i6_0 rfl rfl ?_
  refine g_getfield X0 hx hby hZ hown (host := "") (Or.inl (wd_ hw 53 rfl)) Via.refl e0 (own_at Q 3 (by decide) (v := (.int en)) rfl) i6_1 fun T1 X1 e1 => ?_
  refine g_aloadN X1 hx hby i6_4 rfl rfl ?_
  refine g_getfield X1 hx hby hZ hown (host := "") (Or.inl (wd_ hw 55 rfl)) Via.refl e1 (own_at Q 2 (by decide) (v := (.int st)) rfl) i6_5 fun T2 X2 e2 => ?_
  refine g_isub X2 hx hby i6_8 ?_
  refine g_istore X2 hx hby i6_9 (l' := #[.val (.ref s_), .val (.ref pc_), .val (.int p2), .val (.int p3), .val (.int (en - st)), .unset]) rfl ?_
  refine g_iload X2 hx hby i6_11 rfl ?_
  refine g_if_ne X2 hx hby i6_13 (fun c13_3 => False.elim (c13_3 hem)) fun c13_3 => ?_
  refine g_aloadN X2 hx hby i6_16 rfl rfl ?_
  refine g_aloadN X2 hx hby i6_17 rfl rfl ?_
  refine g_putfield X2 hx hby hZ hown (host := "") (Or.inl (wd_ hw 20 rfl)) Via.refl e2 (own_at Q 0 (by decide) (v := (.ref bu)) rfl) Q.1 (Or.inl (wd_ hw 21 rfl)) (wd_ hw 3 rfl) (ty := (.array .byte)) (by decide) rfl rfl i6_18 fun T4 h4 X4 e4 W4 => ?_
  have Q : own_seq Z h4 s_ [(.ref pc_), (.ref ow), (.int st), (.int en), (.int sc), (.ref od), (.ref ub), (.int dp), (.long sl), (.long kl), (.int sk), (.long cl), (.ref nl), (.int (0 : Int32)), (.ref nc), (.int (0 : Int32)), (.int (0 : Int32)), (.long (0 : Int64)), (.int (0 : Int32)), (.int mx), (.int mi), (.int (0 : Int32))] := Q.put hw (i := 0) (by decide) W4
  have O := O.wr W4 g_s_
  have Z0 : n0 ≤ h4.size := Nat.le_trans Z0 (Nat.le_of_eq W4.size.symm)
  have N0 := Fr.snoc X4 N0 g_s_
  have K0 := K0.wr W4 (Or.inl (by simp))
  refine g_aloadN X4 hx hby i6_21 rfl rfl ?_
  refine g_iloadN X4 hx hby i6_22 rfl ?_
  refine g_putfield X4 hx hby hZ hown (host := "") (Or.inl (wd_ hw 55 rfl)) Via.refl e4 (own_at Q 2 (by decide) (v := (.int st)) rfl) Q.1 (Or.inl (wd_ hw 56 rfl)) (wd_ hw 3 rfl) (ty := .int) (by decide) rfl rfl i6_23 fun T5 h5 X5 e5 W5 => ?_
  have Q : own_seq Z h5 s_ [(.ref pc_), (.ref ow), (.int p2), (.int en), (.int sc), (.ref od), (.ref ub), (.int dp), (.long sl), (.long kl), (.int sk), (.long cl), (.ref nl), (.int (0 : Int32)), (.ref nc), (.int (0 : Int32)), (.int (0 : Int32)), (.long (0 : Int64)), (.int (0 : Int32)), (.int mx), (.int mi), (.int (0 : Int32))] := Q.put hw (i := 2) (by decide) W5
  have O := O.wr W5 g_s_
  have Z0 : n0 ≤ h5.size := Nat.le_trans Z0 (Nat.le_of_eq W5.size.symm)
  have N0 := Fr.snoc X5 N0 g_s_
  have K0 := K0.wr W5 (Or.inl (by simp))
  refine g_aloadN X5 hx hby i6_26 rfl rfl ?_
  refine g_iloadN X5 hx hby i6_27 rfl ?_
  refine g_iloadN X5 hx hby i6_28 rfl ?_
  refine g_iadd X5 hx hby i6_29 ?_
  refine g_putfield X5 hx hby hZ hown (host := "") (Or.inl (wd_ hw 53 rfl)) Via.refl e5 (own_at Q 3 (by decide) (v := (.int en)) rfl) Q.1 (Or.inl (wd_ hw 54 rfl)) (wd_ hw 3 rfl) (ty := .int) (by decide) rfl rfl i6_30 fun T6 h6 X6 e6 W6 => ?_
  have Q : own_seq Z h6 s_ [(.ref pc_), (.ref ow), (.int p2), (.int (p2 + p3)), (.int sc), (.ref od), (.ref ub), (.int dp), (.long sl), (.long kl), (.int sk), (.long cl), (.ref nl), (.int (0 : Int32)), (.ref nc), (.int (0 : Int32)), (.int (0 : Int32)), (.long (0 : Int64)), (.int (0 : Int32)), (.int mx), (.int mi), (.int (0 : Int32))] := Q.put hw (i := 3) (by decide) W6
  have O := O.wr W6 g_s_
  have Z0 : n0 ≤ h6.size := Nat.le_trans Z0 (Nat.le_of_eq W6.size.symm)
  have N0 := Fr.snoc X6 N0 g_s_
  have K0 := K0.wr W6 (Or.inl (by simp))
  refine g_return X6 hx hby hret hlk i6_33 (by decide) (by decide) ?_
  rw [e6]
  exact ⟨rfl, K0, Q, N0⟩
theorem i36_0 : Ins1 jdk_29_method_66_code 0 (.lload_n 0) 1 1 := ⟨by decide +kernel, rfl⟩
theorem i36_1 : Ins1 jdk_29_method_66_code 1 (.lload_n 2) 1 2 := ⟨by decide +kernel, rfl⟩
theorem i36_2 : Ins1 jdk_29_method_66_code 2 (.lcmp) 1 3 := ⟨by decide +kernel, rfl⟩
theorem i36_3 : InsB jdk_29_method_66_code 3 (.ifCond .lt 7) 7 6 10 := ⟨by decide +kernel, rfl, by decide, by decide⟩
theorem i36_6 : Ins1 jdk_29_method_66_code 6 (.lload_n 0) 1 7 := ⟨by decide +kernel, rfl⟩
theorem i36_7 : InsB jdk_29_method_66_code 7 (.goto 4) 4 10 11 := ⟨by decide +kernel, rfl, by decide, by decide⟩
theorem i36_10 : Ins1 jdk_29_method_66_code 10 (.lload_n 2) 1 11 := ⟨by decide +kernel, rfl⟩
theorem i36_11 : Ins1 jdk_29_method_66_code 11 (.lreturn) 1 12 := ⟨by decide +kernel, rfl⟩
theorem ef_36 (m : MethodId) (q0 : Int64) (q1 : Int64) : entryFrame m #[(.long q0), (.long q1)] 4 = mkF m 0 #[.val (.long q0), .second, .val (.long q1), .second] [] := by first | (simp [entryFrame, mkF, argsToLocals, Value.category]; done) | rfl
theorem rm36 (l : Launch) (Z : State) (a0 : Array Value) (hw : ∀ d ∈ tables_1, d.before a0 Z = true) (ws : List Jvm.Cond) (q0 : Int64) (q1 : Int64)  (h0 : Heap) (n0 : Nat) (Z0 : n0 ≤ h0.size)  :
    Met1 l (⟨"java/lang/Math", "max", "(JJ)J"⟩ : MethodName) jdk_29_method_66_code 4 (some .long) ws ({ frames := 0, cells := 0, slots := 0, locals := 0 } : Room) #[(.long q0), (.long q1)] Z h0 (RV fun vv h L => ∃ r, vv = .long r ∧ ((q0 < q1 ∧ r = q1) ∨ (¬ q0 < q1 ∧ r = q0)) ∧ h = h0 ∧ Fr n0 L) := by
  refine met_of (Jvm.Free.JP.mathPlain rfl (by decide +kernel)) ?_
  intro p e s m below meth c T0 X0 hx hby hml hZ hown hnm hret hlk e0 es
  have N0 := Fr.nil n0
  refine Gd.cast (ef_36 m q0 q1) ?_
  refine g_lloadN X0 hx hby i36_0 rfl ?_
  refine g_lloadN X0 hx hby i36_1 rfl ?_
  refine g_lcmp_lt X0 hx hby i36_2 i36_3 (fun c2_1 => ?_) (fun c2_1 => ?_)
  · refine g_lloadN X0 hx hby i36_10 rfl ?_
    refine g_lreturn X0 hx hby hret hlk i36_11 (by decide) (by decide) ?_
    exact ⟨_, rfl, _, rfl, Or.inl ⟨c2_1, rfl⟩, e0, N0⟩
  · refine g_lloadN X0 hx hby i36_6 rfl ?_
    refine g_goto X0 hx hby i36_7 ?_
    refine g_lreturn X0 hx hby hret hlk i36_11 (by decide) (by decide) ?_
    exact ⟨_, rfl, _, rfl, Or.inr ⟨c2_1, rfl⟩, e0, N0⟩
theorem i5_0 : Ins1 prog_30_method_23_code 0 (.iload_n 0) 1 1 := ⟨by decide +kernel, rfl⟩
theorem i5_1 : Ins1 prog_30_method_23_code 1 (.iconst 1) 1 2 := ⟨by decide +kernel, rfl⟩
theorem i5_2 : InsB prog_30_method_23_code 2 (.if_icmp .ge 17) 17 5 19 := ⟨by decide +kernel, rfl, by decide, by decide⟩
theorem i5_19 : Ins1 prog_30_method_23_code 19 (.return_) 1 20 := ⟨by decide +kernel, rfl⟩
theorem ef_5 (m : MethodId) (p0 : Int32) : entryFrame m #[(.int p0)] 1 = mkF m 0 #[.val (.int p0)] [] := by first | (simp [entryFrame, mkF, argsToLocals, Value.category]; done) | rfl
theorem rm5 (l : Launch) (Z : State) (a0 : Array Value) (hw : ∀ d ∈ tables_1, d.before a0 Z = true) (ws : List Jvm.Cond) (p0 : Int32)  (h0 : Heap) (n0 : Nat) (Z0 : n0 ≤ h0.size) (hp : ¬ p0 < (1 : Int32)) :
    Met1 l (⟨"com/example/ariel/ariel/cbor/CborReader", "checkMaxItems", "(I)V"⟩ : MethodName) prog_30_method_23_code 1 none ws ({ frames := 0, cells := 0, slots := 0, locals := 0 } : Room) #[(.int p0)] Z h0 (RN fun h L => h = h0 ∧ Fr n0 L) := by
  refine met_of (plainFor_of_name pn_com_example_ariel_ariel_cbor_CborReader) ?_
  intro p e s m below meth c T0 X0 hx hby hml hZ hown hnm hret hlk e0 es
  have N0 := Fr.nil n0
  refine Gd.cast (ef_5 m p0) ?_
  refine g_iloadN X0 hx hby i5_0 rfl ?_
  refine g_iconst X0 hx hby i5_1 (z := (1 : Int32)) (by decide) ?_
  refine g_icmp_ge X0 hx hby i5_2 (fun c2_1 => ?_) (fun c2_1 => False.elim (hp c2_1))
  refine g_return X0 hx hby hret hlk i5_19 (by decide) (by decide) ?_
  exact ⟨rfl, e0, N0⟩
theorem i15_0 : Ins1 prog_32_method_25_code 0 (.aload_n 0) 1 1 := ⟨by decide +kernel, rfl⟩
theorem i15_1 : Ins1 prog_32_method_25_code 1 (.getfield 203) 3 4 := ⟨by decide +kernel, rfl⟩
theorem i15_4 : InsB prog_32_method_25_code 4 (.ifCond .le 54) 54 7 58 := ⟨by decide +kernel, rfl, by decide, by decide⟩
theorem i15_7 : Ins1 prog_32_method_25_code 7 (.aload_n 0) 1 8 := ⟨by decide +kernel, rfl⟩
theorem i15_8 : Ins1 prog_32_method_25_code 8 (.getfield 35) 3 11 := ⟨by decide +kernel, rfl⟩
theorem i15_11 : Ins1 prog_32_method_25_code 11 (.aload_n 0) 1 12 := ⟨by decide +kernel, rfl⟩
theorem i15_12 : Ins1 prog_32_method_25_code 12 (.getfield 203) 3 15 := ⟨by decide +kernel, rfl⟩
theorem i15_15 : Ins1 prog_32_method_25_code 15 (.iconst 1) 1 16 := ⟨by decide +kernel, rfl⟩
theorem i15_16 : Ins1 prog_32_method_25_code 16 (.isub) 1 17 := ⟨by decide +kernel, rfl⟩
theorem i15_17 : Ins1 prog_32_method_25_code 17 (.iaload) 1 18 := ⟨by decide +kernel, rfl⟩
theorem i15_18 : Ins1 prog_32_method_25_code 18 (.iconst (-1)) 1 19 := ⟨by decide +kernel, rfl⟩
theorem i15_19 : InsB prog_32_method_25_code 19 (.if_icmp .ne 24) 24 22 43 := ⟨by decide +kernel, rfl, by decide, by decide⟩
theorem i15_43 : Ins1 prog_32_method_25_code 43 (.iconst 0) 1 44 := ⟨by decide +kernel, rfl⟩
theorem i15_44 : Ins1 prog_32_method_25_code 44 (.ireturn) 1 45 := ⟨by decide +kernel, rfl⟩
theorem i15_58 : Ins1 prog_32_method_25_code 58 (.iconst 1) 1 59 := ⟨by decide +kernel, rfl⟩
theorem i15_59 : Ins1 prog_32_method_25_code 59 (.ireturn) 1 60 := ⟨by decide +kernel, rfl⟩
theorem ef_15_0 (m : MethodId) (s_ : Addr) : entryFrame m #[(.ref s_)] 1 = mkF m 0 #[.val (.ref s_)] [] := by first | (simp [entryFrame, mkF, argsToLocals, Value.category]; done) | rfl
theorem rm15_0 (l : Launch) (Z : State) (a0 : Array Value) (hw : ∀ d ∈ tables_1, d.before a0 Z = true) (ws : List Jvm.Cond) (s_ : Addr) (bu ow od ub nl nc : Addr) (st en sc dp sk mx mi : Int32) (sl kl cl : Int64) (h0 : Heap) (n0 : Nat) (Z0 : n0 ≤ h0.size) (Q : own_seq Z h0 s_ [(.ref bu), (.ref ow), (.int st), (.int en), (.int sc), (.ref od), (.ref ub), (.int dp), (.long sl), (.long kl), (.int sk), (.long cl), (.ref nl), (.int (0 : Int32)), (.ref nc), (.int (0 : Int32)), (.int (0 : Int32)), (.long (0 : Int64)), (.int (0 : Int32)), (.int mx), (.int mi), (.int (0 : Int32))]) (hd0 : ¬ (0 : Int32) < dp) :
    Met1 l (⟨"com/example/ariel/ariel/cbor/CborSequence", "itemDone", "()Z"⟩ : MethodName) prog_32_method_25_code 1 (some .boolean) ws ({ frames := 0, cells := 0, slots := 0, locals := 0 } : Room) #[(.ref s_)] Z h0 (RV fun vv h L => vv = .int 1 ∧ h = h0 ∧ Fr n0 L) := by
  refine met_of (plainFor_of_name pn_com_example_ariel_ariel_cbor_CborSequence) ?_
  intro p e s m below meth c T0 X0 hx hby hml hZ hown hnm hret hlk e0 es
  have N0 := Fr.nil n0
  refine Gd.cast (ef_15_0 m s_) ?_
  refine g_aloadN X0 hx hby i15_0 rfl rfl ?_
  refine g_getfield X0 hx hby hZ hown (host := "") (Or.inl (wd_ hw 89 rfl)) Via.refl e0 (own_at Q 7 (by decide) (v := (.int dp)) rfl) i15_1 fun T1 X1 e1 => ?_
  refine g_if_le X1 hx hby i15_4 (fun c4_2 => ?_) (fun c4_2 => False.elim (hd0 c4_2))
  refine g_iconst X1 hx hby i15_58 (z := (1 : Int32)) (by decide) ?_
  refine g_ireturnN X1 hx hby (ty := .boolean) hret (by simp) hlk i15_59 (by decide) (by decide) ?_
  exact ⟨_, rfl, rfl, e1, N0⟩
theorem rm15_p (l : Launch) (Z : State) (a0 : Array Value) (hw : ∀ d ∈ tables_1, d.before a0 Z = true) (ws : List Jvm.Cond) (s_ : Addr) (bu ow od ub nl nc : Addr) (st en sc dp sk mx mi : Int32) (sl kl cl : Int64) (ku : ClassId) (zu : Int32) (vu : List Value) (i : Nat) (h0 : Heap) (n0 : Nat) (Z0 : n0 ≤ h0.size) (Q : own_seq Z h0 s_ [(.ref bu), (.ref ow), (.int st), (.int en), (.int sc), (.ref od), (.ref ub), (.int dp), (.long sl), (.long kl), (.int sk), (.long cl), (.ref nl), (.int (0 : Int32)), (.ref nc), (.int (0 : Int32)), (.int (0 : Int32)), (.long (0 : Int64)), (.int (0 : Int32)), (.int mx), (.int mi), (.int (0 : Int32))]) (Vu : Arv Z h0 ub ku .int zu vu (.int (0 : Int32))) (hd0 : (0 : Int32) < dp) (hj0 : ¬ dp - (1 : Int32) < 0) (hj1 : dp - (1 : Int32) < zu) (hji : (dp - (1 : Int32)).toNatClampNeg = i) (hv : vu.getD i (.int (0 : Int32)) = .int (4 : Int32)) :
    Met1 l (⟨"com/example/ariel/ariel/cbor/CborSequence", "itemDone", "()Z"⟩ : MethodName) prog_32_method_25_code 1 (some .boolean) ws ({ frames := 0, cells := 0, slots := 0, locals := 0 } : Room) #[(.ref s_)] Z h0 (RV fun vv h L => vv = .int 0 ∧ h = h0 ∧ Fr n0 L) := by
  refine met_of (plainFor_of_name pn_com_example_ariel_ariel_cbor_CborSequence) ?_
  intro p e s m below meth c T0 X0 hx hby hml hZ hown hnm hret hlk e0 es
  have N0 := Fr.nil n0
  refine Gd.cast (ef_15_0 m s_) ?_
  refine g_aloadN X0 hx hby i15_0 rfl rfl ?_
  refine g_getfield X0 hx hby hZ hown (host := "") (Or.inl (wd_ hw 89 rfl)) Via.refl e0 (own_at Q 7 (by decide) (v := (.int dp)) rfl) i15_1 fun T1 X1 e1 => ?_
  refine g_if_le X1 hx hby i15_4 (fun c4_2 => False.elim (c4_2 hd0)) fun c4_2 => ?_
  refine g_aloadN X1 hx hby i15_7 rfl rfl ?_
  refine g_getfield X1 hx hby hZ hown (host := "") (Or.inl (wd_ hw 28 rfl)) Via.refl e1 (own_at Q 6 (by decide) (v := (.ref ub)) rfl) i15_8 fun T3 X3 e3 => ?_
  refine g_aloadN X3 hx hby i15_11 rfl rfl ?_
  refine g_getfield X3 hx hby hZ hown (host := "") (Or.inl (wd_ hw 89 rfl)) Via.refl e3 (own_at Q 7 (by decide) (v := (.int dp)) rfl) i15_12 fun T4 X4 e4 => ?_
  refine g_iconst X4 hx hby i15_15 (z := (1 : Int32)) (by decide) ?_
  refine g_isub X4 hx hby i15_16 ?_
  refine g_iaload X4 hx hby hZ e4 Vu (i := i) (v := .int (4 : Int32)) hj0 hj1 hji hv i15_17 ?_
  refine g_iconst X4 hx hby i15_18 (z := (-1 : Int32)) (by decide) ?_
  refine g_icmp_ne X4 hx hby i15_19 (fun c19_5 => ?_) (fun c19_5 => False.elim (absurd c19_5 (by decide)))
  refine g_iconst X4 hx hby i15_43 (z := (0 : Int32)) (by decide) ?_
  refine g_ireturnN X4 hx hby (ty := .boolean) hret (by simp) hlk i15_44 (by decide) (by decide) ?_
  exact ⟨_, rfl, rfl, e4, N0⟩
theorem pd_4 : parseMethodDescriptor "(II)I" = some ⟨[.int, .int], some .int⟩ := by decide +kernel
theorem rm6_A (l : Launch) (Z : State) (a0 : Array Value) (hw : ∀ d ∈ tables_1, d.before a0 Z = true) (ws : List Jvm.Cond) (s_ : Addr) (pc_ : Addr) (p2 : Int32) (p3 : Int32) (no_ : Addr) (bu ow od ub nl nc : Addr) (sc dp sk mx mi : Int32) (sl kl cl : Int64) (kb ko kp : ClassId) (zb zp : Int32) (vb vo vp : List Value) (A_ P_ M_ O_ : Nat) (h0 : Heap) (n0 : Nat) (Z0 : n0 ≤ h0.size) (SA_ : Sta Z Z.heap "com/example/ariel/ariel/cbor/CborSequence" "NOTHING" "[B" (.ref no_)) (SB_ : Sta Z Z.heap "com/example/ariel/ariel/cbor/CborSequence" "NO_LENGTHS" "[J" (.ref nl)) (SC_ : Sta Z Z.heap "com/example/ariel/ariel/cbor/CborSequence" "NO_CUTS" "[I" (.ref nc)) (O : Old Z n0 h0) (Q : own_seq Z h0 s_ [(.ref bu), (.ref ow), (.int (own_i A_)), (.int (own_i (A_ + P_))), (.int sc), (.ref od), (.ref ub), (.int dp), (.long sl), (.long kl), (.int sk), (.long cl), (.ref nl), (.int (0 : Int32)), (.ref nc), (.int (0 : Int32)), (.int (0 : Int32)), (.long (0 : Int64)), (.int (0 : Int32)), (.int mx), (.int mi), (.int (0 : Int32))]) (g_s_ : n0 ≤ s_) (Vb : Arv Z h0 bu kb .byte zb vb (.int (0 : Int32))) (Vo : Arv Z h0 ow ko .byte (own_i O_) vo (.int (0 : Int32))) (Vp : Arv Z h0 pc_ kp .byte zp vp (.int (0 : Int32))) (hbo : bu ≠ ow) (hsb : s_ ≠ bu) (hso : s_ ≠ ow) (hsp : s_ ≠ pc_) (hpo : pc_ ≠ ow) (hab : A_ + P_ ≤ zb.toNatClampNeg) (hA : A_ + P_ ≤ 2000) (hg : O_ < P_ + M_ ∨ n0 ≤ ow) (hp0 : 0 < P_) (hm : M_ ≤ zp.toNatClampNeg) (hc1 : P_ + M_ ≤ 164) (hc2 : 2 * O_ ≤ 164) (hp2 : p2 = (0 : Int32)) (hp3 : p3 = own_i M_) :
    Met1 l (⟨"com/example/ariel/ariel/cbor/CborSequence", "append", "([BII)V"⟩ : MethodName) prog_32_method_7_code 6 none ws ({ frames := 3, cells := 1, slots := 164, locals := 60 } : Room) #[(.ref s_), (.ref pc_), (.int p2), (.int p3)] Z h0 (RN fun h L => (∃ t kt vt, Keep h0 h [s_, ow] ∧ own_seq Z h s_ [(.ref t), (.ref t), (.int (0 : Int32)), (.int (own_i (P_ + M_))), (.int sc), (.ref od), (.ref ub), (.int dp), (.long sl), (.long kl), (.int sk), (.long cl), (.ref nl), (.int (0 : Int32)), (.ref nc), (.int (0 : Int32)), (.int (0 : Int32)), (.long (0 : Int64)), (.int (0 : Int32)), (.int mx), (.int mi), (.int (0 : Int32))] ∧ Arv Z h t kt .byte (own_i (own_gr O_ (P_ + M_))) vt (.int (0 : Int32)) ∧ n0 ≤ t ∧ (t = ow ∨ h0.size ≤ t)) ∧ Old Z n0 h ∧ Fr n0 L) := by
  refine met_of (plainFor_of_name pn_com_example_ariel_ariel_cbor_CborSequence) ?_
  intro p e s m below meth c T0 X0 hx hby hml hZ hown hnm hret hlk e0 es
  have N0 := Fr.nil n0
  refine Gd.cast (ef_6_E m s_ pc_ p2 p3) ?_
  subst hp2
  subst hp3
  have K0 : Keep h0 h0 [s_, ow] := Keep.refl _ _
  have hi0 : ¬ own_i A_ < 0 := own_nn (by omega)
  have hz0 : ¬ own_i (A_ + P_) - own_i A_ < 0 := by rw [own_isub]; exact own_nn (by omega)
  have hle : (own_i A_).toNatClampNeg + (own_i (A_ + P_) - own_i A_).toNatClampNeg ≤ zb.toNatClampNeg := by rw [own_isub, own_tc (n := A_) (by omega), own_tc (n := P_) (by omega)]; exact hab
  refine g_aloadN X0 hx hby i6_0 rfl rfl ?_
  refine g_getfield X0 hx hby hZ hown (host := "") (Or.inl (wd_ hw 53 rfl)) Via.refl e0 (own_at Q 3 (by decide) (v := (.int (own_i (A_ + P_)))) rfl) i6_1 fun T1 X1 e1 => ?_
  refine g_aloadN X1 hx hby i6_4 rfl rfl ?_
  refine g_getfield X1 hx hby hZ hown (host := "") (Or.inl (wd_ hw 55 rfl)) Via.refl e1 (own_at Q 2 (by decide) (v := (.int (own_i A_))) rfl) i6_5 fun T2 X2 e2 => ?_
  refine g_isub X2 hx hby i6_8 ?_
  rw [own_isub A_ P_]
  refine g_istore X2 hx hby i6_9 (l' := #[.val (.ref s_), .val (.ref pc_), .val (.int (0 : Int32)), .val (.int (own_i M_)), .val (.int (own_i P_)), .unset]) rfl ?_
  refine g_iload X2 hx hby i6_11 rfl ?_
  refine g_if_ne X2 hx hby i6_13 (fun c13_3 => ?_) (fun c13_3 => False.elim (own_ne0 hp0 (by omega) c13_3))
  refine g_aloadN X2 hx hby i6_34 rfl rfl ?_
  refine g_getfield X2 hx hby hZ hown (host := "") (Or.inl (wd_ hw 20 rfl)) Via.refl e2 (own_at Q 0 (by decide) (v := (.ref bu)) rfl) i6_35 fun T4 X4 e4 => ?_
  refine g_aloadN X4 hx hby i6_38 rfl rfl ?_
  refine g_getfield X4 hx hby hZ hown (host := "") (Or.inl (wd_ hw 22 rfl)) Via.refl e4 (own_at Q 1 (by decide) (v := (.ref ow)) rfl) i6_39 fun T5 X5 e5 => ?_
  refine g_acmp_ne X5 hx hby i6_42 rfl rfl (fun c42_6 => ?_) (fun c42_6 => False.elim (hbo (Value.ref.inj c42_6)))
  refine g_iload X5 hx hby i6_59 rfl ?_
  refine g_aloadN X5 hx hby i6_61 rfl rfl ?_
  refine g_getfield X5 hx hby hZ hown (host := "") (Or.inl (wd_ hw 81 rfl)) Via.refl e5 (own_at Q 16 (by decide) (v := (.int (0 : Int32))) rfl) i6_62 fun T7 X7 e7 => ?_
  refine g_isub X7 hx hby i6_65 ?_
  refine g_iloadN X7 hx hby i6_66 rfl ?_
  refine g_iadd X7 hx hby i6_67 ?_
  rw [Int32.sub_zero, own_iadd]
  refine g_istore X7 hx hby i6_68 (l' := #[.val (.ref s_), .val (.ref pc_), .val (.int (0 : Int32)), .val (.int (own_i M_)), .val (.int (own_i P_)), .val (.int (own_i (P_ + M_)))]) rfl ?_
  refine g_aloadN X7 hx hby i6_70 rfl rfl ?_
  refine g_iload X7 hx hby i6_71 rfl ?_
  refine g_aloadN X7 hx hby i6_73 rfl rfl ?_
  refine g_getfield X7 hx hby hZ hown (host := "") (Or.inl (wd_ hw 22 rfl)) Via.refl e7 (own_at Q 1 (by decide) (v := (.ref ow)) rfl) i6_74 fun T8 X8 e8 => ?_
  refine g_arraylength X8 hx hby hZ e8 Vo i6_77 ?_
  refine g_icmp_gt X8 hx hby i6_78 (fun c78_9 => ?_) (fun c78_9 => ?_)
  · refine g_iload X8 hx hby i6_88 rfl ?_
    refine g_iconst X8 hx hby i6_90 (z := (2 : Int32)) (by decide) ?_
    refine g_aloadN X8 hx hby i6_91 rfl rfl ?_
    refine g_getfield X8 hx hby hZ hown (host := "") (Or.inl (wd_ hw 22 rfl)) Via.refl e8 (own_at Q 1 (by decide) (v := (.ref ow)) rfl) i6_92 fun T10 X10 e10 => ?_
    refine g_arraylength X10 hx hby hZ e10 Vo i6_95 ?_
    refine g_imul X10 hx hby i6_96 ?_
    rw [own_imul2]
    refine g_callS0 X10 hx hby hZ (y := (⟨"java/lang/Math", "max", "(II)I"⟩ : MethodName)) (argsL := [(.int (own_i (P_ + M_))), (.int (own_i (2 * O_)))]) (rest := [(.ref s_)]) hown (wd_ hw 228 rfl) (wd_ hw 6 rfl) (wd_ hw 7 rfl) (wd_ hw 8 rfl) (by decide) (rm1 l Z a0 hw [] (own_i (P_ + M_)) (own_i (2 * O_)) h0 n0 Z0) e10 (by rw [hml]; rfl) pd_4 rfl rfl i6_97 (by decide) 1 rfl (by decide) (by decide) (by decide) fun T11 v11 L11 X11 q11 => ?_
    obtain ⟨_, rfl, r11, rfl, hr11, e11, N11⟩ := q11
    have N0 := Fr.app N0 N11
    show Gd p e below _ T11 (mkF m 100 #[.val (.ref s_), .val (.ref pc_), .val (.int (0 : Int32)), .val (.int (own_i M_)), .val (.int (own_i P_)), .val (.int (own_i (P_ + M_)))] [(.int r11), (.ref s_)])
    obtain rfl : r11 = own_i (max (P_ + M_) (2 * O_)) := own_mx (by omega) (by omega) hr11
    have hlt := ((own_ilt (by omega) (by omega)).mp c78_9)
    refine g_newarray X11 hx hby hZ (ty := .byte) rfl (wd_ hw 1 rfl) e11 i6_100 (own_nn (by omega)) 164 (by rw [own_tc (by omega)]; omega) (by decide) (by decide) (by decide) fun T12 h12 b12 k12 X12 e12 E12 hb12 V12 => ?_
    have ne_s__b12 : s_ ≠ b12 := Nat.ne_of_lt (Nat.lt_of_lt_of_le Q.lt (Nat.le_of_eq hb12.symm))
    have ne_bu_b12 : bu ≠ b12 := Nat.ne_of_lt (Nat.lt_of_lt_of_le Vb.lt (Nat.le_of_eq hb12.symm))
    have ne_ow_b12 : ow ≠ b12 := Nat.ne_of_lt (Nat.lt_of_lt_of_le Vo.lt (Nat.le_of_eq hb12.symm))
    have ne_pc__b12 : pc_ ≠ b12 := Nat.ne_of_lt (Nat.lt_of_lt_of_le Vp.lt (Nat.le_of_eq hb12.symm))
    have g_b12 : n0 ≤ b12 := Nat.le_trans Z0 (Nat.le_of_eq hb12.symm)
    have Q := Q.ext E12
    have Vb := Vb.ext E12
    have Vo := Vo.ext E12
    have Vp := Vp.ext E12
    have O := O.ext E12
    have sz_b12 : h0.size ≤ b12 := Nat.le_trans K0.1 (Nat.le_of_eq hb12.symm)
    have K0 := K0.ext E12
    have Z0 : n0 ≤ h12.size := Nat.le_trans Z0 E12.1
    have V12 : Arv Z h12 b12 k12 .byte (own_i (max (P_ + M_) (2 * O_))) [] (.int (0 : Int32)) := V12
    have V12 := V12.pad (pad_rep _ _ ((own_i (A_ + P_)) - (own_i A_)).toNatClampNeg)
    refine g_callPriv X12 hx hby hZ (y := (⟨"com/example/ariel/ariel/cbor/CborSequence", "moveHeldTo", "([B)V"⟩ : MethodName)) (argsL := [(.ref b12)]) (rest := []) hown (wd_ hw 229 rfl) (wd_ hw 230 rfl) (wd_ hw 3 rfl) (wd_ hw 231 rfl) (wd_ hw 4 rfl) (wd_ hw 232 rfl) (by decide) (a := s_) Q.1 (rm37 l Z a0 hw [] s_ b12 no_ bu ow od ub nl nc (own_i A_) (own_i (A_ + P_)) sc dp sk mx mi sl kl cl kb k12 zb (own_i (max (P_ + M_) (2 * O_))) _ _ _ _ h12 n0 Z0 SA_ SB_ SC_ O Q g_s_ hsb Vb V12 g_b12 ne_bu_b12 ne_s__b12 hi0 rfl hz0 rfl hle (own_mvle (by omega) (by omega)) (own_padl _ _ _)) e12 (by rw [hml]; rfl) pd_3 rfl rfl i6_102 (by decide) 0 rfl (by decide) (by decide) (by decide) fun T13 v13 L13 X13 q13 => ?_
    obtain ⟨rfl, K13, Q13, ⟨vd13, V13⟩, N13⟩ := q13
    have N0 := Fr.app N0 N13
    have K0 := K0.trans K13 (fun x hx => by simp at hx; rcases hx with rfl | rfl; exact Or.inl (by simp); exact Or.inr sz_b12)
    have Vb := Vb.keep K13 (ninS (Ne.symm hsb) (ninS ne_bu_b12 nin0))
    have Vo := Vo.keep K13 (ninS (Ne.symm hso) (ninS ne_ow_b12 nin0))
    have Vp := Vp.keep K13 (ninS (Ne.symm hsp) (ninS ne_pc__b12 nin0))
    have O := O.keep K13 (allS g_s_ (allS g_b12 all0))
    have Z0 : n0 ≤ T13.heap.size := Nat.le_trans Z0 K13.1
    show Gd p e below _ T13 (mkF m 105 #[.val (.ref s_), .val (.ref pc_), .val (.int (0 : Int32)), .val (.int (own_i M_)), .val (.int (own_i P_)), .val (.int (own_i (P_ + M_)))] [])
    rw [own_isub A_ P_] at Q13
    have V13 := V13.pad (pad_rep _ _ (P_ + M_))
    refine g_aloadN X13 hx hby i6_105 rfl rfl ?_
    refine g_iloadN X13 hx hby i6_106 rfl ?_
    refine g_aloadN X13 hx hby i6_107 rfl rfl ?_
    refine g_getfield X13 hx hby hZ hown (host := "") (Or.inl (wd_ hw 20 rfl)) Via.refl rfl (own_at Q13 0 (by decide) (v := (.ref b12)) rfl) i6_108 fun T14 X14 e14 => ?_
    refine g_aloadN X14 hx hby i6_111 rfl rfl ?_
    refine g_getfield X14 hx hby hZ hown (host := "") (Or.inl (wd_ hw 53 rfl)) Via.refl e14 (own_at Q13 3 (by decide) (v := (.int (own_i P_))) rfl) i6_112 fun T15 X15 e15 => ?_
    refine g_iloadN X15 hx hby i6_115 rfl ?_
    refine g_arraycopy X15 hx hby hZ hown (wd_ hw 237 rfl) (wd_ hw 196 rfl) (wd_ hw 194 rfl) (wd_ hw 195 rfl) e15 Vp V13 rfl (by decide) (own_nn (by omega)) (own_nn (by omega)) (by rw [own_z0, own_tc (n := M_) (by omega), Nat.zero_add]; exact hm) (by rw [own_tc (n := P_) (by omega), own_tc (n := M_) (by omega), own_tc (by omega)]; omega) (us := _) rfl (by rw [own_tc (n := P_) (by omega), own_tc (n := M_) (by omega)]; exact own_padl _ _ _) N0 g_b12 (by rw [hml]; rfl) i6_116 (by decide) 0 rfl (by decide) fun T16 h16 L16 X16 e16 N0 K16 V16 => ?_
    have K0 := K0.trans K16 (fun x hx => by simp at hx; subst hx; exact Or.inr sz_b12)
    have Vb := Vb.keep K16 (ninS ne_bu_b12 nin0)
    have Vo := Vo.keep K16 (ninS ne_ow_b12 nin0)
    have Vp := Vp.keep K16 (ninS ne_pc__b12 nin0)
    have Q13 := Q13.keep K16 (ninS ne_s__b12 nin0)
    have O := O.keep K16 (allS g_b12 all0)
    have Z0 : n0 ≤ h16.size := Nat.le_trans Z0 K16.1
    show Gd p e below _ T16 (mkF m 119 #[.val (.ref s_), .val (.ref pc_), .val (.int (0 : Int32)), .val (.int (own_i M_)), .val (.int (own_i P_)), .val (.int (own_i (P_ + M_)))] [])
    refine g_aloadN X16 hx hby i6_119 rfl rfl ?_
    refine g_dup X16 hx hby i6_120 rfl ?_
    refine g_getfield X16 hx hby hZ hown (host := "") (Or.inl (wd_ hw 53 rfl)) Via.refl e16 (own_at Q13 3 (by decide) (v := (.int (own_i P_))) rfl) i6_121 fun T17 X17 e17 => ?_
    refine g_iloadN X17 hx hby i6_124 rfl ?_
    refine g_iadd X17 hx hby i6_125 ?_
    rw [own_iadd]
    refine g_putfield X17 hx hby hZ hown (host := "") (Or.inl (wd_ hw 53 rfl)) Via.refl e17 (own_at Q13 3 (by decide) (v := (.int (own_i P_))) rfl) Q13.1 (Or.inl (wd_ hw 54 rfl)) (wd_ hw 3 rfl) (ty := .int) (by decide) rfl rfl i6_126 fun T18 h18 X18 e18 W18 => ?_
    have Q13 : own_seq Z h18 s_ [(.ref b12), (.ref b12), (.int (0 : Int32)), (.int (own_i (P_ + M_))), (.int sc), (.ref od), (.ref ub), (.int dp), (.long sl), (.long kl), (.int sk), (.long cl), (.ref nl), (.int (0 : Int32)), (.ref nc), (.int (0 : Int32)), (.int (0 : Int32)), (.long (0 : Int64)), (.int (0 : Int32)), (.int mx), (.int mi), (.int (0 : Int32))] := Q13.put hw (i := 3) (by decide) W18
    have Vb := Vb.other W18 (Ne.symm hsb)
    have Vo := Vo.other W18 (Ne.symm hso)
    have Vp := Vp.other W18 (Ne.symm hsp)
    have V16 := V16.other W18 (Ne.symm ne_s__b12)
    have O := O.wr W18 g_s_
    have Z0 : n0 ≤ h18.size := Nat.le_trans Z0 (Nat.le_of_eq W18.size.symm)
    have N0 := Fr.snoc X18 N0 g_s_
    have K0 := K0.wr W18 (Or.inl (by simp))
    refine g_return X18 hx hby hret hlk i6_129 (by decide) (by decide) ?_
    rw [e18]
    exact ⟨rfl, ⟨b12, _, _, K0, Q13, (by rw [own_grT (by omega)]; exact V16), g_b12, Or.inr sz_b12⟩, O, N0⟩
  · have hge : ¬ O_ < P_ + M_ := fun q => c78_9 ((own_ilt (by omega) (by omega)).mpr q)
    have g_ow : n0 ≤ ow := hg.resolve_left hge
    refine g_aloadN X8 hx hby i6_81 rfl rfl ?_
    refine g_getfield X8 hx hby hZ hown (host := "") (Or.inl (wd_ hw 22 rfl)) Via.refl e8 (own_at Q 1 (by decide) (v := (.ref ow)) rfl) i6_82 fun T19 X19 e19 => ?_
    refine g_goto X19 hx hby i6_85 ?_
    have Vo := Vo.pad (pad_rep _ _ ((own_i (A_ + P_)) - (own_i A_)).toNatClampNeg)
    refine g_callPriv X19 hx hby hZ (y := (⟨"com/example/ariel/ariel/cbor/CborSequence", "moveHeldTo", "([B)V"⟩ : MethodName)) (argsL := [(.ref ow)]) (rest := []) hown (wd_ hw 229 rfl) (wd_ hw 230 rfl) (wd_ hw 3 rfl) (wd_ hw 231 rfl) (wd_ hw 4 rfl) (wd_ hw 232 rfl) (by decide) (a := s_) Q.1 (rm37 l Z a0 hw [] s_ ow no_ bu ow od ub nl nc (own_i A_) (own_i (A_ + P_)) sc dp sk mx mi sl kl cl kb ko zb (own_i O_) _ _ _ _ h0 n0 Z0 SA_ SB_ SC_ O Q g_s_ hsb Vb Vo g_ow hbo hso hi0 rfl hz0 rfl hle (own_mvle (by omega) (by omega)) (own_padl _ _ _)) e19 (by rw [hml]; rfl) pd_3 rfl rfl i6_102 (by decide) 0 rfl (by decide) (by decide) (by decide) fun T20 v20 L20 X20 q20 => ?_
    obtain ⟨rfl, K20, Q20, ⟨vd20, V20⟩, N20⟩ := q20
    have N0 := Fr.app N0 N20
    have K0 := K0.trans K20 (fun x hx => by simp at hx; rcases hx with rfl | rfl; exact Or.inl (by simp); exact Or.inl (by simp))
    have Vb := Vb.keep K20 (ninS (Ne.symm hsb) (ninS hbo nin0))
    have Vp := Vp.keep K20 (ninS (Ne.symm hsp) (ninS hpo nin0))
    have O := O.keep K20 (allS g_s_ (allS g_ow all0))
    have Z0 : n0 ≤ T20.heap.size := Nat.le_trans Z0 K20.1
    show Gd p e below _ T20 (mkF m 105 #[.val (.ref s_), .val (.ref pc_), .val (.int (0 : Int32)), .val (.int (own_i M_)), .val (.int (own_i P_)), .val (.int (own_i (P_ + M_)))] [])
    rw [own_isub A_ P_] at Q20
    have V20 := V20.pad (pad_rep _ _ (P_ + M_))
    refine g_aloadN X20 hx hby i6_105 rfl rfl ?_
    refine g_iloadN X20 hx hby i6_106 rfl ?_
    refine g_aloadN X20 hx hby i6_107 rfl rfl ?_
    refine g_getfield X20 hx hby hZ hown (host := "") (Or.inl (wd_ hw 20 rfl)) Via.refl rfl (own_at Q20 0 (by decide) (v := (.ref ow)) rfl) i6_108 fun T21 X21 e21 => ?_
    refine g_aloadN X21 hx hby i6_111 rfl rfl ?_
    refine g_getfield X21 hx hby hZ hown (host := "") (Or.inl (wd_ hw 53 rfl)) Via.refl e21 (own_at Q20 3 (by decide) (v := (.int (own_i P_))) rfl) i6_112 fun T22 X22 e22 => ?_
    refine g_iloadN X22 hx hby i6_115 rfl ?_
    refine g_arraycopy X22 hx hby hZ hown (wd_ hw 237 rfl) (wd_ hw 196 rfl) (wd_ hw 194 rfl) (wd_ hw 195 rfl) e22 Vp V20 rfl (by decide) (own_nn (by omega)) (own_nn (by omega)) (by rw [own_z0, own_tc (n := M_) (by omega), Nat.zero_add]; exact hm) (by rw [own_tc (n := P_) (by omega), own_tc (n := M_) (by omega), own_tc (by omega)]; omega) (us := _) rfl (by rw [own_tc (n := P_) (by omega), own_tc (n := M_) (by omega)]; exact own_padl _ _ _) N0 g_ow (by rw [hml]; rfl) i6_116 (by decide) 0 rfl (by decide) fun T23 h23 L23 X23 e23 N0 K23 V23 => ?_
    have K0 := K0.trans K23 (fun x hx => by simp at hx; subst hx; exact Or.inl (by simp))
    have Vb := Vb.keep K23 (ninS hbo nin0)
    have Vp := Vp.keep K23 (ninS hpo nin0)
    have Q20 := Q20.keep K23 (ninS hso nin0)
    have O := O.keep K23 (allS g_ow all0)
    have Z0 : n0 ≤ h23.size := Nat.le_trans Z0 K23.1
    show Gd p e below _ T23 (mkF m 119 #[.val (.ref s_), .val (.ref pc_), .val (.int (0 : Int32)), .val (.int (own_i M_)), .val (.int (own_i P_)), .val (.int (own_i (P_ + M_)))] [])
    refine g_aloadN X23 hx hby i6_119 rfl rfl ?_
    refine g_dup X23 hx hby i6_120 rfl ?_
    refine g_getfield X23 hx hby hZ hown (host := "") (Or.inl (wd_ hw 53 rfl)) Via.refl e23 (own_at Q20 3 (by decide) (v := (.int (own_i P_))) rfl) i6_121 fun T24 X24 e24 => ?_
    refine g_iloadN X24 hx hby i6_124 rfl ?_
    refine g_iadd X24 hx hby i6_125 ?_
    rw [own_iadd]
    refine g_putfield X24 hx hby hZ hown (host := "") (Or.inl (wd_ hw 53 rfl)) Via.refl e24 (own_at Q20 3 (by decide) (v := (.int (own_i P_))) rfl) Q20.1 (Or.inl (wd_ hw 54 rfl)) (wd_ hw 3 rfl) (ty := .int) (by decide) rfl rfl i6_126 fun T25 h25 X25 e25 W25 => ?_
    have Q20 : own_seq Z h25 s_ [(.ref ow), (.ref ow), (.int (0 : Int32)), (.int (own_i (P_ + M_))), (.int sc), (.ref od), (.ref ub), (.int dp), (.long sl), (.long kl), (.int sk), (.long cl), (.ref nl), (.int (0 : Int32)), (.ref nc), (.int (0 : Int32)), (.int (0 : Int32)), (.long (0 : Int64)), (.int (0 : Int32)), (.int mx), (.int mi), (.int (0 : Int32))] := Q20.put hw (i := 3) (by decide) W25
    have Vb := Vb.other W25 (Ne.symm hsb)
    have Vp := Vp.other W25 (Ne.symm hsp)
    have V23 := V23.other W25 (Ne.symm hso)
    have O := O.wr W25 g_s_
    have Z0 : n0 ≤ h25.size := Nat.le_trans Z0 (Nat.le_of_eq W25.size.symm)
    have N0 := Fr.snoc X25 N0 g_s_
    have K0 := K0.wr W25 (Or.inl (by simp))
    refine g_return X25 hx hby hret hlk i6_129 (by decide) (by decide) ?_
    rw [e25]
    exact ⟨rfl, ⟨ow, _, _, K0, Q20, (by rw [own_grF (by omega)]; exact V23), g_ow, Or.inl rfl⟩, O, N0⟩
theorem rm6_B (l : Launch) (Z : State) (a0 : Array Value) (hw : ∀ d ∈ tables_1, d.before a0 Z = true) (ws : List Jvm.Cond) (s_ : Addr) (pc_ : Addr) (p2 : Int32) (p3 : Int32) (no_ : Addr) (bu ow od ub nl nc : Addr) (sc dp sk mx mi : Int32) (sl kl cl : Int64) (ko kp : ClassId) (zp : Int32) (vo vp : List Value) (P_ M_ O_ : Nat) (h0 : Heap) (n0 : Nat) (Z0 : n0 ≤ h0.size) (SA_ : Sta Z Z.heap "com/example/ariel/ariel/cbor/CborSequence" "NOTHING" "[B" (.ref no_)) (SB_ : Sta Z Z.heap "com/example/ariel/ariel/cbor/CborSequence" "NO_LENGTHS" "[J" (.ref nl)) (SC_ : Sta Z Z.heap "com/example/ariel/ariel/cbor/CborSequence" "NO_CUTS" "[I" (.ref nc)) (O : Old Z n0 h0) (Q : own_seq Z h0 s_ [(.ref ow), (.ref ow), (.int (0 : Int32)), (.int (own_i P_)), (.int sc), (.ref od), (.ref ub), (.int dp), (.long sl), (.long kl), (.int sk), (.long cl), (.ref nl), (.int (0 : Int32)), (.ref nc), (.int (0 : Int32)), (.int (0 : Int32)), (.long (0 : Int64)), (.int (0 : Int32)), (.int mx), (.int mi), (.int (0 : Int32))]) (g_s_ : n0 ≤ s_) (Vo : Arv Z h0 ow ko .byte (own_i O_) vo (.int (0 : Int32))) (Vp : Arv Z h0 pc_ kp .byte zp vp (.int (0 : Int32))) (g_ow : n0 ≤ ow) (hso : s_ ≠ ow) (hsp : s_ ≠ pc_) (hpo : pc_ ≠ ow) (hpO : P_ ≤ O_) (hp0 : 0 < P_) (hm : M_ ≤ zp.toNatClampNeg) (hc1 : P_ + M_ ≤ 164) (hc2 : 2 * O_ ≤ 164) (hp2 : p2 = (0 : Int32)) (hp3 : p3 = own_i M_) :
    Met1 l (⟨"com/example/ariel/ariel/cbor/CborSequence", "append", "([BII)V"⟩ : MethodName) prog_32_method_7_code 6 none ws ({ frames := 3, cells := 1, slots := 164, locals := 60 } : Room) #[(.ref s_), (.ref pc_), (.int p2), (.int p3)] Z h0 (RN fun h L => (∃ t kt vt, Keep h0 h [s_, ow] ∧ own_seq Z h s_ [(.ref t), (.ref t), (.int (0 : Int32)), (.int (own_i (P_ + M_))), (.int sc), (.ref od), (.ref ub), (.int dp), (.long sl), (.long kl), (.int sk), (.long cl), (.ref nl), (.int (0 : Int32)), (.ref nc), (.int (0 : Int32)), (.int (0 : Int32)), (.long (0 : Int64)), (.int (0 : Int32)), (.int mx), (.int mi), (.int (0 : Int32))] ∧ Arv Z h t kt .byte (own_i (own_gr O_ (P_ + M_))) vt (.int (0 : Int32)) ∧ n0 ≤ t ∧ (t = ow ∨ h0.size ≤ t)) ∧ Old Z n0 h ∧ Fr n0 L) := by
  refine met_of (plainFor_of_name pn_com_example_ariel_ariel_cbor_CborSequence) ?_
  intro p e s m below meth c T0 X0 hx hby hml hZ hown hnm hret hlk e0 es
  have N0 := Fr.nil n0
  refine Gd.cast (ef_6_E m s_ pc_ p2 p3) ?_
  subst hp2
  subst hp3
  have K0 : Keep h0 h0 [s_, ow] := Keep.refl _ _
  have hi0 : ¬ (0 : Int32) < 0 := by decide
  have hz0 : ¬ own_i P_ - (0 : Int32) < 0 := by rw [Int32.sub_zero]; exact own_nn (by omega)
  have hle : (0 : Int32).toNatClampNeg + (own_i P_ - (0 : Int32)).toNatClampNeg ≤ (own_i O_).toNatClampNeg := by rw [Int32.sub_zero, own_z0, own_tc (n := P_) (by omega), own_tc (n := O_) (by omega)]; omega
  refine g_aloadN X0 hx hby i6_0 rfl rfl ?_
  refine g_getfield X0 hx hby hZ hown (host := "") (Or.inl (wd_ hw 53 rfl)) Via.refl e0 (own_at Q 3 (by decide) (v := (.int (own_i P_))) rfl) i6_1 fun T1 X1 e1 => ?_
  refine g_aloadN X1 hx hby i6_4 rfl rfl ?_
  refine g_getfield X1 hx hby hZ hown (host := "") (Or.inl (wd_ hw 55 rfl)) Via.refl e1 (own_at Q 2 (by decide) (v := (.int (0 : Int32))) rfl) i6_5 fun T2 X2 e2 => ?_
  refine g_isub X2 hx hby i6_8 ?_
  rw [Int32.sub_zero]
  refine g_istore X2 hx hby i6_9 (l' := #[.val (.ref s_), .val (.ref pc_), .val (.int (0 : Int32)), .val (.int (own_i M_)), .val (.int (own_i P_)), .unset]) rfl ?_
  refine g_iload X2 hx hby i6_11 rfl ?_
  refine g_if_ne X2 hx hby i6_13 (fun c13_3 => ?_) (fun c13_3 => False.elim (own_ne0 hp0 (by omega) c13_3))
  refine g_aloadN X2 hx hby i6_34 rfl rfl ?_
  refine g_getfield X2 hx hby hZ hown (host := "") (Or.inl (wd_ hw 20 rfl)) Via.refl e2 (own_at Q 0 (by decide) (v := (.ref ow)) rfl) i6_35 fun T4 X4 e4 => ?_
  refine g_aloadN X4 hx hby i6_38 rfl rfl ?_
  refine g_getfield X4 hx hby hZ hown (host := "") (Or.inl (wd_ hw 22 rfl)) Via.refl e4 (own_at Q 1 (by decide) (v := (.ref ow)) rfl) i6_39 fun T5 X5 e5 => ?_
  refine g_acmp_ne X5 hx hby i6_42 rfl rfl (fun c42_6 => False.elim (c42_6 rfl)) fun c42_6 => ?_
  refine g_aloadN X5 hx hby i6_45 rfl rfl ?_
  refine g_getfield X5 hx hby hZ hown (host := "") (Or.inl (wd_ hw 22 rfl)) Via.refl e5 (own_at Q 1 (by decide) (v := (.ref ow)) rfl) i6_46 fun T7 X7 e7 => ?_
  refine g_arraylength X7 hx hby hZ e7 Vo i6_49 ?_
  refine g_aloadN X7 hx hby i6_50 rfl rfl ?_
  refine g_getfield X7 hx hby hZ hown (host := "") (Or.inl (wd_ hw 53 rfl)) Via.refl e7 (own_at Q 3 (by decide) (v := (.int (own_i P_))) rfl) i6_51 fun T8 X8 e8 => ?_
  refine g_isub X8 hx hby i6_54 ?_
  rw [own_isubL hpO]
  refine g_iloadN X8 hx hby i6_55 rfl ?_
  refine g_icmp_ge X8 hx hby i6_56 (fun c56_9 => ?_) (fun c56_9 => ?_)
  · have Vo := Vo.pad (pad_rep _ _ (P_ + M_))
    have hhi : ¬ O_ - P_ < M_ := fun q => c56_9 ((own_ilt (by omega) (by omega)).mpr q)
    refine g_aloadN X8 hx hby i6_105 rfl rfl ?_
    refine g_iloadN X8 hx hby i6_106 rfl ?_
    refine g_aloadN X8 hx hby i6_107 rfl rfl ?_
    refine g_getfield X8 hx hby hZ hown (host := "") (Or.inl (wd_ hw 20 rfl)) Via.refl e8 (own_at Q 0 (by decide) (v := (.ref ow)) rfl) i6_108 fun T10 X10 e10 => ?_
    refine g_aloadN X10 hx hby i6_111 rfl rfl ?_
    refine g_getfield X10 hx hby hZ hown (host := "") (Or.inl (wd_ hw 53 rfl)) Via.refl e10 (own_at Q 3 (by decide) (v := (.int (own_i P_))) rfl) i6_112 fun T11 X11 e11 => ?_
    refine g_iloadN X11 hx hby i6_115 rfl ?_
    refine g_arraycopy X11 hx hby hZ hown (wd_ hw 237 rfl) (wd_ hw 196 rfl) (wd_ hw 194 rfl) (wd_ hw 195 rfl) e11 Vp Vo rfl (by decide) (own_nn (by omega)) (own_nn (by omega)) (by rw [own_z0, own_tc (n := M_) (by omega), Nat.zero_add]; exact hm) (by rw [own_tc (n := P_) (by omega), own_tc (n := M_) (by omega), own_tc (by omega)]; omega) (us := _) rfl (by rw [own_tc (n := P_) (by omega), own_tc (n := M_) (by omega)]; exact own_padl _ _ _) N0 g_ow (by rw [hml]; rfl) i6_116 (by decide) 0 rfl (by decide) fun T12 h12 L12 X12 e12 N0 K12 V12 => ?_
    have K0 := K0.trans K12 (fun x hx => by simp at hx; subst hx; exact Or.inl (by simp))
    have Q := Q.keep K12 (ninS hso nin0)
    have Vp := Vp.keep K12 (ninS hpo nin0)
    have O := O.keep K12 (allS g_ow all0)
    have Z0 : n0 ≤ h12.size := Nat.le_trans Z0 K12.1
    show Gd p e below _ T12 (mkF m 119 #[.val (.ref s_), .val (.ref pc_), .val (.int (0 : Int32)), .val (.int (own_i M_)), .val (.int (own_i P_)), .unset] [])
    refine g_aloadN X12 hx hby i6_119 rfl rfl ?_
    refine g_dup X12 hx hby i6_120 rfl ?_
    refine g_getfield X12 hx hby hZ hown (host := "") (Or.inl (wd_ hw 53 rfl)) Via.refl e12 (own_at Q 3 (by decide) (v := (.int (own_i P_))) rfl) i6_121 fun T13 X13 e13 => ?_
    refine g_iloadN X13 hx hby i6_124 rfl ?_
    refine g_iadd X13 hx hby i6_125 ?_
    rw [own_iadd]
    refine g_putfield X13 hx hby hZ hown (host := "") (Or.inl (wd_ hw 53 rfl)) Via.refl e13 (own_at Q 3 (by decide) (v := (.int (own_i P_))) rfl) Q.1 (Or.inl (wd_ hw 54 rfl)) (wd_ hw 3 rfl) (ty := .int) (by decide) rfl rfl i6_126 fun T14 h14 X14 e14 W14 => ?_
    have Q : own_seq Z h14 s_ [(.ref ow), (.ref ow), (.int (0 : Int32)), (.int (own_i (P_ + M_))), (.int sc), (.ref od), (.ref ub), (.int dp), (.long sl), (.long kl), (.int sk), (.long cl), (.ref nl), (.int (0 : Int32)), (.ref nc), (.int (0 : Int32)), (.int (0 : Int32)), (.long (0 : Int64)), (.int (0 : Int32)), (.int mx), (.int mi), (.int (0 : Int32))] := Q.put hw (i := 3) (by decide) W14
    have Vp := Vp.other W14 (Ne.symm hsp)
    have V12 := V12.other W14 (Ne.symm hso)
    have O := O.wr W14 g_s_
    have Z0 : n0 ≤ h14.size := Nat.le_trans Z0 (Nat.le_of_eq W14.size.symm)
    have N0 := Fr.snoc X14 N0 g_s_
    have K0 := K0.wr W14 (Or.inl (by simp))
    refine g_return X14 hx hby hret hlk i6_129 (by decide) (by decide) ?_
    rw [e14]
    exact ⟨rfl, ⟨ow, _, _, K0, Q, (by rw [own_grF (by omega)]; exact V12), g_ow, Or.inl rfl⟩, O, N0⟩
  · have hlo := (own_ilt (by omega) (by omega)).mp c56_9
    refine g_iload X8 hx hby i6_59 rfl ?_
    refine g_aloadN X8 hx hby i6_61 rfl rfl ?_
    refine g_getfield X8 hx hby hZ hown (host := "") (Or.inl (wd_ hw 81 rfl)) Via.refl e8 (own_at Q 16 (by decide) (v := (.int (0 : Int32))) rfl) i6_62 fun T15 X15 e15 => ?_
    refine g_isub X15 hx hby i6_65 ?_
    refine g_iloadN X15 hx hby i6_66 rfl ?_
    refine g_iadd X15 hx hby i6_67 ?_
    rw [Int32.sub_zero, own_iadd]
    refine g_istore X15 hx hby i6_68 (l' := #[.val (.ref s_), .val (.ref pc_), .val (.int (0 : Int32)), .val (.int (own_i M_)), .val (.int (own_i P_)), .val (.int (own_i (P_ + M_)))]) rfl ?_
    refine g_aloadN X15 hx hby i6_70 rfl rfl ?_
    refine g_iload X15 hx hby i6_71 rfl ?_
    refine g_aloadN X15 hx hby i6_73 rfl rfl ?_
    refine g_getfield X15 hx hby hZ hown (host := "") (Or.inl (wd_ hw 22 rfl)) Via.refl e15 (own_at Q 1 (by decide) (v := (.ref ow)) rfl) i6_74 fun T16 X16 e16 => ?_
    refine g_arraylength X16 hx hby hZ e16 Vo i6_77 ?_
    refine g_icmp_gt X16 hx hby i6_78 (fun c78_17 => ?_) (fun c78_17 => False.elim (c78_17 ((own_ilt (by omega) (by omega)).mpr (by omega))))
    refine g_iload X16 hx hby i6_88 rfl ?_
    refine g_iconst X16 hx hby i6_90 (z := (2 : Int32)) (by decide) ?_
    refine g_aloadN X16 hx hby i6_91 rfl rfl ?_
    refine g_getfield X16 hx hby hZ hown (host := "") (Or.inl (wd_ hw 22 rfl)) Via.refl e16 (own_at Q 1 (by decide) (v := (.ref ow)) rfl) i6_92 fun T18 X18 e18 => ?_
    refine g_arraylength X18 hx hby hZ e18 Vo i6_95 ?_
    refine g_imul X18 hx hby i6_96 ?_
    rw [own_imul2]
    refine g_callS0 X18 hx hby hZ (y := (⟨"java/lang/Math", "max", "(II)I"⟩ : MethodName)) (argsL := [(.int (own_i (P_ + M_))), (.int (own_i (2 * O_)))]) (rest := [(.ref s_)]) hown (wd_ hw 228 rfl) (wd_ hw 6 rfl) (wd_ hw 7 rfl) (wd_ hw 8 rfl) (by decide) (rm1 l Z a0 hw [] (own_i (P_ + M_)) (own_i (2 * O_)) h0 n0 Z0) e18 (by rw [hml]; rfl) pd_4 rfl rfl i6_97 (by decide) 1 rfl (by decide) (by decide) (by decide) fun T19 v19 L19 X19 q19 => ?_
    obtain ⟨_, rfl, r19, rfl, hr19, e19, N19⟩ := q19
    have N0 := Fr.app N0 N19
    show Gd p e below _ T19 (mkF m 100 #[.val (.ref s_), .val (.ref pc_), .val (.int (0 : Int32)), .val (.int (own_i M_)), .val (.int (own_i P_)), .val (.int (own_i (P_ + M_)))] [(.int r19), (.ref s_)])
    obtain rfl : r19 = own_i (max (P_ + M_) (2 * O_)) := own_mx (by omega) (by omega) hr19
    have hlt := ((own_ilt (by omega) (by omega)).mp c78_17)
    refine g_newarray X19 hx hby hZ (ty := .byte) rfl (wd_ hw 1 rfl) e19 i6_100 (own_nn (by omega)) 164 (by rw [own_tc (by omega)]; omega) (by decide) (by decide) (by decide) fun T20 h20 b20 k20 X20 e20 E20 hb20 V20 => ?_
    have ne_s__b20 : s_ ≠ b20 := Nat.ne_of_lt (Nat.lt_of_lt_of_le Q.lt (Nat.le_of_eq hb20.symm))
    have ne_ow_b20 : ow ≠ b20 := Nat.ne_of_lt (Nat.lt_of_lt_of_le Vo.lt (Nat.le_of_eq hb20.symm))
    have ne_pc__b20 : pc_ ≠ b20 := Nat.ne_of_lt (Nat.lt_of_lt_of_le Vp.lt (Nat.le_of_eq hb20.symm))
    have g_b20 : n0 ≤ b20 := Nat.le_trans Z0 (Nat.le_of_eq hb20.symm)
    have Q := Q.ext E20
    have Vo := Vo.ext E20
    have Vp := Vp.ext E20
    have O := O.ext E20
    have sz_b20 : h0.size ≤ b20 := Nat.le_trans K0.1 (Nat.le_of_eq hb20.symm)
    have K0 := K0.ext E20
    have Z0 : n0 ≤ h20.size := Nat.le_trans Z0 E20.1
    have V20 : Arv Z h20 b20 k20 .byte (own_i (max (P_ + M_) (2 * O_))) [] (.int (0 : Int32)) := V20
    have V20 := V20.pad (pad_rep _ _ ((own_i P_) - (0 : Int32)).toNatClampNeg)
    refine g_callPriv X20 hx hby hZ (y := (⟨"com/example/ariel/ariel/cbor/CborSequence", "moveHeldTo", "([B)V"⟩ : MethodName)) (argsL := [(.ref b20)]) (rest := []) hown (wd_ hw 229 rfl) (wd_ hw 230 rfl) (wd_ hw 3 rfl) (wd_ hw 231 rfl) (wd_ hw 4 rfl) (wd_ hw 232 rfl) (by decide) (a := s_) Q.1 (rm37 l Z a0 hw [] s_ b20 no_ ow ow od ub nl nc (0 : Int32) (own_i P_) sc dp sk mx mi sl kl cl ko k20 (own_i O_) (own_i (max (P_ + M_) (2 * O_))) _ _ _ _ h20 n0 Z0 SA_ SB_ SC_ O Q g_s_ hso Vo V20 g_b20 ne_ow_b20 ne_s__b20 hi0 rfl hz0 rfl hle (own_mvle0 (by omega) (by omega)) (own_padl _ _ _)) e20 (by rw [hml]; rfl) pd_3 rfl rfl i6_102 (by decide) 0 rfl (by decide) (by decide) (by decide) fun T21 v21 L21 X21 q21 => ?_
    obtain ⟨rfl, K21, Q21, ⟨vd21, V21⟩, N21⟩ := q21
    have N0 := Fr.app N0 N21
    have K0 := K0.trans K21 (fun x hx => by simp at hx; rcases hx with rfl | rfl; exact Or.inl (by simp); exact Or.inr sz_b20)
    have Vo := Vo.keep K21 (ninS (Ne.symm hso) (ninS ne_ow_b20 nin0))
    have Vp := Vp.keep K21 (ninS (Ne.symm hsp) (ninS ne_pc__b20 nin0))
    have O := O.keep K21 (allS g_s_ (allS g_b20 all0))
    have Z0 : n0 ≤ T21.heap.size := Nat.le_trans Z0 K21.1
    show Gd p e below _ T21 (mkF m 105 #[.val (.ref s_), .val (.ref pc_), .val (.int (0 : Int32)), .val (.int (own_i M_)), .val (.int (own_i P_)), .val (.int (own_i (P_ + M_)))] [])
    rw [Int32.sub_zero] at Q21
    have V21 := V21.pad (pad_rep _ _ (P_ + M_))
    refine g_aloadN X21 hx hby i6_105 rfl rfl ?_
    refine g_iloadN X21 hx hby i6_106 rfl ?_
    refine g_aloadN X21 hx hby i6_107 rfl rfl ?_
    refine g_getfield X21 hx hby hZ hown (host := "") (Or.inl (wd_ hw 20 rfl)) Via.refl rfl (own_at Q21 0 (by decide) (v := (.ref b20)) rfl) i6_108 fun T22 X22 e22 => ?_
    refine g_aloadN X22 hx hby i6_111 rfl rfl ?_
    refine g_getfield X22 hx hby hZ hown (host := "") (Or.inl (wd_ hw 53 rfl)) Via.refl e22 (own_at Q21 3 (by decide) (v := (.int (own_i P_))) rfl) i6_112 fun T23 X23 e23 => ?_
    refine g_iloadN X23 hx hby i6_115 rfl ?_
    refine g_arraycopy X23 hx hby hZ hown (wd_ hw 237 rfl) (wd_ hw 196 rfl) (wd_ hw 194 rfl) (wd_ hw 195 rfl) e23 Vp V21 rfl (by decide) (own_nn (by omega)) (own_nn (by omega)) (by rw [own_z0, own_tc (n := M_) (by omega), Nat.zero_add]; exact hm) (by rw [own_tc (n := P_) (by omega), own_tc (n := M_) (by omega), own_tc (by omega)]; omega) (us := _) rfl (by rw [own_tc (n := P_) (by omega), own_tc (n := M_) (by omega)]; exact own_padl _ _ _) N0 g_b20 (by rw [hml]; rfl) i6_116 (by decide) 0 rfl (by decide) fun T24 h24 L24 X24 e24 N0 K24 V24 => ?_
    have K0 := K0.trans K24 (fun x hx => by simp at hx; subst hx; exact Or.inr sz_b20)
    have Vo := Vo.keep K24 (ninS ne_ow_b20 nin0)
    have Vp := Vp.keep K24 (ninS ne_pc__b20 nin0)
    have Q21 := Q21.keep K24 (ninS ne_s__b20 nin0)
    have O := O.keep K24 (allS g_b20 all0)
    have Z0 : n0 ≤ h24.size := Nat.le_trans Z0 K24.1
    show Gd p e below _ T24 (mkF m 119 #[.val (.ref s_), .val (.ref pc_), .val (.int (0 : Int32)), .val (.int (own_i M_)), .val (.int (own_i P_)), .val (.int (own_i (P_ + M_)))] [])
    refine g_aloadN X24 hx hby i6_119 rfl rfl ?_
    refine g_dup X24 hx hby i6_120 rfl ?_
    refine g_getfield X24 hx hby hZ hown (host := "") (Or.inl (wd_ hw 53 rfl)) Via.refl e24 (own_at Q21 3 (by decide) (v := (.int (own_i P_))) rfl) i6_121 fun T25 X25 e25 => ?_
    refine g_iloadN X25 hx hby i6_124 rfl ?_
    refine g_iadd X25 hx hby i6_125 ?_
    rw [own_iadd]
    refine g_putfield X25 hx hby hZ hown (host := "") (Or.inl (wd_ hw 53 rfl)) Via.refl e25 (own_at Q21 3 (by decide) (v := (.int (own_i P_))) rfl) Q21.1 (Or.inl (wd_ hw 54 rfl)) (wd_ hw 3 rfl) (ty := .int) (by decide) rfl rfl i6_126 fun T26 h26 X26 e26 W26 => ?_
    have Q21 : own_seq Z h26 s_ [(.ref b20), (.ref b20), (.int (0 : Int32)), (.int (own_i (P_ + M_))), (.int sc), (.ref od), (.ref ub), (.int dp), (.long sl), (.long kl), (.int sk), (.long cl), (.ref nl), (.int (0 : Int32)), (.ref nc), (.int (0 : Int32)), (.int (0 : Int32)), (.long (0 : Int64)), (.int (0 : Int32)), (.int mx), (.int mi), (.int (0 : Int32))] := Q21.put hw (i := 3) (by decide) W26
    have Vo := Vo.other W26 (Ne.symm hso)
    have Vp := Vp.other W26 (Ne.symm hsp)
    have V24 := V24.other W26 (Ne.symm ne_s__b20)
    have O := O.wr W26 g_s_
    have Z0 : n0 ≤ h26.size := Nat.le_trans Z0 (Nat.le_of_eq W26.size.symm)
    have N0 := Fr.snoc X26 N0 g_s_
    have K0 := K0.wr W26 (Or.inl (by simp))
    refine g_return X26 hx hby hret hlk i6_129 (by decide) (by decide) ?_
    rw [e26]
    exact ⟨rfl, ⟨b20, _, _, K0, Q21, (by rw [own_grT (by omega)]; exact V24), g_b20, Or.inr sz_b20⟩, O, N0⟩
theorem rm38_Z (l : Launch) (Z : State) (a0 : Array Value) (hw : ∀ d ∈ tables_1, d.before a0 Z = true) (ws : List Jvm.Cond) (s_ : Addr) (p1 : Int32) (d : Addr) (no_ : Addr) (bu ow od ub nl nc : Addr) (st en sc dp sk mx mi : Int32) (sl kl cl : Int64) (kb kd : ClassId) (zb zd : Int32) (vb vd : List Value) (h0 : Heap) (n0 : Nat) (Z0 : n0 ≤ h0.size) (SA_ : Sta Z Z.heap "com/example/ariel/ariel/cbor/CborSequence" "NOTHING" "[B" (.ref no_)) (SB_ : Sta Z Z.heap "com/example/ariel/ariel/cbor/CborSequence" "NO_LENGTHS" "[J" (.ref nl)) (SC_ : Sta Z Z.heap "com/example/ariel/ariel/cbor/CborSequence" "NO_CUTS" "[I" (.ref nc)) (O : Old Z n0 h0) (Q : own_seq Z h0 s_ [(.ref bu), (.ref ow), (.int st), (.int en), (.int sc), (.ref od), (.ref ub), (.int dp), (.long sl), (.long kl), (.int sk), (.long cl), (.ref nl), (.int (0 : Int32)), (.ref nc), (.int (0 : Int32)), (.int (0 : Int32)), (.long (0 : Int64)), (.int (0 : Int32)), (.int mx), (.int mi), (.int (0 : Int32))]) (Vb : Arv Z h0 bu kb .byte zb vb (.int (0 : Int32))) (Vd : Arv Z h0 d kd .byte zd vd (.int (0 : Int32))) (hi0 : ¬ st < 0) (hz : p1 - st = 0) (hle : st.toNatClampNeg ≤ zb.toNatClampNeg) :
    Met1 l (⟨"com/example/ariel/ariel/cbor/CborSequence", "copyHeld", "(I[B)I"⟩ : MethodName) prog_32_method_21_code 6 (some .int) ws ({ frames := 1, cells := 0, slots := 0, locals := 18 } : Room) #[(.ref s_), (.int p1), (.ref d)] Z h0 (RV fun vv h L => vv = .int (((0 : Int32) + p1) - st) ∧ h = h0 ∧ Fr n0 L) := by
  refine met_of (plainFor_of_name pn_com_example_ariel_ariel_cbor_CborSequence) ?_
  intro p e s m below meth c T0 X0 hx hby hml hZ hown hnm hret hlk e0 es
  have N0 := Fr.nil n0
  refine Gd.cast (ef_38 m s_ p1 d) ?_
  refine g_aloadN X0 hx hby i38_0 rfl rfl ?_
  refine g_getfield X0 hx hby hZ hown (host := "") (Or.inl (wd_ hw 55 rfl)) Via.refl e0 (own_at Q 2 (by decide) (v := (.int st)) rfl) i38_1 fun T1 X1 e1 => ?_
  refine g_istoreN X1 hx hby i38_4 (l' := #[.val (.ref s_), .val (.int p1), .val (.ref d), .val (.int st), .unset, .unset]) rfl ?_
  refine g_iconst X1 hx hby i38_5 (z := (0 : Int32)) (by decide) ?_
  refine g_istore X1 hx hby i38_6 (l' := #[.val (.ref s_), .val (.int p1), .val (.ref d), .val (.int st), .val (.int (0 : Int32)), .unset]) rfl ?_
  refine g_iconst X1 hx hby i38_8 (z := (0 : Int32)) (by decide) ?_
  refine g_istore X1 hx hby i38_9 (l' := #[.val (.ref s_), .val (.int p1), .val (.ref d), .val (.int st), .val (.int (0 : Int32)), .val (.int (0 : Int32))]) rfl ?_
  refine g_iload X1 hx hby i38_11 rfl ?_
  refine g_iconst X1 hx hby i38_13 (z := (2 : Int32)) (by decide) ?_
  refine g_aloadN X1 hx hby i38_14 rfl rfl ?_
  refine g_getfield X1 hx hby hZ hown (host := "") (Or.inl (wd_ hw 111 rfl)) Via.refl e1 (own_at Q 15 (by decide) (v := (.int (0 : Int32))) rfl) i38_15 fun T2 X2 e2 => ?_
  refine g_imul X2 hx hby i38_18 ?_
  refine g_icmp_ge X2 hx hby i38_19 (fun c19_3 => ?_) (fun c19_3 => False.elim (absurd c19_3 (by decide)))
  refine g_aloadN X2 hx hby i38_72 rfl rfl ?_
  refine g_getfield X2 hx hby hZ hown (host := "") (Or.inl (wd_ hw 20 rfl)) Via.refl e2 (own_at Q 0 (by decide) (v := (.ref bu)) rfl) i38_73 fun T4 X4 e4 => ?_
  refine g_iloadN X4 hx hby i38_76 rfl ?_
  refine g_aloadN X4 hx hby i38_77 rfl rfl ?_
  refine g_iload X4 hx hby i38_78 rfl ?_
  refine g_iloadN X4 hx hby i38_80 rfl ?_
  refine g_iloadN X4 hx hby i38_81 rfl ?_
  refine g_isub X4 hx hby i38_82 ?_
  refine g_arraycopy0 X4 hx hby hZ hown (wd_ hw 237 rfl) (wd_ hw 196 rfl) (wd_ hw 194 rfl) (wd_ hw 195 rfl) e4 Vb Vd rfl hz hi0 (by decide) hle (by rw [own_z0]; exact Nat.zero_le _) (by rw [hml]; rfl) i38_83 (by decide) 0 rfl (by decide) fun T5 X5 e5 => ?_
  show Gd p e below _ T5 (mkF m 86 #[.val (.ref s_), .val (.int p1), .val (.ref d), .val (.int st), .val (.int (0 : Int32)), .val (.int (0 : Int32))] [])
  refine g_iload X5 hx hby i38_86 rfl ?_
  refine g_iloadN X5 hx hby i38_88 rfl ?_
  refine g_iadd X5 hx hby i38_89 ?_
  refine g_iloadN X5 hx hby i38_90 rfl ?_
  refine g_isub X5 hx hby i38_91 ?_
  refine g_ireturn X5 hx hby hret hlk i38_92 (by decide) (by decide) ?_
  exact ⟨_, rfl, rfl, e5, N0⟩
theorem rm37_Z (l : Launch) (Z : State) (a0 : Array Value) (hw : ∀ d ∈ tables_1, d.before a0 Z = true) (ws : List Jvm.Cond) (s_ : Addr) (d : Addr) (no_ : Addr) (bu ow od ub nl nc : Addr) (st en sc dp sk mx mi : Int32) (sl kl cl : Int64) (kb kd : ClassId) (zb zd : Int32) (vb vd : List Value) (h0 : Heap) (n0 : Nat) (Z0 : n0 ≤ h0.size) (SA_ : Sta Z Z.heap "com/example/ariel/ariel/cbor/CborSequence" "NOTHING" "[B" (.ref no_)) (SB_ : Sta Z Z.heap "com/example/ariel/ariel/cbor/CborSequence" "NO_LENGTHS" "[J" (.ref nl)) (SC_ : Sta Z Z.heap "com/example/ariel/ariel/cbor/CborSequence" "NO_CUTS" "[I" (.ref nc)) (O : Old Z n0 h0) (Q : own_seq Z h0 s_ [(.ref bu), (.ref ow), (.int st), (.int en), (.int sc), (.ref od), (.ref ub), (.int dp), (.long sl), (.long kl), (.int sk), (.long cl), (.ref nl), (.int (0 : Int32)), (.ref nc), (.int (0 : Int32)), (.int (0 : Int32)), (.long (0 : Int64)), (.int (0 : Int32)), (.int mx), (.int mi), (.int (0 : Int32))]) (g_s_ : n0 ≤ s_) (hsb : s_ ≠ bu) (hsd : s_ ≠ d) (Vb : Arv Z h0 bu kb .byte zb vb (.int (0 : Int32))) (Vd : Arv Z h0 d kd .byte zd vd (.int (0 : Int32))) (hi0 : ¬ st < 0) (hz : en - st = 0) (hle : st.toNatClampNeg ≤ zb.toNatClampNeg) :
    Met1 l (⟨"com/example/ariel/ariel/cbor/CborSequence", "moveHeldTo", "([B)V"⟩ : MethodName) prog_32_method_23_code 2 none ws ({ frames := 2, cells := 0, slots := 0, locals := 36 } : Room) #[(.ref s_), (.ref d)] Z h0 (RN fun h L => Keep h0 h [s_] ∧ own_seq Z h s_ [(.ref d), (.ref d), (.int (0 : Int32)), (.int (en - st)), (.int sc), (.ref od), (.ref ub), (.int dp), (.long sl), (.long kl), (.int sk), (.long cl), (.ref nl), (.int (0 : Int32)), (.ref nc), (.int (0 : Int32)), (.int (0 : Int32)), (.long (0 : Int64)), (.int (0 : Int32)), (.int mx), (.int mi), (.int (0 : Int32))] ∧ Fr n0 L) := by
  refine met_of (plainFor_of_name pn_com_example_ariel_ariel_cbor_CborSequence) ?_
  intro p e s m below meth c T0 X0 hx hby hml hZ hown hnm hret hlk e0 es
  have N0 := Fr.nil n0
  refine Gd.cast (ef_37 m s_ d) ?_
  have K0 : Keep h0 h0 [s_] := Keep.refl _ _
  refine g_aloadN X0 hx hby i37_0 rfl rfl ?_
  refine g_aloadN X0 hx hby i37_1 rfl rfl ?_
  refine g_aloadN X0 hx hby i37_2 rfl rfl ?_
  refine g_getfield X0 hx hby hZ hown (host := "") (Or.inl (wd_ hw 53 rfl)) Via.refl e0 (own_at Q 3 (by decide) (v := (.int en)) rfl) i37_3 fun T1 X1 e1 => ?_
  refine g_aloadN X1 hx hby i37_6 rfl rfl ?_
  refine g_callPriv X1 hx hby hZ (y := (⟨"com/example/ariel/ariel/cbor/CborSequence", "copyHeld", "(I[B)I"⟩ : MethodName)) (argsL := [(.int en), (.ref d)]) (rest := [(.ref s_)]) hown (wd_ hw 233 rfl) (wd_ hw 234 rfl) (wd_ hw 3 rfl) (wd_ hw 235 rfl) (wd_ hw 4 rfl) (wd_ hw 236 rfl) (by decide) (a := s_) Q.1 (rm38_Z l Z a0 hw [] s_ en d no_ bu ow od ub nl nc st en sc dp sk mx mi sl kl cl kb kd zb zd _ _ h0 n0 Z0 SA_ SB_ SC_ O Q Vb Vd hi0 hz hle) e1 (by rw [hml]; rfl) pd_0 rfl rfl i37_7 (by decide) 1 rfl (by decide) (by decide) (by decide) fun T2 v2 L2 X2 q2 => ?_
  obtain ⟨_, rfl, rfl, e2, N2⟩ := q2
  have N0 := Fr.app N0 N2
  show Gd p e below _ T2 (mkF m 10 #[.val (.ref s_), .val (.ref d)] [(.int (((0 : Int32) + en) - st)), (.ref s_)])
  refine g_putfield X2 hx hby hZ hown (host := "") (Or.inl (wd_ hw 53 rfl)) Via.refl e2 (own_at Q 3 (by decide) (v := (.int en)) rfl) Q.1 (Or.inl (wd_ hw 54 rfl)) (wd_ hw 3 rfl) (ty := .int) (by decide) rfl rfl i37_10 fun T3 h3 X3 e3 W3 => ?_
  have Q : own_seq Z h3 s_ [(.ref bu), (.ref ow), (.int st), (.int (((0 : Int32) + en) - st)), (.int sc), (.ref od), (.ref ub), (.int dp), (.long sl), (.long kl), (.int sk), (.long cl), (.ref nl), (.int (0 : Int32)), (.ref nc), (.int (0 : Int32)), (.int (0 : Int32)), (.long (0 : Int64)), (.int (0 : Int32)), (.int mx), (.int mi), (.int (0 : Int32))] := Q.put hw (i := 3) (by decide) W3
  have Vb := Vb.other W3 (Ne.symm hsb)
  have Vd := Vd.other W3 (Ne.symm hsd)
  have O := O.wr W3 g_s_
  have Z0 : n0 ≤ h3.size := Nat.le_trans Z0 (Nat.le_of_eq W3.size.symm)
  have N0 := Fr.snoc X3 N0 g_s_
  have K0 := K0.wr W3 (Or.inl (by simp))
  refine g_aloadN X3 hx hby i37_13 rfl rfl ?_
  refine g_dup X3 hx hby i37_14 rfl ?_
  refine g_getfield X3 hx hby hZ hown (host := "") (Or.inl (wd_ hw 79 rfl)) Via.refl e3 (own_at Q 4 (by decide) (v := (.int sc)) rfl) i37_15 fun T4 X4 e4 => ?_
  refine g_aloadN X4 hx hby i37_18 rfl rfl ?_
  refine g_getfield X4 hx hby hZ hown (host := "") (Or.inl (wd_ hw 81 rfl)) Via.refl e4 (own_at Q 16 (by decide) (v := (.int (0 : Int32))) rfl) i37_19 fun T5 X5 e5 => ?_
  refine g_isub X5 hx hby i37_22 ?_
  refine g_putfield X5 hx hby hZ hown (host := "") (Or.inl (wd_ hw 79 rfl)) Via.refl e5 (own_at Q 4 (by decide) (v := (.int sc)) rfl) Q.1 (Or.inl (wd_ hw 80 rfl)) (wd_ hw 3 rfl) (ty := .int) (by decide) rfl rfl i37_23 fun T6 h6 X6 e6 W6 => ?_
  have Q : own_seq Z h6 s_ [(.ref bu), (.ref ow), (.int st), (.int (((0 : Int32) + en) - st)), (.int (sc - (0 : Int32))), (.ref od), (.ref ub), (.int dp), (.long sl), (.long kl), (.int sk), (.long cl), (.ref nl), (.int (0 : Int32)), (.ref nc), (.int (0 : Int32)), (.int (0 : Int32)), (.long (0 : Int64)), (.int (0 : Int32)), (.int mx), (.int mi), (.int (0 : Int32))] := Q.put hw (i := 4) (by decide) W6
  have Vb := Vb.other W6 (Ne.symm hsb)
  have Vd := Vd.other W6 (Ne.symm hsd)
  have O := O.wr W6 g_s_
  have Z0 : n0 ≤ h6.size := Nat.le_trans Z0 (Nat.le_of_eq W6.size.symm)
  have N0 := Fr.snoc X6 N0 g_s_
  have K0 := K0.wr W6 (Or.inl (by simp))
  refine g_aloadN X6 hx hby i37_26 rfl rfl ?_
  refine g_callPriv X6 hx hby hZ (y := (⟨"com/example/ariel/ariel/cbor/CborSequence", "dropCuts", "()V"⟩ : MethodName)) (argsL := []) (rest := []) hown (wd_ hw 238 rfl) (wd_ hw 239 rfl) (wd_ hw 3 rfl) (wd_ hw 240 rfl) (wd_ hw 4 rfl) (wd_ hw 241 rfl) (by decide) (a := s_) Q.1 (rm39 l Z a0 hw [] s_ no_ bu ow od ub nl nc st (((0 : Int32) + en) - st) (sc - (0 : Int32)) dp sk mx mi sl kl cl h6 n0 Z0 SA_ SB_ SC_ O Q g_s_) e6 (by rw [hml]; rfl) pd_1 rfl rfl i37_27 (by decide) 0 rfl (by decide) (by decide) (by decide) fun T7 v7 L7 X7 q7 => ?_
  obtain ⟨rfl, K7, Q7, N7⟩ := q7
  have N0 := Fr.app N0 N7
  have K0 := K0.trans K7 (fun x hx => Or.inl (by simp at hx ⊢; simp [hx]))
  have Vb := Vb.keep K7 (ninS (Ne.symm hsb) nin0)
  have Vd := Vd.keep K7 (ninS (Ne.symm hsd) nin0)
  have O := O.keep K7 (allS g_s_ all0)
  have Z0 : n0 ≤ T7.heap.size := Nat.le_trans Z0 K7.1
  show Gd p e below _ T7 (mkF m 30 #[.val (.ref s_), .val (.ref d)] [])
  refine g_aloadN X7 hx hby i37_30 rfl rfl ?_
  refine g_aloadN X7 hx hby i37_31 rfl rfl ?_
  refine g_putfield X7 hx hby hZ hown (host := "") (Or.inl (wd_ hw 22 rfl)) Via.refl rfl (own_at Q7 1 (by decide) (v := (.ref ow)) rfl) Q7.1 (Or.inl (wd_ hw 23 rfl)) (wd_ hw 3 rfl) (ty := (.array .byte)) (by decide) rfl rfl i37_32 fun T8 h8 X8 e8 W8 => ?_
  have Q7 : own_seq Z h8 s_ [(.ref bu), (.ref d), (.int st), (.int (((0 : Int32) + en) - st)), (.int (sc - (0 : Int32))), (.ref od), (.ref ub), (.int dp), (.long sl), (.long kl), (.int sk), (.long cl), (.ref nl), (.int (0 : Int32)), (.ref nc), (.int (0 : Int32)), (.int (0 : Int32)), (.long (0 : Int64)), (.int (0 : Int32)), (.int mx), (.int mi), (.int (0 : Int32))] := Q7.put hw (i := 1) (by decide) W8
  have Vb := Vb.other W8 (Ne.symm hsb)
  have Vd := Vd.other W8 (Ne.symm hsd)
  have O := O.wr W8 g_s_
  have Z0 : n0 ≤ h8.size := Nat.le_trans Z0 (Nat.le_of_eq W8.size.symm)
  have N0 := Fr.snoc X8 N0 g_s_
  have K0 := K0.wr W8 (Or.inl (by simp))
  refine g_aloadN X8 hx hby i37_35 rfl rfl ?_
  refine g_aloadN X8 hx hby i37_36 rfl rfl ?_
  refine g_putfield X8 hx hby hZ hown (host := "") (Or.inl (wd_ hw 20 rfl)) Via.refl e8 (own_at Q7 0 (by decide) (v := (.ref bu)) rfl) Q7.1 (Or.inl (wd_ hw 21 rfl)) (wd_ hw 3 rfl) (ty := (.array .byte)) (by decide) rfl rfl i37_37 fun T9 h9 X9 e9 W9 => ?_
  have Q7 : own_seq Z h9 s_ [(.ref d), (.ref d), (.int st), (.int (((0 : Int32) + en) - st)), (.int (sc - (0 : Int32))), (.ref od), (.ref ub), (.int dp), (.long sl), (.long kl), (.int sk), (.long cl), (.ref nl), (.int (0 : Int32)), (.ref nc), (.int (0 : Int32)), (.int (0 : Int32)), (.long (0 : Int64)), (.int (0 : Int32)), (.int mx), (.int mi), (.int (0 : Int32))] := Q7.put hw (i := 0) (by decide) W9
  have Vb := Vb.other W9 (Ne.symm hsb)
  have Vd := Vd.other W9 (Ne.symm hsd)
  have O := O.wr W9 g_s_
  have Z0 : n0 ≤ h9.size := Nat.le_trans Z0 (Nat.le_of_eq W9.size.symm)
  have N0 := Fr.snoc X9 N0 g_s_
  have K0 := K0.wr W9 (Or.inl (by simp))
  refine g_aloadN X9 hx hby i37_40 rfl rfl ?_
  refine g_iconst X9 hx hby i37_41 (z := (0 : Int32)) (by decide) ?_
  refine g_putfield X9 hx hby hZ hown (host := "") (Or.inl (wd_ hw 55 rfl)) Via.refl e9 (own_at Q7 2 (by decide) (v := (.int st)) rfl) Q7.1 (Or.inl (wd_ hw 56 rfl)) (wd_ hw 3 rfl) (ty := .int) (by decide) rfl rfl i37_42 fun T10 h10 X10 e10 W10 => ?_
  have Q7 : own_seq Z h10 s_ [(.ref d), (.ref d), (.int (0 : Int32)), (.int (((0 : Int32) + en) - st)), (.int (sc - (0 : Int32))), (.ref od), (.ref ub), (.int dp), (.long sl), (.long kl), (.int sk), (.long cl), (.ref nl), (.int (0 : Int32)), (.ref nc), (.int (0 : Int32)), (.int (0 : Int32)), (.long (0 : Int64)), (.int (0 : Int32)), (.int mx), (.int mi), (.int (0 : Int32))] := Q7.put hw (i := 2) (by decide) W10
  have Vb := Vb.other W10 (Ne.symm hsb)
  have Vd := Vd.other W10 (Ne.symm hsd)
  have O := O.wr W10 g_s_
  have Z0 : n0 ≤ h10.size := Nat.le_trans Z0 (Nat.le_of_eq W10.size.symm)
  have N0 := Fr.snoc X10 N0 g_s_
  have K0 := K0.wr W10 (Or.inl (by simp))
  refine g_return X10 hx hby hret hlk i37_45 (by decide) (by decide) ?_
  rw [e10]
  rw [Int32.zero_add, Int32.sub_zero] at Q7
  exact ⟨rfl, K0, Q7, N0⟩
theorem rm44_Z (l : Launch) (Z : State) (a0 : Array Value) (hw : ∀ d ∈ tables_1, d.before a0 Z = true) (ws : List Jvm.Cond) (s_ : Addr) (no_ : Addr) (bu ow od ub nl nc : Addr) (st en sc dp sk mx mi : Int32) (sl kl cl : Int64) (kb ko : ClassId) (zb : Int32) (vb vo : List Value) (h0 : Heap) (n0 : Nat) (Z0 : n0 ≤ h0.size) (SA_ : Sta Z Z.heap "com/example/ariel/ariel/cbor/CborSequence" "NOTHING" "[B" (.ref no_)) (SB_ : Sta Z Z.heap "com/example/ariel/ariel/cbor/CborSequence" "NO_LENGTHS" "[J" (.ref nl)) (SC_ : Sta Z Z.heap "com/example/ariel/ariel/cbor/CborSequence" "NO_CUTS" "[I" (.ref nc)) (O : Old Z n0 h0) (Q : own_seq Z h0 s_ [(.ref bu), (.ref ow), (.int st), (.int en), (.int sc), (.ref od), (.ref ub), (.int dp), (.long sl), (.long kl), (.int sk), (.long cl), (.ref nl), (.int (0 : Int32)), (.ref nc), (.int (0 : Int32)), (.int (0 : Int32)), (.long (0 : Int64)), (.int (0 : Int32)), (.int mx), (.int mi), (.int (0 : Int32))]) (g_s_ : n0 ≤ s_) (Vb : Arv Z h0 bu kb .byte zb vb (.int (0 : Int32))) (Vo : Arv Z h0 ow ko .byte (0 : Int32) vo (.int (0 : Int32))) (hbo : bu ≠ ow) (hsb : s_ ≠ bu) (hso : s_ ≠ ow) (hi0 : ¬ st < 0) (hz : en - st = 0) (hle : st.toNatClampNeg ≤ zb.toNatClampNeg) :
    Met1 l (⟨"com/example/ariel/ariel/cbor/CborSequence", "detach", "()V"⟩ : MethodName) prog_32_method_8_code 2 none ws ({ frames := 3, cells := 1, slots := 128, locals := 50 } : Room) #[(.ref s_)] Z h0 (RN fun h L => Keep h0 h [s_] ∧ own_seq Z h s_ [(.ref ow), (.ref ow), (.int (0 : Int32)), (.int (en - st)), (.int sc), (.ref od), (.ref ub), (.int dp), (.long sl), (.long kl), (.int sk), (.long cl), (.ref nl), (.int (0 : Int32)), (.ref nc), (.int (0 : Int32)), (.int (0 : Int32)), (.long (0 : Int64)), (.int (0 : Int32)), (.int mx), (.int mi), (.int (0 : Int32))] ∧ Fr n0 L) := by
  refine met_of (plainFor_of_name pn_com_example_ariel_ariel_cbor_CborSequence) ?_
  intro p e s m below meth c T0 X0 hx hby hml hZ hown hnm hret hlk e0 es
  have N0 := Fr.nil n0
  refine Gd.cast (ef_44_A m s_) ?_
  have K0 : Keep h0 h0 [s_] := Keep.refl _ _
  refine g_aloadN X0 hx hby i44_0 rfl rfl ?_
  refine g_callV0 X0 hx hby hZ (y0 := (⟨"com/example/ariel/ariel/cbor/CborSequence", "pending", "()I"⟩ : MethodName)) (y := (⟨"com/example/ariel/ariel/cbor/CborSequence", "pending", "()I"⟩ : MethodName)) (argsL := []) (rest := []) hown (wd_ hw 262 rfl) (wd_ hw 263 rfl) (notFace_of_selects (args := #[]) (mvT hZ (wd_ hw 265 rfl))) (wd_ hw 265 rfl) (wd_ hw 264 rfl) (wd_ hw 4 rfl) (wd_ hw 266 rfl) (by decide) (a := s_) Q.1 (rm45 l Z a0 hw [] s_ bu ow od ub nl nc st en sc dp sk mx mi sl kl cl h0 n0 Z0 Q) e0 (by rw [hml]; rfl) pd_2 rfl rfl i44_1 (by decide) 0 rfl (by decide) (by decide) (by decide) fun T1 v1 L1 X1 q1 => ?_
  obtain ⟨_, rfl, rfl, e1, N1⟩ := q1
  have N0 := Fr.app N0 N1
  rw [Int32.sub_zero]
  show Gd p e below _ T1 (mkF m 4 #[.val (.ref s_), .unset] [(.int (en - st))])
  rw [hz]
  refine g_istoreN X1 hx hby i44_4 (l' := #[.val (.ref s_), .val (.int (0 : Int32))]) rfl ?_
  refine g_aloadN X1 hx hby i44_5 rfl rfl ?_
  refine g_getfield X1 hx hby hZ hown (host := "") (Or.inl (wd_ hw 22 rfl)) Via.refl e1 (own_at Q 1 (by decide) (v := (.ref ow)) rfl) i44_6 fun T2 X2 e2 => ?_
  refine g_arraylength X2 hx hby hZ e2 Vo i44_9 ?_
  refine g_iloadN X2 hx hby i44_10 rfl ?_
  refine g_icmp_lt X2 hx hby i44_11 (fun c11_3 => False.elim (absurd c11_3 (by decide))) fun c11_3 => ?_
  refine g_aloadN X2 hx hby i44_14 rfl rfl ?_
  refine g_getfield X2 hx hby hZ hown (host := "") (Or.inl (wd_ hw 22 rfl)) Via.refl e2 (own_at Q 1 (by decide) (v := (.ref ow)) rfl) i44_15 fun T4 X4 e4 => ?_
  refine g_arraylength X4 hx hby hZ e4 Vo i44_18 ?_
  refine g_iconst X4 hx hby i44_19 (z := (2 : Int32)) (by decide) ?_
  refine g_iloadN X4 hx hby i44_20 rfl ?_
  refine g_imul X4 hx hby i44_21 ?_
  rw [show (2 : Int32) * (0 : Int32) = (0 : Int32) from by decide]
  refine g_icmp_le X4 hx hby i44_22 (fun c22_5 => ?_) (fun c22_5 => False.elim (absurd c22_5 (by decide)))
  refine g_aloadN X4 hx hby i44_35 rfl rfl ?_
  refine g_getfield X4 hx hby hZ hown (host := "") (Or.inl (wd_ hw 20 rfl)) Via.refl e4 (own_at Q 0 (by decide) (v := (.ref bu)) rfl) i44_36 fun T6 X6 e6 => ?_
  refine g_aloadN X6 hx hby i44_39 rfl rfl ?_
  refine g_getfield X6 hx hby hZ hown (host := "") (Or.inl (wd_ hw 22 rfl)) Via.refl e6 (own_at Q 1 (by decide) (v := (.ref ow)) rfl) i44_40 fun T7 X7 e7 => ?_
  refine g_acmp_eq X7 hx hby i44_43 rfl rfl (fun c43_8 => False.elim (hbo (Value.ref.inj c43_8))) fun c43_8 => ?_
  refine g_aloadN X7 hx hby i44_46 rfl rfl ?_
  refine g_aloadN X7 hx hby i44_47 rfl rfl ?_
  refine g_getfield X7 hx hby hZ hown (host := "") (Or.inl (wd_ hw 22 rfl)) Via.refl e7 (own_at Q 1 (by decide) (v := (.ref ow)) rfl) i44_48 fun T9 X9 e9 => ?_
  refine g_callPriv X9 hx hby hZ (y := (⟨"com/example/ariel/ariel/cbor/CborSequence", "moveHeldTo", "([B)V"⟩ : MethodName)) (argsL := [(.ref ow)]) (rest := []) hown (wd_ hw 229 rfl) (wd_ hw 230 rfl) (wd_ hw 3 rfl) (wd_ hw 231 rfl) (wd_ hw 4 rfl) (wd_ hw 232 rfl) (by decide) (a := s_) Q.1 (rm37_Z l Z a0 hw [] s_ ow no_ bu ow od ub nl nc st en sc dp sk mx mi sl kl cl kb ko zb (0 : Int32) _ _ h0 n0 Z0 SA_ SB_ SC_ O Q g_s_ hsb hso Vb Vo hi0 hz hle) e9 (by rw [hml]; rfl) pd_3 rfl rfl i44_51 (by decide) 0 rfl (by decide) (by decide) (by decide) fun T10 v10 L10 X10 q10 => ?_
  obtain ⟨rfl, K10, Q10, N10⟩ := q10
  have N0 := Fr.app N0 N10
  have K0 := K0.trans K10 (fun x hx => Or.inl hx)
  have Vb := Vb.keep K10 (ninS (Ne.symm hsb) nin0)
  have Vo := Vo.keep K10 (ninS (Ne.symm hso) nin0)
  have O := O.keep K10 (allS g_s_ all0)
  have Z0 : n0 ≤ T10.heap.size := Nat.le_trans Z0 K10.1
  show Gd p e below _ T10 (mkF m 54 #[.val (.ref s_), .val (.int (0 : Int32))] [])
  refine g_return X10 hx hby hret hlk i44_54 (by decide) (by decide) ?_
  rw [hz] at Q10
  exact ⟨rfl, K0, Q10, N0⟩
theorem i31_0 : Ins1 jdk_29_method_69_code 0 (.iload_n 0) 1 1 := ⟨by decide +kernel, rfl⟩
theorem i31_1 : Ins1 jdk_29_method_69_code 1 (.iload_n 1) 1 2 := ⟨by decide +kernel, rfl⟩
theorem i31_2 : InsB jdk_29_method_69_code 2 (.if_icmp .gt 7) 7 5 9 := ⟨by decide +kernel, rfl, by decide, by decide⟩
theorem i31_5 : Ins1 jdk_29_method_69_code 5 (.iload_n 0) 1 6 := ⟨by decide +kernel, rfl⟩
theorem i31_6 : InsB jdk_29_method_69_code 6 (.goto 4) 4 9 10 := ⟨by decide +kernel, rfl, by decide, by decide⟩
theorem i31_9 : Ins1 jdk_29_method_69_code 9 (.iload_n 1) 1 10 := ⟨by decide +kernel, rfl⟩
theorem i31_10 : Ins1 jdk_29_method_69_code 10 (.ireturn) 1 11 := ⟨by decide +kernel, rfl⟩
theorem ef_31_l (m : MethodId) (p0 : Int32) (p1 : Int32) : entryFrame m #[(.int p0), (.int p1)] 2 = mkF m 0 #[.val (.int p0), .val (.int p1)] [] := by first | (simp [entryFrame, mkF, argsToLocals, Value.category]; done) | rfl
theorem rm31_l (l : Launch) (Z : State) (a0 : Array Value) (hw : ∀ d ∈ tables_1, d.before a0 Z = true) (ws : List Jvm.Cond) (p0 : Int32) (p1 : Int32)  (h0 : Heap) (n0 : Nat) (Z0 : n0 ≤ h0.size) (hp : ¬ p1 < p0) :
    Met1 l (⟨"java/lang/Math", "min", "(II)I"⟩ : MethodName) jdk_29_method_69_code 2 (some .int) ws ({ frames := 0, cells := 0, slots := 0, locals := 0 } : Room) #[(.int p0), (.int p1)] Z h0 (RV fun vv h L => vv = .int p0 ∧ h = h0 ∧ Fr n0 L) := by
  refine met_of (Jvm.Free.JP.mathPlain rfl (by decide +kernel)) ?_
  intro p e s m below meth c T0 X0 hx hby hml hZ hown hnm hret hlk e0 es
  have N0 := Fr.nil n0
  refine Gd.cast (ef_31_l m p0 p1) ?_
  refine g_iloadN X0 hx hby i31_0 rfl ?_
  refine g_iloadN X0 hx hby i31_1 rfl ?_
  refine g_icmp_gt X0 hx hby i31_2 (fun c2_1 => False.elim (hp c2_1)) fun c2_1 => ?_
  refine g_iloadN X0 hx hby i31_5 rfl ?_
  refine g_goto X0 hx hby i31_6 ?_
  refine g_ireturn X0 hx hby hret hlk i31_10 (by decide) (by decide) ?_
  exact ⟨_, rfl, rfl, e0, N0⟩
theorem rm31_r (l : Launch) (Z : State) (a0 : Array Value) (hw : ∀ d ∈ tables_1, d.before a0 Z = true) (ws : List Jvm.Cond) (p0 : Int32) (p1 : Int32)  (h0 : Heap) (n0 : Nat) (Z0 : n0 ≤ h0.size) (hp : ¬ p0 < p1) :
    Met1 l (⟨"java/lang/Math", "min", "(II)I"⟩ : MethodName) jdk_29_method_69_code 2 (some .int) ws ({ frames := 0, cells := 0, slots := 0, locals := 0 } : Room) #[(.int p0), (.int p1)] Z h0 (RV fun vv h L => vv = .int p1 ∧ h = h0 ∧ Fr n0 L) := by
  refine met_of (Jvm.Free.JP.mathPlain rfl (by decide +kernel)) ?_
  intro p e s m below meth c T0 X0 hx hby hml hZ hown hnm hret hlk e0 es
  have N0 := Fr.nil n0
  refine Gd.cast (ef_31_l m p0 p1) ?_
  refine g_iloadN X0 hx hby i31_0 rfl ?_
  refine g_iloadN X0 hx hby i31_1 rfl ?_
  refine g_icmp_gt X0 hx hby i31_2 (fun c2_1 => ?_) (fun c2_1 => ?_)
  · refine g_iloadN X0 hx hby i31_9 rfl ?_
    refine g_ireturn X0 hx hby hret hlk i31_10 (by decide) (by decide) ?_
    exact ⟨_, rfl, rfl, e0, N0⟩
  · refine g_iloadN X0 hx hby i31_5 rfl ?_
    refine g_goto X0 hx hby i31_6 ?_
    refine g_ireturn X0 hx hby hret hlk i31_10 (by decide) (by decide) ?_
    exact ⟨_, rfl, congrArg Value.int (own_anti hp c2_1), e0, N0⟩
theorem i42_0 : Ins1 jdk_65_method_124_code 0 (.iload_n 1) 1 1 := ⟨by decide +kernel, rfl⟩
theorem i42_1 : Ins1 jdk_65_method_124_code 1 (.aload_n 0) 1 2 := ⟨by decide +kernel, rfl⟩
theorem i42_2 : Ins1 jdk_65_method_124_code 2 (.arraylength) 1 3 := ⟨by decide +kernel, rfl⟩
theorem i42_3 : InsB jdk_65_method_124_code 3 (.if_icmp .ne 11) 11 6 14 := ⟨by decide +kernel, rfl, by decide, by decide⟩
theorem i42_14 : Ins1 jdk_65_method_124_code 14 (.iload_n 1) 1 15 := ⟨by decide +kernel, rfl⟩
theorem i42_15 : Ins1 jdk_65_method_124_code 15 (.newarray .long) 2 17 := ⟨by decide +kernel, rfl⟩
theorem i42_17 : Ins1 jdk_65_method_124_code 17 (.astore_n 2) 1 18 := ⟨by decide +kernel, rfl⟩
theorem i42_18 : Ins1 jdk_65_method_124_code 18 (.aload_n 0) 1 19 := ⟨by decide +kernel, rfl⟩
theorem i42_19 : Ins1 jdk_65_method_124_code 19 (.iconst 0) 1 20 := ⟨by decide +kernel, rfl⟩
theorem i42_20 : Ins1 jdk_65_method_124_code 20 (.aload_n 2) 1 21 := ⟨by decide +kernel, rfl⟩
theorem i42_21 : Ins1 jdk_65_method_124_code 21 (.iconst 0) 1 22 := ⟨by decide +kernel, rfl⟩
theorem i42_22 : Ins1 jdk_65_method_124_code 22 (.aload_n 0) 1 23 := ⟨by decide +kernel, rfl⟩
theorem i42_23 : Ins1 jdk_65_method_124_code 23 (.arraylength) 1 24 := ⟨by decide +kernel, rfl⟩
theorem i42_24 : Ins1 jdk_65_method_124_code 24 (.iload_n 1) 1 25 := ⟨by decide +kernel, rfl⟩
theorem i42_25 : Ins1 jdk_65_method_124_code 25 (.invokestatic 304) 3 28 := ⟨by decide +kernel, rfl⟩
theorem i42_28 : Ins1 jdk_65_method_124_code 28 (.invokestatic 150) 3 31 := ⟨by decide +kernel, rfl⟩
theorem i42_31 : Ins1 jdk_65_method_124_code 31 (.aload_n 2) 1 32 := ⟨by decide +kernel, rfl⟩
theorem i42_32 : Ins1 jdk_65_method_124_code 32 (.areturn) 1 33 := ⟨by decide +kernel, rfl⟩
theorem pn_java_util_Arrays : plainName "java/util/Arrays" = true := by first | (simp [plainName, overriddenIn]; done) | decide +kernel
theorem ef_42 (m : MethodId) (b_ : Addr) (p1 : Int32) : entryFrame m #[(.ref b_), (.int p1)] 3 = mkF m 0 #[.val (.ref b_), .val (.int p1), .unset] [] := by first | (simp [entryFrame, mkF, argsToLocals, Value.category]; done) | rfl
theorem rm42 (l : Launch) (Z : State) (a0 : Array Value) (hw : ∀ d ∈ tables_1, d.before a0 Z = true) (ws : List Jvm.Cond) (b_ : Addr) (p1 : Int32) (kc : ClassId) (vs : List Value) (I_ : Nat) (h0 : Heap) (n0 : Nat) (Z0 : n0 ≤ h0.size) (V : Arv Z h0 b_ kc .long (own_i I_) vs (.long (0 : Int64))) (hp1 : p1 = own_i (2 * I_)) (hi0 : 0 < I_) (hi1 : I_ ≤ 16) :
    Met1 l (⟨"java/util/Arrays", "copyOf", "([JI)[J"⟩ : MethodName) jdk_65_method_124_code 3 (some (.array .long)) ws ({ frames := 1, cells := 1, slots := 32, locals := 24 } : Room) #[(.ref b_), (.int p1)] Z h0 (RV fun z h L => ∃ t kt vt, z = .ref t ∧ Keep h0 h [] ∧ Arv Z h t kt .long (own_i (2 * I_)) vt (.long (0 : Int64)) ∧ n0 ≤ t ∧ h0.size ≤ t ∧ Fr n0 L) := by
  refine met_of (plainFor_of_name pn_java_util_Arrays) ?_
  intro p e s m below meth c T0 X0 hx hby hml hZ hown hnm hret hlk e0 es
  have N0 := Fr.nil n0
  refine Gd.cast (ef_42 m b_ p1) ?_
  subst hp1
  have K0 : Keep h0 h0 [] := Keep.refl _ _
  refine g_iloadN X0 hx hby i42_0 rfl ?_
  refine g_aloadN X0 hx hby i42_1 rfl rfl ?_
  refine g_arraylength X0 hx hby hZ e0 V i42_2 ?_
  refine g_icmp_ne X0 hx hby i42_3 (fun c3_1 => ?_) (fun c3_1 => False.elim (absurd ((own_ieq (by omega) (by omega)).mp c3_1) (by omega)))
  refine g_iloadN X0 hx hby i42_14 rfl ?_
  refine g_newarray X0 hx hby hZ (ty := .long) rfl (wd_ hw 24 rfl) e0 i42_15 (own_nn (by omega)) 32 (by rw [own_tc (by omega)]; omega) (by decide) (by decide) (by decide) fun T2 h2 b2 k2 X2 e2 E2 hb2 V2 => ?_
  have ne_b__b2 : b_ ≠ b2 := Nat.ne_of_lt (Nat.lt_of_lt_of_le V.lt (Nat.le_of_eq hb2.symm))
  have g_b2 : n0 ≤ b2 := Nat.le_trans Z0 (Nat.le_of_eq hb2.symm)
  have V := V.ext E2
  have sz_b2 : h0.size ≤ b2 := Nat.le_trans K0.1 (Nat.le_of_eq hb2.symm)
  have K0 := K0.ext E2
  have Z0 : n0 ≤ h2.size := Nat.le_trans Z0 E2.1
  have V2 : Arv Z h2 b2 k2 .long (own_i (2 * I_)) [] (.long (0 : Int64)) := V2
  have V2 := V2.pad (pad_rep _ _ I_)
  refine g_astoreN X2 hx hby i42_17 rfl (l' := #[.val (.ref b_), .val (.int (own_i (2 * I_))), .val (.ref b2)]) rfl ?_
  refine g_aloadN X2 hx hby i42_18 rfl rfl ?_
  refine g_iconst X2 hx hby i42_19 (z := (0 : Int32)) (by decide) ?_
  refine g_aloadN X2 hx hby i42_20 rfl rfl ?_
  refine g_iconst X2 hx hby i42_21 (z := (0 : Int32)) (by decide) ?_
  refine g_aloadN X2 hx hby i42_22 rfl rfl ?_
  refine g_arraylength X2 hx hby hZ e2 V i42_23 ?_
  refine g_iloadN X2 hx hby i42_24 rfl ?_
  refine g_callS0 X2 hx hby hZ (y := (⟨"java/lang/Math", "min", "(II)I"⟩ : MethodName)) (argsL := [(.int (own_i I_)), (.int (own_i (2 * I_)))]) (rest := [(.int (0 : Int32)), (.ref b2), (.int (0 : Int32)), (.ref b_)]) hown (wd_ hw 190 rfl) (wd_ hw 191 rfl) (wd_ hw 7 rfl) (wd_ hw 192 rfl) (by decide) (rm31_l l Z a0 hw [] (own_i I_) (own_i (2 * I_)) h2 n0 Z0 (fun q => absurd ((own_ilt (by omega) (by omega)).mp q) (by omega))) e2 (by rw [hml]; rfl) pd_4 rfl rfl i42_25 (by decide) 4 rfl (by decide) (by decide) (by decide) fun T3 v3 L3 X3 q3 => ?_
  obtain ⟨_, rfl, rfl, e3, N3⟩ := q3
  have N0 := Fr.app N0 N3
  show Gd p e below _ T3 (mkF m 28 #[.val (.ref b_), .val (.int (own_i (2 * I_))), .val (.ref b2)] [(.int (own_i I_)), (.int (0 : Int32)), (.ref b2), (.int (0 : Int32)), (.ref b_)])
  refine g_arraycopy X3 hx hby hZ hown (wd_ hw 193 rfl) (wd_ hw 196 rfl) (wd_ hw 194 rfl) (wd_ hw 195 rfl) e3 V V2 rfl (by decide) (by decide) (own_nn (by omega)) (by rw [own_z0, own_tc (n := I_) (by omega)]; omega) (by rw [own_z0, own_tc (n := I_) (by omega), own_tc (n := 2 * I_) (by omega)]; omega) (us := _) rfl (by rw [own_z0, own_tc (n := I_) (by omega), Nat.zero_add]; exact own_padl _ _ _) N0 g_b2 (by rw [hml]; rfl) i42_28 (by decide) 0 rfl (by decide) fun T4 h4 L4 X4 e4 N0 K4 V4 => ?_
  have K0 := K0.trans K4 (fun x hx => by simp at hx; subst hx; exact Or.inr sz_b2)
  have V := V.keep K4 (ninS ne_b__b2 nin0)
  have Z0 : n0 ≤ h4.size := Nat.le_trans Z0 K4.1
  show Gd p e below _ T4 (mkF m 31 #[.val (.ref b_), .val (.int (own_i (2 * I_))), .val (.ref b2)] [])
  refine g_aloadN X4 hx hby i42_31 rfl rfl ?_
  refine g_areturn X4 hx hby hret rfl (fun _ => rfl) hlk rfl i42_32 (by decide) (by decide) ?_
  rw [e4]
  exact ⟨_, rfl, b2, _, _, rfl, K0, V4, g_b2, sz_b2, N0⟩
theorem i43_0 : Ins1 jdk_65_method_123_code 0 (.iload_n 1) 1 1 := ⟨by decide +kernel, rfl⟩
theorem i43_1 : Ins1 jdk_65_method_123_code 1 (.aload_n 0) 1 2 := ⟨by decide +kernel, rfl⟩
theorem i43_2 : Ins1 jdk_65_method_123_code 2 (.arraylength) 1 3 := ⟨by decide +kernel, rfl⟩
theorem i43_3 : InsB jdk_65_method_123_code 3 (.if_icmp .ne 11) 11 6 14 := ⟨by decide +kernel, rfl, by decide, by decide⟩
theorem i43_14 : Ins1 jdk_65_method_123_code 14 (.iload_n 1) 1 15 := ⟨by decide +kernel, rfl⟩
theorem i43_15 : Ins1 jdk_65_method_123_code 15 (.newarray .int) 2 17 := ⟨by decide +kernel, rfl⟩
theorem i43_17 : Ins1 jdk_65_method_123_code 17 (.astore_n 2) 1 18 := ⟨by decide +kernel, rfl⟩
theorem i43_18 : Ins1 jdk_65_method_123_code 18 (.aload_n 0) 1 19 := ⟨by decide +kernel, rfl⟩
theorem i43_19 : Ins1 jdk_65_method_123_code 19 (.iconst 0) 1 20 := ⟨by decide +kernel, rfl⟩
theorem i43_20 : Ins1 jdk_65_method_123_code 20 (.aload_n 2) 1 21 := ⟨by decide +kernel, rfl⟩
theorem i43_21 : Ins1 jdk_65_method_123_code 21 (.iconst 0) 1 22 := ⟨by decide +kernel, rfl⟩
theorem i43_22 : Ins1 jdk_65_method_123_code 22 (.aload_n 0) 1 23 := ⟨by decide +kernel, rfl⟩
theorem i43_23 : Ins1 jdk_65_method_123_code 23 (.arraylength) 1 24 := ⟨by decide +kernel, rfl⟩
theorem i43_24 : Ins1 jdk_65_method_123_code 24 (.iload_n 1) 1 25 := ⟨by decide +kernel, rfl⟩
theorem i43_25 : Ins1 jdk_65_method_123_code 25 (.invokestatic 304) 3 28 := ⟨by decide +kernel, rfl⟩
theorem i43_28 : Ins1 jdk_65_method_123_code 28 (.invokestatic 150) 3 31 := ⟨by decide +kernel, rfl⟩
theorem i43_31 : Ins1 jdk_65_method_123_code 31 (.aload_n 2) 1 32 := ⟨by decide +kernel, rfl⟩
theorem i43_32 : Ins1 jdk_65_method_123_code 32 (.areturn) 1 33 := ⟨by decide +kernel, rfl⟩
theorem ef_43 (m : MethodId) (b_ : Addr) (p1 : Int32) : entryFrame m #[(.ref b_), (.int p1)] 3 = mkF m 0 #[.val (.ref b_), .val (.int p1), .unset] [] := by first | (simp [entryFrame, mkF, argsToLocals, Value.category]; done) | rfl
theorem rm43 (l : Launch) (Z : State) (a0 : Array Value) (hw : ∀ d ∈ tables_1, d.before a0 Z = true) (ws : List Jvm.Cond) (b_ : Addr) (p1 : Int32) (kc : ClassId) (vs : List Value) (I_ : Nat) (h0 : Heap) (n0 : Nat) (Z0 : n0 ≤ h0.size) (V : Arv Z h0 b_ kc .int (own_i I_) vs (.int (0 : Int32))) (hp1 : p1 = own_i (2 * I_)) (hi0 : 0 < I_) (hi1 : I_ ≤ 16) :
    Met1 l (⟨"java/util/Arrays", "copyOf", "([II)[I"⟩ : MethodName) jdk_65_method_123_code 3 (some (.array .int)) ws ({ frames := 1, cells := 1, slots := 32, locals := 24 } : Room) #[(.ref b_), (.int p1)] Z h0 (RV fun z h L => ∃ t kt vt, z = .ref t ∧ Keep h0 h [] ∧ Arv Z h t kt .int (own_i (2 * I_)) vt (.int (0 : Int32)) ∧ n0 ≤ t ∧ h0.size ≤ t ∧ Fr n0 L) := by
  refine met_of (plainFor_of_name pn_java_util_Arrays) ?_
  intro p e s m below meth c T0 X0 hx hby hml hZ hown hnm hret hlk e0 es
  have N0 := Fr.nil n0
  refine Gd.cast (ef_43 m b_ p1) ?_
  subst hp1
  have K0 : Keep h0 h0 [] := Keep.refl _ _
  refine g_iloadN X0 hx hby i43_0 rfl ?_
  refine g_aloadN X0 hx hby i43_1 rfl rfl ?_
  refine g_arraylength X0 hx hby hZ e0 V i43_2 ?_
  refine g_icmp_ne X0 hx hby i43_3 (fun c3_1 => ?_) (fun c3_1 => False.elim (absurd ((own_ieq (by omega) (by omega)).mp c3_1) (by omega)))
  refine g_iloadN X0 hx hby i43_14 rfl ?_
  refine g_newarray X0 hx hby hZ (ty := .int) rfl (wd_ hw 27 rfl) e0 i43_15 (own_nn (by omega)) 32 (by rw [own_tc (by omega)]; omega) (by decide) (by decide) (by decide) fun T2 h2 b2 k2 X2 e2 E2 hb2 V2 => ?_
  have ne_b__b2 : b_ ≠ b2 := Nat.ne_of_lt (Nat.lt_of_lt_of_le V.lt (Nat.le_of_eq hb2.symm))
  have g_b2 : n0 ≤ b2 := Nat.le_trans Z0 (Nat.le_of_eq hb2.symm)
  have V := V.ext E2
  have sz_b2 : h0.size ≤ b2 := Nat.le_trans K0.1 (Nat.le_of_eq hb2.symm)
  have K0 := K0.ext E2
  have Z0 : n0 ≤ h2.size := Nat.le_trans Z0 E2.1
  have V2 : Arv Z h2 b2 k2 .int (own_i (2 * I_)) [] (.int (0 : Int32)) := V2
  have V2 := V2.pad (pad_rep _ _ I_)
  refine g_astoreN X2 hx hby i43_17 rfl (l' := #[.val (.ref b_), .val (.int (own_i (2 * I_))), .val (.ref b2)]) rfl ?_
  refine g_aloadN X2 hx hby i43_18 rfl rfl ?_
  refine g_iconst X2 hx hby i43_19 (z := (0 : Int32)) (by decide) ?_
  refine g_aloadN X2 hx hby i43_20 rfl rfl ?_
  refine g_iconst X2 hx hby i43_21 (z := (0 : Int32)) (by decide) ?_
  refine g_aloadN X2 hx hby i43_22 rfl rfl ?_
  refine g_arraylength X2 hx hby hZ e2 V i43_23 ?_
  refine g_iloadN X2 hx hby i43_24 rfl ?_
  refine g_callS0 X2 hx hby hZ (y := (⟨"java/lang/Math", "min", "(II)I"⟩ : MethodName)) (argsL := [(.int (own_i I_)), (.int (own_i (2 * I_)))]) (rest := [(.int (0 : Int32)), (.ref b2), (.int (0 : Int32)), (.ref b_)]) hown (wd_ hw 190 rfl) (wd_ hw 191 rfl) (wd_ hw 7 rfl) (wd_ hw 192 rfl) (by decide) (rm31_l l Z a0 hw [] (own_i I_) (own_i (2 * I_)) h2 n0 Z0 (fun q => absurd ((own_ilt (by omega) (by omega)).mp q) (by omega))) e2 (by rw [hml]; rfl) pd_4 rfl rfl i43_25 (by decide) 4 rfl (by decide) (by decide) (by decide) fun T3 v3 L3 X3 q3 => ?_
  obtain ⟨_, rfl, rfl, e3, N3⟩ := q3
  have N0 := Fr.app N0 N3
  show Gd p e below _ T3 (mkF m 28 #[.val (.ref b_), .val (.int (own_i (2 * I_))), .val (.ref b2)] [(.int (own_i I_)), (.int (0 : Int32)), (.ref b2), (.int (0 : Int32)), (.ref b_)])
  refine g_arraycopy X3 hx hby hZ hown (wd_ hw 193 rfl) (wd_ hw 196 rfl) (wd_ hw 194 rfl) (wd_ hw 195 rfl) e3 V V2 rfl (by decide) (by decide) (own_nn (by omega)) (by rw [own_z0, own_tc (n := I_) (by omega)]; omega) (by rw [own_z0, own_tc (n := I_) (by omega), own_tc (n := 2 * I_) (by omega)]; omega) (us := _) rfl (by rw [own_z0, own_tc (n := I_) (by omega), Nat.zero_add]; exact own_padl _ _ _) N0 g_b2 (by rw [hml]; rfl) i43_28 (by decide) 0 rfl (by decide) fun T4 h4 L4 X4 e4 N0 K4 V4 => ?_
  have K0 := K0.trans K4 (fun x hx => by simp at hx; subst hx; exact Or.inr sz_b2)
  have V := V.keep K4 (ninS ne_b__b2 nin0)
  have Z0 : n0 ≤ h4.size := Nat.le_trans Z0 K4.1
  show Gd p e below _ T4 (mkF m 31 #[.val (.ref b_), .val (.int (own_i (2 * I_))), .val (.ref b2)] [])
  refine g_aloadN X4 hx hby i43_31 rfl rfl ?_
  refine g_areturn X4 hx hby hret rfl (fun _ => rfl) hlk rfl i43_32 (by decide) (by decide) ?_
  rw [e4]
  exact ⟨_, rfl, b2, _, _, rfl, K0, V4, g_b2, sz_b2, N0⟩
theorem i41_0 : Ins1 prog_32_method_24_code 0 (.aload_n 0) 1 1 := ⟨by decide +kernel, rfl⟩
theorem i41_1 : Ins1 prog_32_method_24_code 1 (.getfield 203) 3 4 := ⟨by decide +kernel, rfl⟩
theorem i41_4 : Ins1 prog_32_method_24_code 4 (.aload_n 0) 1 5 := ⟨by decide +kernel, rfl⟩
theorem i41_5 : Ins1 prog_32_method_24_code 5 (.getfield 31) 3 8 := ⟨by decide +kernel, rfl⟩
theorem i41_8 : Ins1 prog_32_method_24_code 8 (.arraylength) 1 9 := ⟨by decide +kernel, rfl⟩
theorem i41_9 : InsB prog_32_method_24_code 9 (.if_icmp .ne 37) 37 12 46 := ⟨by decide +kernel, rfl, by decide, by decide⟩
theorem i41_12 : Ins1 prog_32_method_24_code 12 (.aload_n 0) 1 13 := ⟨by decide +kernel, rfl⟩
theorem i41_13 : Ins1 prog_32_method_24_code 13 (.aload_n 0) 1 14 := ⟨by decide +kernel, rfl⟩
theorem i41_14 : Ins1 prog_32_method_24_code 14 (.getfield 31) 3 17 := ⟨by decide +kernel, rfl⟩
theorem i41_17 : Ins1 prog_32_method_24_code 17 (.iconst 2) 1 18 := ⟨by decide +kernel, rfl⟩
theorem i41_18 : Ins1 prog_32_method_24_code 18 (.aload_n 0) 1 19 := ⟨by decide +kernel, rfl⟩
theorem i41_19 : Ins1 prog_32_method_24_code 19 (.getfield 203) 3 22 := ⟨by decide +kernel, rfl⟩
theorem i41_22 : Ins1 prog_32_method_24_code 22 (.imul) 1 23 := ⟨by decide +kernel, rfl⟩
theorem i41_23 : Ins1 prog_32_method_24_code 23 (.invokestatic 248) 3 26 := ⟨by decide +kernel, rfl⟩
theorem i41_26 : Ins1 prog_32_method_24_code 26 (.putfield 31) 3 29 := ⟨by decide +kernel, rfl⟩
theorem i41_29 : Ins1 prog_32_method_24_code 29 (.aload_n 0) 1 30 := ⟨by decide +kernel, rfl⟩
theorem i41_30 : Ins1 prog_32_method_24_code 30 (.aload_n 0) 1 31 := ⟨by decide +kernel, rfl⟩
theorem i41_31 : Ins1 prog_32_method_24_code 31 (.getfield 35) 3 34 := ⟨by decide +kernel, rfl⟩
theorem i41_34 : Ins1 prog_32_method_24_code 34 (.iconst 2) 1 35 := ⟨by decide +kernel, rfl⟩
theorem i41_35 : Ins1 prog_32_method_24_code 35 (.aload_n 0) 1 36 := ⟨by decide +kernel, rfl⟩
theorem i41_36 : Ins1 prog_32_method_24_code 36 (.getfield 203) 3 39 := ⟨by decide +kernel, rfl⟩
theorem i41_39 : Ins1 prog_32_method_24_code 39 (.imul) 1 40 := ⟨by decide +kernel, rfl⟩
theorem i41_40 : Ins1 prog_32_method_24_code 40 (.invokestatic 254) 3 43 := ⟨by decide +kernel, rfl⟩
theorem i41_43 : Ins1 prog_32_method_24_code 43 (.putfield 35) 3 46 := ⟨by decide +kernel, rfl⟩
theorem i41_46 : Ins1 prog_32_method_24_code 46 (.aload_n 0) 1 47 := ⟨by decide +kernel, rfl⟩
theorem i41_47 : Ins1 prog_32_method_24_code 47 (.getfield 35) 3 50 := ⟨by decide +kernel, rfl⟩
theorem i41_50 : Ins1 prog_32_method_24_code 50 (.aload_n 0) 1 51 := ⟨by decide +kernel, rfl⟩
theorem i41_51 : Ins1 prog_32_method_24_code 51 (.getfield 203) 3 54 := ⟨by decide +kernel, rfl⟩
theorem i41_54 : Ins1 prog_32_method_24_code 54 (.iload_n 1) 1 55 := ⟨by decide +kernel, rfl⟩
theorem i41_55 : Ins1 prog_32_method_24_code 55 (.iastore) 1 56 := ⟨by decide +kernel, rfl⟩
theorem i41_56 : Ins1 prog_32_method_24_code 56 (.aload_n 0) 1 57 := ⟨by decide +kernel, rfl⟩
theorem i41_57 : Ins1 prog_32_method_24_code 57 (.getfield 31) 3 60 := ⟨by decide +kernel, rfl⟩
theorem i41_60 : Ins1 prog_32_method_24_code 60 (.aload_n 0) 1 61 := ⟨by decide +kernel, rfl⟩
theorem i41_61 : Ins1 prog_32_method_24_code 61 (.dup) 1 62 := ⟨by decide +kernel, rfl⟩
theorem i41_62 : Ins1 prog_32_method_24_code 62 (.getfield 203) 3 65 := ⟨by decide +kernel, rfl⟩
theorem i41_65 : Ins1 prog_32_method_24_code 65 (.dup_x1) 1 66 := ⟨by decide +kernel, rfl⟩
theorem i41_66 : Ins1 prog_32_method_24_code 66 (.iconst 1) 1 67 := ⟨by decide +kernel, rfl⟩
theorem i41_67 : Ins1 prog_32_method_24_code 67 (.iadd) 1 68 := ⟨by decide +kernel, rfl⟩
theorem i41_68 : Ins1 prog_32_method_24_code 68 (.putfield 203) 3 71 := ⟨by decide +kernel, rfl⟩
theorem i41_71 : Ins1 prog_32_method_24_code 71 (.lload_n 2) 1 72 := ⟨by decide +kernel, rfl⟩
theorem i41_72 : Ins1 prog_32_method_24_code 72 (.lastore) 1 73 := ⟨by decide +kernel, rfl⟩
theorem i41_73 : Ins1 prog_32_method_24_code 73 (.return_) 1 74 := ⟨by decide +kernel, rfl⟩
theorem ef_41_n (m : MethodId) (s_ : Addr) (p1 : Int32) (q2 : Int64) : entryFrame m #[(.ref s_), (.int p1), (.long q2)] 4 = mkF m 0 #[.val (.ref s_), .val (.int p1), .val (.long q2), .second] [] := by first | (simp [entryFrame, mkF, argsToLocals, Value.category]; done) | rfl
theorem rm41_n (l : Launch) (Z : State) (a0 : Array Value) (hw : ∀ d ∈ tables_1, d.before a0 Z = true) (ws : List Jvm.Cond) (s_ : Addr) (p1 : Int32) (q2 : Int64) (no_ : Addr) (bu ow od ub nl nc : Addr) (st en sc dp sk mx mi : Int32) (sl kl cl : Int64) (kq ku : ClassId) (vq vu : List Value) (I_ L_ : Nat) (h0 : Heap) (n0 : Nat) (Z0 : n0 ≤ h0.size) (SA_ : Sta Z Z.heap "com/example/ariel/ariel/cbor/CborSequence" "NOTHING" "[B" (.ref no_)) (SB_ : Sta Z Z.heap "com/example/ariel/ariel/cbor/CborSequence" "NO_LENGTHS" "[J" (.ref nl)) (SC_ : Sta Z Z.heap "com/example/ariel/ariel/cbor/CborSequence" "NO_CUTS" "[I" (.ref nc)) (O : Old Z n0 h0) (Q : own_seq Z h0 s_ [(.ref bu), (.ref ow), (.int st), (.int en), (.int sc), (.ref od), (.ref ub), (.int (own_i I_)), (.long sl), (.long kl), (.int sk), (.long cl), (.ref nl), (.int (0 : Int32)), (.ref nc), (.int (0 : Int32)), (.int (0 : Int32)), (.long (0 : Int64)), (.int (0 : Int32)), (.int mx), (.int mi), (.int (0 : Int32))]) (g_s_ : n0 ≤ s_) (Vq : Arv Z h0 od kq .long (own_i L_) vq (.long (0 : Int64))) (Vu : Arv Z h0 ub ku .int (own_i L_) vu (.int (0 : Int32))) (hsq : s_ ≠ od) (hsu : s_ ≠ ub) (hqu : od ≠ ub) (g_od : n0 ≤ od) (g_ub : n0 ≤ ub) (hlt : I_ < L_) (hL : L_ ≤ 64) :
    Met1 l (⟨"com/example/ariel/ariel/cbor/CborSequence", "open", "(IJ)V"⟩ : MethodName) prog_32_method_24_code 4 none ws ({ frames := 0, cells := 0, slots := 0, locals := 0 } : Room) #[(.ref s_), (.int p1), (.long q2)] Z h0 (RN fun h L => (∃ vq' vu', Keep h0 h [s_, od, ub] ∧ own_seq Z h s_ [(.ref bu), (.ref ow), (.int st), (.int en), (.int sc), (.ref od), (.ref ub), (.int (own_i (I_ + 1))), (.long sl), (.long kl), (.int sk), (.long cl), (.ref nl), (.int (0 : Int32)), (.ref nc), (.int (0 : Int32)), (.int (0 : Int32)), (.long (0 : Int64)), (.int (0 : Int32)), (.int mx), (.int mi), (.int (0 : Int32))] ∧ Arv Z h od kq .long (own_i L_) vq' (.long (0 : Int64)) ∧ Arv Z h ub ku .int (own_i L_) vu' (.int (0 : Int32)) ∧ vu'.getD I_ (.int (0 : Int32)) = .int p1) ∧ Fr n0 L) := by
  refine met_of (plainFor_of_name pn_com_example_ariel_ariel_cbor_CborSequence) ?_
  intro p e s m below meth c T0 X0 hx hby hml hZ hown hnm hret hlk e0 es
  have N0 := Fr.nil n0
  refine Gd.cast (ef_41_n m s_ p1 q2) ?_
  have K0 : Keep h0 h0 [s_, od, ub] := Keep.refl _ _
  refine g_aloadN X0 hx hby i41_0 rfl rfl ?_
  refine g_getfield X0 hx hby hZ hown (host := "") (Or.inl (wd_ hw 89 rfl)) Via.refl e0 (own_at Q 7 (by decide) (v := (.int (own_i I_))) rfl) i41_1 fun T1 X1 e1 => ?_
  refine g_aloadN X1 hx hby i41_4 rfl rfl ?_
  refine g_getfield X1 hx hby hZ hown (host := "") (Or.inl (wd_ hw 25 rfl)) Via.refl e1 (own_at Q 5 (by decide) (v := (.ref od)) rfl) i41_5 fun T2 X2 e2 => ?_
  refine g_arraylength X2 hx hby hZ e2 Vq i41_8 ?_
  refine g_icmp_ne X2 hx hby i41_9 (fun c9_3 => ?_) (fun c9_3 => False.elim (absurd ((own_ieq (by omega) (by omega)).mp c9_3) (by omega)))
  refine g_aloadN X2 hx hby i41_46 rfl rfl ?_
  refine g_getfield X2 hx hby hZ hown (host := "") (Or.inl (wd_ hw 28 rfl)) Via.refl e2 (own_at Q 6 (by decide) (v := (.ref ub)) rfl) i41_47 fun T4 X4 e4 => ?_
  refine g_aloadN X4 hx hby i41_50 rfl rfl ?_
  refine g_getfield X4 hx hby hZ hown (host := "") (Or.inl (wd_ hw 89 rfl)) Via.refl e4 (own_at Q 7 (by decide) (v := (.int (own_i I_))) rfl) i41_51 fun T5 X5 e5 => ?_
  refine g_iloadN X5 hx hby i41_54 rfl ?_
  have Vu := Vu.pad (pad_rep _ _ (I_ + 1))
  refine g_iastore X5 hx hby hZ e5 Vu (i := I_) (own_nn (by omega)) ((own_ilt (by omega) (by omega)).mpr hlt) (own_tc (by omega)) (Nat.lt_of_lt_of_le (Nat.lt_succ_self _) (own_padl _ _ _)) i41_55 fun T7 h7 X7 e7 W7 Vu => ?_
  have Q := Q.other W7 hsu
  have Vq := Vq.other W7 hqu
  have O := O.wr W7 g_ub
  have Z0 : n0 ≤ h7.size := Nat.le_trans Z0 (Nat.le_of_eq W7.size.symm)
  have N0 := Fr.snoc X7 N0 g_ub
  have K0 := K0.wr W7 (Or.inl (by simp))
  refine g_aloadN X7 hx hby i41_56 rfl rfl ?_
  refine g_getfield X7 hx hby hZ hown (host := "") (Or.inl (wd_ hw 25 rfl)) Via.refl e7 (own_at Q 5 (by decide) (v := (.ref od)) rfl) i41_57 fun T8 X8 e8 => ?_
  refine g_aloadN X8 hx hby i41_60 rfl rfl ?_
  refine g_dup X8 hx hby i41_61 rfl ?_
  refine g_getfield X8 hx hby hZ hown (host := "") (Or.inl (wd_ hw 89 rfl)) Via.refl e8 (own_at Q 7 (by decide) (v := (.int (own_i I_))) rfl) i41_62 fun T9 X9 e9 => ?_
  refine g_dup_x1 X9 hx hby i41_65 rfl rfl ?_
  refine g_iconst X9 hx hby i41_66 (z := (1 : Int32)) (by decide) ?_
  refine g_iadd X9 hx hby i41_67 ?_
  rw [own_isucc]
  refine g_putfield X9 hx hby hZ hown (host := "") (Or.inl (wd_ hw 89 rfl)) Via.refl e9 (own_at Q 7 (by decide) (v := (.int (own_i I_))) rfl) Q.1 (Or.inl (wd_ hw 90 rfl)) (wd_ hw 3 rfl) (ty := .int) (by decide) rfl rfl i41_68 fun T10 h10 X10 e10 W10 => ?_
  have Q : own_seq Z h10 s_ [(.ref bu), (.ref ow), (.int st), (.int en), (.int sc), (.ref od), (.ref ub), (.int (own_i (I_ + 1))), (.long sl), (.long kl), (.int sk), (.long cl), (.ref nl), (.int (0 : Int32)), (.ref nc), (.int (0 : Int32)), (.int (0 : Int32)), (.long (0 : Int64)), (.int (0 : Int32)), (.int mx), (.int mi), (.int (0 : Int32))] := Q.put hw (i := 7) (by decide) W10
  have Vq := Vq.other W10 (Ne.symm hsq)
  have Vu := Vu.other W10 (Ne.symm hsu)
  have O := O.wr W10 g_s_
  have Z0 : n0 ≤ h10.size := Nat.le_trans Z0 (Nat.le_of_eq W10.size.symm)
  have N0 := Fr.snoc X10 N0 g_s_
  have K0 := K0.wr W10 (Or.inl (by simp))
  refine g_lloadN X10 hx hby i41_71 rfl ?_
  have Vq := Vq.pad (pad_rep _ _ (I_ + 1))
  refine g_lastore X10 hx hby hZ e10 Vq (i := I_) (own_nn (by omega)) ((own_ilt (by omega) (by omega)).mpr hlt) (own_tc (by omega)) (Nat.lt_of_lt_of_le (Nat.lt_succ_self _) (own_padl _ _ _)) i41_72 fun T12 h12 X12 e12 W12 Vq => ?_
  have Q := Q.other W12 hsq
  have Vu := Vu.other W12 (Ne.symm hqu)
  have O := O.wr W12 g_od
  have Z0 : n0 ≤ h12.size := Nat.le_trans Z0 (Nat.le_of_eq W12.size.symm)
  have N0 := Fr.snoc X12 N0 g_od
  have K0 := K0.wr W12 (Or.inl (by simp))
  refine g_return X12 hx hby hret hlk i41_73 (by decide) (by decide) ?_
  rw [e12]
  exact ⟨rfl, ⟨_, _, K0, Q, Vq, Vu, own_getset _ _ _ (Nat.lt_of_lt_of_le (Nat.lt_succ_self _) (own_padl _ _ _))⟩, N0⟩
theorem pd_5 : parseMethodDescriptor "([JI)[J" = some ⟨[(.array .long), .int], some (.array .long)⟩ := by decide +kernel
theorem pd_6 : parseMethodDescriptor "([II)[I" = some ⟨[(.array .int), .int], some (.array .int)⟩ := by decide +kernel
theorem rm41_g (l : Launch) (Z : State) (a0 : Array Value) (hw : ∀ d ∈ tables_1, d.before a0 Z = true) (ws : List Jvm.Cond) (s_ : Addr) (p1 : Int32) (q2 : Int64) (no_ : Addr) (bu ow od ub nl nc : Addr) (st en sc dp sk mx mi : Int32) (sl kl cl : Int64) (kq ku : ClassId) (vq vu : List Value) (I_ : Nat) (h0 : Heap) (n0 : Nat) (Z0 : n0 ≤ h0.size) (SA_ : Sta Z Z.heap "com/example/ariel/ariel/cbor/CborSequence" "NOTHING" "[B" (.ref no_)) (SB_ : Sta Z Z.heap "com/example/ariel/ariel/cbor/CborSequence" "NO_LENGTHS" "[J" (.ref nl)) (SC_ : Sta Z Z.heap "com/example/ariel/ariel/cbor/CborSequence" "NO_CUTS" "[I" (.ref nc)) (O : Old Z n0 h0) (Q : own_seq Z h0 s_ [(.ref bu), (.ref ow), (.int st), (.int en), (.int sc), (.ref od), (.ref ub), (.int (own_i I_)), (.long sl), (.long kl), (.int sk), (.long cl), (.ref nl), (.int (0 : Int32)), (.ref nc), (.int (0 : Int32)), (.int (0 : Int32)), (.long (0 : Int64)), (.int (0 : Int32)), (.int mx), (.int mi), (.int (0 : Int32))]) (g_s_ : n0 ≤ s_) (Vq : Arv Z h0 od kq .long (own_i I_) vq (.long (0 : Int64))) (Vu : Arv Z h0 ub ku .int (own_i I_) vu (.int (0 : Int32))) (hsq : s_ ≠ od) (hsu : s_ ≠ ub) (hqu : od ≠ ub) (hi0 : 0 < I_) (hi1 : I_ ≤ 16) :
    Met1 l (⟨"com/example/ariel/ariel/cbor/CborSequence", "open", "(IJ)V"⟩ : MethodName) prog_32_method_24_code 4 none ws ({ frames := 2, cells := 2, slots := 64, locals := 44 } : Room) #[(.ref s_), (.int p1), (.long q2)] Z h0 (RN fun h L => (∃ od' ub' kq' ku' vq' vu', Keep h0 h [s_] ∧ own_seq Z h s_ [(.ref bu), (.ref ow), (.int st), (.int en), (.int sc), (.ref od'), (.ref ub'), (.int (own_i (I_ + 1))), (.long sl), (.long kl), (.int sk), (.long cl), (.ref nl), (.int (0 : Int32)), (.ref nc), (.int (0 : Int32)), (.int (0 : Int32)), (.long (0 : Int64)), (.int (0 : Int32)), (.int mx), (.int mi), (.int (0 : Int32))] ∧ Arv Z h od' kq' .long (own_i (2 * I_)) vq' (.long (0 : Int64)) ∧ Arv Z h ub' ku' .int (own_i (2 * I_)) vu' (.int (0 : Int32)) ∧ vu'.getD I_ (.int (0 : Int32)) = .int p1 ∧ n0 ≤ od' ∧ n0 ≤ ub' ∧ h0.size ≤ od' ∧ h0.size ≤ ub' ∧ od' ≠ ub') ∧ Fr n0 L) := by
  refine met_of (plainFor_of_name pn_com_example_ariel_ariel_cbor_CborSequence) ?_
  intro p e s m below meth c T0 X0 hx hby hml hZ hown hnm hret hlk e0 es
  have N0 := Fr.nil n0
  refine Gd.cast (ef_41_n m s_ p1 q2) ?_
  have K0 : Keep h0 h0 [s_] := Keep.refl _ _
  refine g_aloadN X0 hx hby i41_0 rfl rfl ?_
  refine g_getfield X0 hx hby hZ hown (host := "") (Or.inl (wd_ hw 89 rfl)) Via.refl e0 (own_at Q 7 (by decide) (v := (.int (own_i I_))) rfl) i41_1 fun T1 X1 e1 => ?_
  refine g_aloadN X1 hx hby i41_4 rfl rfl ?_
  refine g_getfield X1 hx hby hZ hown (host := "") (Or.inl (wd_ hw 25 rfl)) Via.refl e1 (own_at Q 5 (by decide) (v := (.ref od)) rfl) i41_5 fun T2 X2 e2 => ?_
  refine g_arraylength X2 hx hby hZ e2 Vq i41_8 ?_
  refine g_icmp_ne X2 hx hby i41_9 (fun c9_3 => False.elim (c9_3 rfl)) fun c9_3 => ?_
  refine g_aloadN X2 hx hby i41_12 rfl rfl ?_
  refine g_aloadN X2 hx hby i41_13 rfl rfl ?_
  refine g_getfield X2 hx hby hZ hown (host := "") (Or.inl (wd_ hw 25 rfl)) Via.refl e2 (own_at Q 5 (by decide) (v := (.ref od)) rfl) i41_14 fun T4 X4 e4 => ?_
  refine g_iconst X4 hx hby i41_17 (z := (2 : Int32)) (by decide) ?_
  refine g_aloadN X4 hx hby i41_18 rfl rfl ?_
  refine g_getfield X4 hx hby hZ hown (host := "") (Or.inl (wd_ hw 89 rfl)) Via.refl e4 (own_at Q 7 (by decide) (v := (.int (own_i I_))) rfl) i41_19 fun T5 X5 e5 => ?_
  refine g_imul X5 hx hby i41_22 ?_
  rw [own_imul2]
  refine g_callS0 X5 hx hby hZ (y := (⟨"java/util/Arrays", "copyOf", "([JI)[J"⟩ : MethodName)) (argsL := [(.ref od), (.int (own_i (2 * I_)))]) (rest := [(.ref s_)]) hown (wd_ hw 250 rfl) (wd_ hw 251 rfl) (wd_ hw 182 rfl) (wd_ hw 252 rfl) (by decide) (rm42 l Z a0 hw [] od (own_i (2 * I_)) kq _ I_ h0 n0 Z0 Vq rfl hi0 hi1) e5 (by rw [hml]; rfl) pd_5 rfl rfl i41_23 (by decide) 1 rfl (by decide) (by decide) (by decide) fun T6 v6 L6 X6 q6 => ?_
  obtain ⟨_, rfl, t6, kt6, vt6, rfl, K6, V6, g_t6, s6, N6⟩ := q6
  have N0 := Fr.app N0 N6
  have ne_s__t6 : s_ ≠ t6 := Nat.ne_of_lt (Nat.lt_of_lt_of_le Q.lt s6)
  have ne_od_t6 : od ≠ t6 := Nat.ne_of_lt (Nat.lt_of_lt_of_le Vq.lt s6)
  have ne_ub_t6 : ub ≠ t6 := Nat.ne_of_lt (Nat.lt_of_lt_of_le Vu.lt s6)
  have sz_t6 : h0.size ≤ t6 := Nat.le_trans K0.1 s6
  have K0 := K0.trans K6 (fun x hx => nomatch hx)
  have Q := Q.keep K6 nin0
  have Vq := Vq.keep K6 nin0
  have Vu := Vu.keep K6 nin0
  have O := O.keep K6 all0
  have Z0 : n0 ≤ T6.heap.size := Nat.le_trans Z0 K6.1
  show Gd p e below _ T6 (mkF m 26 #[.val (.ref s_), .val (.int p1), .val (.long q2), .second] [(.ref t6), (.ref s_)])
  refine g_putfield X6 hx hby hZ hown (host := "") (Or.inl (wd_ hw 25 rfl)) Via.refl rfl (own_at Q 5 (by decide) (v := (.ref od)) rfl) Q.1 (Or.inl (wd_ hw 26 rfl)) (wd_ hw 3 rfl) (ty := (.array .long)) (by decide) rfl rfl i41_26 fun T7 h7 X7 e7 W7 => ?_
  have Q : own_seq Z h7 s_ [(.ref bu), (.ref ow), (.int st), (.int en), (.int sc), (.ref t6), (.ref ub), (.int (own_i I_)), (.long sl), (.long kl), (.int sk), (.long cl), (.ref nl), (.int (0 : Int32)), (.ref nc), (.int (0 : Int32)), (.int (0 : Int32)), (.long (0 : Int64)), (.int (0 : Int32)), (.int mx), (.int mi), (.int (0 : Int32))] := Q.put hw (i := 5) (by decide) W7
  have Vq := Vq.other W7 (Ne.symm hsq)
  have Vu := Vu.other W7 (Ne.symm hsu)
  have V6 := V6.other W7 (Ne.symm ne_s__t6)
  have O := O.wr W7 g_s_
  have Z0 : n0 ≤ h7.size := Nat.le_trans Z0 (Nat.le_of_eq W7.size.symm)
  have N0 := Fr.snoc X7 N0 g_s_
  have K0 := K0.wr W7 (Or.inl (by simp))
  refine g_aloadN X7 hx hby i41_29 rfl rfl ?_
  refine g_aloadN X7 hx hby i41_30 rfl rfl ?_
  refine g_getfield X7 hx hby hZ hown (host := "") (Or.inl (wd_ hw 28 rfl)) Via.refl e7 (own_at Q 6 (by decide) (v := (.ref ub)) rfl) i41_31 fun T8 X8 e8 => ?_
  refine g_iconst X8 hx hby i41_34 (z := (2 : Int32)) (by decide) ?_
  refine g_aloadN X8 hx hby i41_35 rfl rfl ?_
  refine g_getfield X8 hx hby hZ hown (host := "") (Or.inl (wd_ hw 89 rfl)) Via.refl e8 (own_at Q 7 (by decide) (v := (.int (own_i I_))) rfl) i41_36 fun T9 X9 e9 => ?_
  refine g_imul X9 hx hby i41_39 ?_
  rw [own_imul2]
  refine g_callS0 X9 hx hby hZ (y := (⟨"java/util/Arrays", "copyOf", "([II)[I"⟩ : MethodName)) (argsL := [(.ref ub), (.int (own_i (2 * I_)))]) (rest := [(.ref s_)]) hown (wd_ hw 253 rfl) (wd_ hw 254 rfl) (wd_ hw 182 rfl) (wd_ hw 255 rfl) (by decide) (rm43 l Z a0 hw [] ub (own_i (2 * I_)) ku _ I_ h7 n0 Z0 Vu rfl hi0 hi1) e9 (by rw [hml]; rfl) pd_6 rfl rfl i41_40 (by decide) 1 rfl (by decide) (by decide) (by decide) fun T10 v10 L10 X10 q10 => ?_
  obtain ⟨_, rfl, t10, kt10, vt10, rfl, K10, V10, g_t10, s10, N10⟩ := q10
  have N0 := Fr.app N0 N10
  have ne_s__t10 : s_ ≠ t10 := Nat.ne_of_lt (Nat.lt_of_lt_of_le Q.lt s10)
  have ne_od_t10 : od ≠ t10 := Nat.ne_of_lt (Nat.lt_of_lt_of_le Vq.lt s10)
  have ne_ub_t10 : ub ≠ t10 := Nat.ne_of_lt (Nat.lt_of_lt_of_le Vu.lt s10)
  have ne_t6_t10 : t6 ≠ t10 := Nat.ne_of_lt (Nat.lt_of_lt_of_le V6.lt s10)
  have sz_t10 : h0.size ≤ t10 := Nat.le_trans K0.1 s10
  have K0 := K0.trans K10 (fun x hx => nomatch hx)
  have Q := Q.keep K10 nin0
  have Vq := Vq.keep K10 nin0
  have Vu := Vu.keep K10 nin0
  have V6 := V6.keep K10 nin0
  have O := O.keep K10 all0
  have Z0 : n0 ≤ T10.heap.size := Nat.le_trans Z0 K10.1
  show Gd p e below _ T10 (mkF m 43 #[.val (.ref s_), .val (.int p1), .val (.long q2), .second] [(.ref t10), (.ref s_)])
  refine g_putfield X10 hx hby hZ hown (host := "") (Or.inl (wd_ hw 28 rfl)) Via.refl rfl (own_at Q 6 (by decide) (v := (.ref ub)) rfl) Q.1 (Or.inl (wd_ hw 29 rfl)) (wd_ hw 3 rfl) (ty := (.array .int)) (by decide) rfl rfl i41_43 fun T11 h11 X11 e11 W11 => ?_
  have Q : own_seq Z h11 s_ [(.ref bu), (.ref ow), (.int st), (.int en), (.int sc), (.ref t6), (.ref t10), (.int (own_i I_)), (.long sl), (.long kl), (.int sk), (.long cl), (.ref nl), (.int (0 : Int32)), (.ref nc), (.int (0 : Int32)), (.int (0 : Int32)), (.long (0 : Int64)), (.int (0 : Int32)), (.int mx), (.int mi), (.int (0 : Int32))] := Q.put hw (i := 6) (by decide) W11
  have Vq := Vq.other W11 (Ne.symm hsq)
  have Vu := Vu.other W11 (Ne.symm hsu)
  have V6 := V6.other W11 (Ne.symm ne_s__t6)
  have V10 := V10.other W11 (Ne.symm ne_s__t10)
  have O := O.wr W11 g_s_
  have Z0 : n0 ≤ h11.size := Nat.le_trans Z0 (Nat.le_of_eq W11.size.symm)
  have N0 := Fr.snoc X11 N0 g_s_
  have K0 := K0.wr W11 (Or.inl (by simp))
  refine g_aloadN X11 hx hby i41_46 rfl rfl ?_
  refine g_getfield X11 hx hby hZ hown (host := "") (Or.inl (wd_ hw 28 rfl)) Via.refl e11 (own_at Q 6 (by decide) (v := (.ref t10)) rfl) i41_47 fun T12 X12 e12 => ?_
  refine g_aloadN X12 hx hby i41_50 rfl rfl ?_
  refine g_getfield X12 hx hby hZ hown (host := "") (Or.inl (wd_ hw 89 rfl)) Via.refl e12 (own_at Q 7 (by decide) (v := (.int (own_i I_))) rfl) i41_51 fun T13 X13 e13 => ?_
  refine g_iloadN X13 hx hby i41_54 rfl ?_
  have V10 := V10.pad (pad_rep _ _ (I_ + 1))
  refine g_iastore X13 hx hby hZ e13 V10 (i := I_) (own_nn (by omega)) ((own_ilt (by omega) (by omega)).mpr (by omega)) (own_tc (by omega)) (Nat.lt_of_lt_of_le (Nat.lt_succ_self _) (own_padl _ _ _)) i41_55 fun T15 h15 X15 e15 W15 V10 => ?_
  have Q := Q.other W15 ne_s__t10
  have Vq := Vq.other W15 ne_od_t10
  have Vu := Vu.other W15 ne_ub_t10
  have V6 := V6.other W15 ne_t6_t10
  have O := O.wr W15 g_t10
  have Z0 : n0 ≤ h15.size := Nat.le_trans Z0 (Nat.le_of_eq W15.size.symm)
  have N0 := Fr.snoc X15 N0 g_t10
  have K0 := K0.wr W15 (Or.inr sz_t10)
  refine g_aloadN X15 hx hby i41_56 rfl rfl ?_
  refine g_getfield X15 hx hby hZ hown (host := "") (Or.inl (wd_ hw 25 rfl)) Via.refl e15 (own_at Q 5 (by decide) (v := (.ref t6)) rfl) i41_57 fun T16 X16 e16 => ?_
  refine g_aloadN X16 hx hby i41_60 rfl rfl ?_
  refine g_dup X16 hx hby i41_61 rfl ?_
  refine g_getfield X16 hx hby hZ hown (host := "") (Or.inl (wd_ hw 89 rfl)) Via.refl e16 (own_at Q 7 (by decide) (v := (.int (own_i I_))) rfl) i41_62 fun T17 X17 e17 => ?_
  refine g_dup_x1 X17 hx hby i41_65 rfl rfl ?_
  refine g_iconst X17 hx hby i41_66 (z := (1 : Int32)) (by decide) ?_
  refine g_iadd X17 hx hby i41_67 ?_
  rw [own_isucc]
  refine g_putfield X17 hx hby hZ hown (host := "") (Or.inl (wd_ hw 89 rfl)) Via.refl e17 (own_at Q 7 (by decide) (v := (.int (own_i I_))) rfl) Q.1 (Or.inl (wd_ hw 90 rfl)) (wd_ hw 3 rfl) (ty := .int) (by decide) rfl rfl i41_68 fun T18 h18 X18 e18 W18 => ?_
  have Q : own_seq Z h18 s_ [(.ref bu), (.ref ow), (.int st), (.int en), (.int sc), (.ref t6), (.ref t10), (.int (own_i (I_ + 1))), (.long sl), (.long kl), (.int sk), (.long cl), (.ref nl), (.int (0 : Int32)), (.ref nc), (.int (0 : Int32)), (.int (0 : Int32)), (.long (0 : Int64)), (.int (0 : Int32)), (.int mx), (.int mi), (.int (0 : Int32))] := Q.put hw (i := 7) (by decide) W18
  have Vq := Vq.other W18 (Ne.symm hsq)
  have Vu := Vu.other W18 (Ne.symm hsu)
  have V6 := V6.other W18 (Ne.symm ne_s__t6)
  have V10 := V10.other W18 (Ne.symm ne_s__t10)
  have O := O.wr W18 g_s_
  have Z0 : n0 ≤ h18.size := Nat.le_trans Z0 (Nat.le_of_eq W18.size.symm)
  have N0 := Fr.snoc X18 N0 g_s_
  have K0 := K0.wr W18 (Or.inl (by simp))
  refine g_lloadN X18 hx hby i41_71 rfl ?_
  have V6 := V6.pad (pad_rep _ _ (I_ + 1))
  refine g_lastore X18 hx hby hZ e18 V6 (i := I_) (own_nn (by omega)) ((own_ilt (by omega) (by omega)).mpr (by omega)) (own_tc (by omega)) (Nat.lt_of_lt_of_le (Nat.lt_succ_self _) (own_padl _ _ _)) i41_72 fun T20 h20 X20 e20 W20 V6 => ?_
  have Q := Q.other W20 ne_s__t6
  have Vq := Vq.other W20 ne_od_t6
  have Vu := Vu.other W20 ne_ub_t6
  have V10 := V10.other W20 (Ne.symm ne_t6_t10)
  have O := O.wr W20 g_t6
  have Z0 : n0 ≤ h20.size := Nat.le_trans Z0 (Nat.le_of_eq W20.size.symm)
  have N0 := Fr.snoc X20 N0 g_t6
  have K0 := K0.wr W20 (Or.inr sz_t6)
  refine g_return X20 hx hby hret hlk i41_73 (by decide) (by decide) ?_
  rw [e20]
  exact ⟨rfl, ⟨t6, t10, _, _, _, _, K0, Q, V6, V10, own_getset _ _ _ (Nat.lt_of_lt_of_le (Nat.lt_succ_self _) (own_padl _ _ _)), g_t6, g_t10, sz_t6, sz_t10, ne_t6_t10⟩, N0⟩
theorem i27_0 : Ins1 jdk_35_method_42_code 0 (.lload_n 0) 1 1 := ⟨by decide +kernel, rfl⟩
theorem i27_1 : Ins1 jdk_35_method_42_code 1 (.lload_n 2) 1 2 := ⟨by decide +kernel, rfl⟩
theorem i27_2 : Ins1 jdk_35_method_42_code 2 (.lcmp) 1 3 := ⟨by decide +kernel, rfl⟩
theorem i27_3 : InsB jdk_35_method_42_code 3 (.ifCond .ge 7) 7 6 10 := ⟨by decide +kernel, rfl, by decide, by decide⟩
theorem i27_6 : Ins1 jdk_35_method_42_code 6 (.iconst (-1)) 1 7 := ⟨by decide +kernel, rfl⟩
theorem i27_7 : InsB jdk_35_method_42_code 7 (.goto 14) 14 10 21 := ⟨by decide +kernel, rfl, by decide, by decide⟩
theorem i27_10 : Ins1 jdk_35_method_42_code 10 (.lload_n 0) 1 11 := ⟨by decide +kernel, rfl⟩
theorem i27_11 : Ins1 jdk_35_method_42_code 11 (.lload_n 2) 1 12 := ⟨by decide +kernel, rfl⟩
theorem i27_12 : Ins1 jdk_35_method_42_code 12 (.lcmp) 1 13 := ⟨by decide +kernel, rfl⟩
theorem i27_13 : InsB jdk_35_method_42_code 13 (.ifCond .ne 7) 7 16 20 := ⟨by decide +kernel, rfl, by decide, by decide⟩
theorem i27_16 : Ins1 jdk_35_method_42_code 16 (.iconst 0) 1 17 := ⟨by decide +kernel, rfl⟩
theorem i27_17 : InsB jdk_35_method_42_code 17 (.goto 4) 4 20 21 := ⟨by decide +kernel, rfl, by decide, by decide⟩
theorem i27_20 : Ins1 jdk_35_method_42_code 20 (.iconst 1) 1 21 := ⟨by decide +kernel, rfl⟩
theorem i27_21 : Ins1 jdk_35_method_42_code 21 (.ireturn) 1 22 := ⟨by decide +kernel, rfl⟩
theorem pn_java_lang_Long : plainName "java/lang/Long" = true := by first | (simp [plainName, overriddenIn]; done) | decide +kernel
theorem ef_27 (m : MethodId) (q0 : Int64) (q1 : Int64) : entryFrame m #[(.long q0), (.long q1)] 4 = mkF m 0 #[.val (.long q0), .second, .val (.long q1), .second] [] := by first | (simp [entryFrame, mkF, argsToLocals, Value.category]; done) | rfl
theorem rm27 (l : Launch) (Z : State) (a0 : Array Value) (hw : ∀ d ∈ tables_1, d.before a0 Z = true) (ws : List Jvm.Cond) (q0 : Int64) (q1 : Int64)  (h0 : Heap) (n0 : Nat) (Z0 : n0 ≤ h0.size)  :
    Met1 l (⟨"java/lang/Long", "compare", "(JJ)I"⟩ : MethodName) jdk_35_method_42_code 4 (some .int) ws ({ frames := 0, cells := 0, slots := 0, locals := 0 } : Room) #[(.long q0), (.long q1)] Z h0 (RV fun vv h L => ∃ r, vv = .int r ∧ ((q0 < q1 ∧ r = -1) ∨ (¬ q0 < q1 ∧ q0 = q1 ∧ r = 0) ∨ (¬ q0 < q1 ∧ ¬ q0 = q1 ∧ r = 1)) ∧ h = h0 ∧ Fr n0 L) := by
  refine met_of (plainFor_of_name pn_java_lang_Long) ?_
  intro p e s m below meth c T0 X0 hx hby hml hZ hown hnm hret hlk e0 es
  have N0 := Fr.nil n0
  refine Gd.cast (ef_27 m q0 q1) ?_
  refine g_lloadN X0 hx hby i27_0 rfl ?_
  refine g_lloadN X0 hx hby i27_1 rfl ?_
  refine g_lcmp_ge X0 hx hby i27_2 i27_3 (fun c2_1 => ?_) (fun c2_1 => ?_)
  · refine g_lloadN X0 hx hby i27_10 rfl ?_
    refine g_lloadN X0 hx hby i27_11 rfl ?_
    refine g_lcmp_ne X0 hx hby i27_12 i27_13 (fun c12_2 => ?_) (fun c12_2 => ?_)
    · refine g_iconst X0 hx hby i27_20 (z := (1 : Int32)) (by decide) ?_
      refine g_ireturn X0 hx hby hret hlk i27_21 (by decide) (by decide) ?_
      exact ⟨_, rfl, _, rfl, Or.inr (Or.inr ⟨c2_1, c12_2, rfl⟩), e0, N0⟩
    · refine g_iconst X0 hx hby i27_16 (z := (0 : Int32)) (by decide) ?_
      refine g_goto X0 hx hby i27_17 ?_
      refine g_ireturn X0 hx hby hret hlk i27_21 (by decide) (by decide) ?_
      exact ⟨_, rfl, _, rfl, Or.inr (Or.inl ⟨c2_1, c12_2, rfl⟩), e0, N0⟩
  · refine g_iconst X0 hx hby i27_6 (z := (-1 : Int32)) (by decide) ?_
    refine g_goto X0 hx hby i27_7 ?_
    refine g_ireturn X0 hx hby hret hlk i27_21 (by decide) (by decide) ?_
    exact ⟨_, rfl, _, rfl, Or.inl ⟨c2_1, rfl⟩, e0, N0⟩
theorem i26_0 : Ins1 jdk_35_method_43_code 0 (.lload_n 0) 1 1 := ⟨by decide +kernel, rfl⟩
theorem i26_1 : Ins1 jdk_35_method_43_code 1 (.ldc2_w 168) 3 4 := ⟨by decide +kernel, rfl⟩
theorem i26_4 : Ins1 jdk_35_method_43_code 4 (.ladd) 1 5 := ⟨by decide +kernel, rfl⟩
theorem i26_5 : Ins1 jdk_35_method_43_code 5 (.lload_n 2) 1 6 := ⟨by decide +kernel, rfl⟩
theorem i26_6 : Ins1 jdk_35_method_43_code 6 (.ldc2_w 168) 3 9 := ⟨by decide +kernel, rfl⟩
theorem i26_9 : Ins1 jdk_35_method_43_code 9 (.ladd) 1 10 := ⟨by decide +kernel, rfl⟩
theorem i26_10 : Ins1 jdk_35_method_43_code 10 (.invokestatic 302) 3 13 := ⟨by decide +kernel, rfl⟩
theorem i26_13 : Ins1 jdk_35_method_43_code 13 (.ireturn) 1 14 := ⟨by decide +kernel, rfl⟩
theorem ef_26 (m : MethodId) (q0 : Int64) (q1 : Int64) : entryFrame m #[(.long q0), (.long q1)] 4 = mkF m 0 #[.val (.long q0), .second, .val (.long q1), .second] [] := by first | (simp [entryFrame, mkF, argsToLocals, Value.category]; done) | rfl
theorem pd_7 : parseMethodDescriptor "(JJ)I" = some ⟨[.long, .long], some .int⟩ := by decide +kernel
theorem rm26 (l : Launch) (Z : State) (a0 : Array Value) (hw : ∀ d ∈ tables_1, d.before a0 Z = true) (ws : List Jvm.Cond) (q0 : Int64) (q1 : Int64) (X_ Y_ : Nat) (h0 : Heap) (n0 : Nat) (Z0 : n0 ≤ h0.size) (h1 : q0 = own_l X_) (h2 : q1 = own_l Y_) (hX : X_ < 2147483648) (hY : Y_ < 2147483648) :
    Met1 l (⟨"java/lang/Long", "compareUnsigned", "(JJ)I"⟩ : MethodName) jdk_35_method_43_code 4 (some .int) ws ({ frames := 1, cells := 0, slots := 0, locals := 15 } : Room) #[(.long q0), (.long q1)] Z h0 (RV fun vv h L => vv = .int (own_c X_ Y_) ∧ h = h0 ∧ Fr n0 L) := by
  refine met_of (plainFor_of_name pn_java_lang_Long) ?_
  intro p e s m below meth c T0 X0 hx hby hml hZ hown hnm hret hlk e0 es
  have N0 := Fr.nil n0
  refine Gd.cast (ef_26 m q0 q1) ?_
  subst h1
  subst h2
  refine g_lloadN X0 hx hby i26_0 rfl ?_
  refine g_ldc2Long X0 hx hby hZ hown (wd_ hw 176 rfl) i26_1 ?_
  refine g_ladd X0 hx hby i26_4 ?_
  refine g_lloadN X0 hx hby i26_5 rfl ?_
  refine g_ldc2Long X0 hx hby hZ hown (wd_ hw 176 rfl) i26_6 ?_
  refine g_ladd X0 hx hby i26_9 ?_
  refine g_callS0 X0 hx hby hZ (y := (⟨"java/lang/Long", "compare", "(JJ)I"⟩ : MethodName)) (argsL := [(.long ((own_l X_) + (-9223372036854775808 : Int64))), (.long ((own_l Y_) + (-9223372036854775808 : Int64)))]) (rest := []) hown (wd_ hw 177 rfl) (wd_ hw 178 rfl) (wd_ hw 174 rfl) (wd_ hw 179 rfl) (by decide) (rm27 l Z a0 hw [] ((own_l X_) + (-9223372036854775808 : Int64)) ((own_l Y_) + (-9223372036854775808 : Int64)) h0 n0 Z0) e0 (by rw [hml]; rfl) pd_7 rfl rfl i26_10 (by decide) 0 rfl (by decide) (by decide) (by decide) fun T1 v1 L1 X1 q1 => ?_
  obtain ⟨_, rfl, r1, rfl, hr1, e1, N1⟩ := q1
  have N0 := Fr.app N0 N1
  show Gd p e below _ T1 (mkF m 13 #[.val (.long (own_l X_)), .second, .val (.long (own_l Y_)), .second] [(.int r1)])
  refine g_ireturn X1 hx hby hret hlk i26_13 (by decide) (by decide) ?_
  exact ⟨_, rfl, congrArg Value.int (own_cmpU hX hY hr1), e1, N0⟩
theorem i10_0 : Ins1 prog_32_method_15_code 0 (.aload_n 0) 1 1 := ⟨by decide +kernel, rfl⟩
theorem i10_1 : Ins1 prog_32_method_15_code 1 (.aload_n 0) 1 2 := ⟨by decide +kernel, rfl⟩
theorem i10_2 : Ins1 prog_32_method_15_code 2 (.getfield 122) 3 5 := ⟨by decide +kernel, rfl⟩
theorem i10_5 : Ins1 prog_32_method_15_code 5 (.aload_n 0) 1 6 := ⟨by decide +kernel, rfl⟩
theorem i10_6 : Ins1 prog_32_method_15_code 6 (.getfield 86) 3 9 := ⟨by decide +kernel, rfl⟩
theorem i10_9 : Ins1 prog_32_method_15_code 9 (.isub) 1 10 := ⟨by decide +kernel, rfl⟩
theorem i10_10 : Ins1 prog_32_method_15_code 10 (.invokevirtual 169) 3 13 := ⟨by decide +kernel, rfl⟩
theorem i10_13 : Ins1 prog_32_method_15_code 13 (.aload_n 0) 1 14 := ⟨by decide +kernel, rfl⟩
theorem i10_14 : Ins1 prog_32_method_15_code 14 (.getfield 191) 3 17 := ⟨by decide +kernel, rfl⟩
theorem i10_17 : Ins1 prog_32_method_15_code 17 (.lconst 0) 1 18 := ⟨by decide +kernel, rfl⟩
theorem i10_18 : Ins1 prog_32_method_15_code 18 (.lcmp) 1 19 := ⟨by decide +kernel, rfl⟩
theorem i10_19 : InsB prog_32_method_15_code 19 (.ifCond .eq 141) 141 22 160 := ⟨by decide +kernel, rfl, by decide, by decide⟩
theorem i10_22 : Ins1 prog_32_method_15_code 22 (.aload_n 0) 1 23 := ⟨by decide +kernel, rfl⟩
theorem i10_23 : Ins1 prog_32_method_15_code 23 (.getfield 83) 3 26 := ⟨by decide +kernel, rfl⟩
theorem i10_26 : Ins1 prog_32_method_15_code 26 (.aload_n 0) 1 27 := ⟨by decide +kernel, rfl⟩
theorem i10_27 : Ins1 prog_32_method_15_code 27 (.getfield 122) 3 30 := ⟨by decide +kernel, rfl⟩
theorem i10_30 : Ins1 prog_32_method_15_code 30 (.iadd) 1 31 := ⟨by decide +kernel, rfl⟩
theorem i10_31 : Ins1 prog_32_method_15_code 31 (.istore_n 1) 1 32 := ⟨by decide +kernel, rfl⟩
theorem i10_32 : Ins1 prog_32_method_15_code 32 (.aload_n 0) 1 33 := ⟨by decide +kernel, rfl⟩
theorem i10_33 : Ins1 prog_32_method_15_code 33 (.getfield 80) 3 36 := ⟨by decide +kernel, rfl⟩
theorem i10_36 : Ins1 prog_32_method_15_code 36 (.iload_n 1) 1 37 := ⟨by decide +kernel, rfl⟩
theorem i10_37 : Ins1 prog_32_method_15_code 37 (.isub) 1 38 := ⟨by decide +kernel, rfl⟩
theorem i10_38 : Ins1 prog_32_method_15_code 38 (.i2l) 1 39 := ⟨by decide +kernel, rfl⟩
theorem i10_39 : Ins1 prog_32_method_15_code 39 (.lstore_n 2) 1 40 := ⟨by decide +kernel, rfl⟩
theorem i10_40 : Ins1 prog_32_method_15_code 40 (.aload_n 0) 1 41 := ⟨by decide +kernel, rfl⟩
theorem i10_41 : Ins1 prog_32_method_15_code 41 (.getfield 191) 3 44 := ⟨by decide +kernel, rfl⟩
theorem i10_44 : Ins1 prog_32_method_15_code 44 (.lload_n 2) 1 45 := ⟨by decide +kernel, rfl⟩
theorem i10_45 : Ins1 prog_32_method_15_code 45 (.invokestatic 129) 3 48 := ⟨by decide +kernel, rfl⟩
theorem i10_48 : InsB prog_32_method_15_code 48 (.ifCond .ge 10) 10 51 58 := ⟨by decide +kernel, rfl, by decide, by decide⟩
theorem i10_58 : Ins1 prog_32_method_15_code 58 (.lload_n 2) 1 59 := ⟨by decide +kernel, rfl⟩
theorem i10_59 : Ins1 prog_32_method_15_code 59 (.lstore 4) 2 61 := ⟨by decide +kernel, rfl⟩
theorem i10_61 : Ins1 prog_32_method_15_code 61 (.aload_n 0) 1 62 := ⟨by decide +kernel, rfl⟩
theorem i10_62 : Ins1 prog_32_method_15_code 62 (.getfield 194) 3 65 := ⟨by decide +kernel, rfl⟩
theorem i10_65 : Ins1 prog_32_method_15_code 65 (.lload 4) 2 67 := ⟨by decide +kernel, rfl⟩
theorem i10_67 : Ins1 prog_32_method_15_code 67 (.invokestatic 129) 3 70 := ⟨by decide +kernel, rfl⟩
theorem i10_70 : InsB prog_32_method_15_code 70 (.ifCond .ge 10) 10 73 80 := ⟨by decide +kernel, rfl, by decide, by decide⟩
theorem i10_80 : Ins1 prog_32_method_15_code 80 (.lload 4) 2 82 := ⟨by decide +kernel, rfl⟩
theorem i10_82 : Ins1 prog_32_method_15_code 82 (.lstore 6) 2 84 := ⟨by decide +kernel, rfl⟩
theorem i10_84 : Ins1 prog_32_method_15_code 84 (.lload 6) 2 86 := ⟨by decide +kernel, rfl⟩
theorem i10_86 : Ins1 prog_32_method_15_code 86 (.lload 4) 2 88 := ⟨by decide +kernel, rfl⟩
theorem i10_88 : Ins1 prog_32_method_15_code 88 (.lcmp) 1 89 := ⟨by decide +kernel, rfl⟩
theorem i10_89 : InsB prog_32_method_15_code 89 (.ifCond .ge 17) 17 92 106 := ⟨by decide +kernel, rfl, by decide, by decide⟩
theorem i10_106 : Ins1 prog_32_method_15_code 106 (.aload_n 0) 1 107 := ⟨by decide +kernel, rfl⟩
theorem i10_107 : Ins1 prog_32_method_15_code 107 (.dup) 1 108 := ⟨by decide +kernel, rfl⟩
theorem i10_108 : Ins1 prog_32_method_15_code 108 (.getfield 122) 3 111 := ⟨by decide +kernel, rfl⟩
theorem i10_111 : Ins1 prog_32_method_15_code 111 (.lload 4) 2 113 := ⟨by decide +kernel, rfl⟩
theorem i10_113 : Ins1 prog_32_method_15_code 113 (.l2i) 1 114 := ⟨by decide +kernel, rfl⟩
theorem i10_114 : Ins1 prog_32_method_15_code 114 (.iadd) 1 115 := ⟨by decide +kernel, rfl⟩
theorem i10_115 : Ins1 prog_32_method_15_code 115 (.putfield 122) 3 118 := ⟨by decide +kernel, rfl⟩
theorem i10_118 : Ins1 prog_32_method_15_code 118 (.aload_n 0) 1 119 := ⟨by decide +kernel, rfl⟩
theorem i10_119 : Ins1 prog_32_method_15_code 119 (.dup) 1 120 := ⟨by decide +kernel, rfl⟩
theorem i10_120 : Ins1 prog_32_method_15_code 120 (.getfield 191) 3 123 := ⟨by decide +kernel, rfl⟩
theorem i10_123 : Ins1 prog_32_method_15_code 123 (.lload 4) 2 125 := ⟨by decide +kernel, rfl⟩
theorem i10_125 : Ins1 prog_32_method_15_code 125 (.lsub) 1 126 := ⟨by decide +kernel, rfl⟩
theorem i10_126 : Ins1 prog_32_method_15_code 126 (.putfield 191) 3 129 := ⟨by decide +kernel, rfl⟩
theorem i10_129 : Ins1 prog_32_method_15_code 129 (.aload_n 0) 1 130 := ⟨by decide +kernel, rfl⟩
theorem i10_130 : Ins1 prog_32_method_15_code 130 (.dup) 1 131 := ⟨by decide +kernel, rfl⟩
theorem i10_131 : Ins1 prog_32_method_15_code 131 (.getfield 194) 3 134 := ⟨by decide +kernel, rfl⟩
theorem i10_134 : Ins1 prog_32_method_15_code 134 (.lload 6) 2 136 := ⟨by decide +kernel, rfl⟩
theorem i10_136 : Ins1 prog_32_method_15_code 136 (.lsub) 1 137 := ⟨by decide +kernel, rfl⟩
theorem i10_137 : Ins1 prog_32_method_15_code 137 (.putfield 194) 3 140 := ⟨by decide +kernel, rfl⟩
theorem i10_140 : Ins1 prog_32_method_15_code 140 (.aload_n 0) 1 141 := ⟨by decide +kernel, rfl⟩
theorem i10_141 : Ins1 prog_32_method_15_code 141 (.getfield 191) 3 144 := ⟨by decide +kernel, rfl⟩
theorem i10_144 : Ins1 prog_32_method_15_code 144 (.lconst 0) 1 145 := ⟨by decide +kernel, rfl⟩
theorem i10_145 : Ins1 prog_32_method_15_code 145 (.lcmp) 1 146 := ⟨by decide +kernel, rfl⟩
theorem i10_146 : InsB prog_32_method_15_code 146 (.ifCond .eq 5) 5 149 151 := ⟨by decide +kernel, rfl, by decide, by decide⟩
theorem i10_149 : Ins1 prog_32_method_15_code 149 (.iconst 0) 1 150 := ⟨by decide +kernel, rfl⟩
theorem i10_150 : Ins1 prog_32_method_15_code 150 (.ireturn) 1 151 := ⟨by decide +kernel, rfl⟩
theorem i10_151 : Ins1 prog_32_method_15_code 151 (.aload_n 0) 1 152 := ⟨by decide +kernel, rfl⟩
theorem i10_152 : Ins1 prog_32_method_15_code 152 (.invokevirtual 200) 3 155 := ⟨by decide +kernel, rfl⟩
theorem i10_155 : InsB prog_32_method_15_code 155 (.ifCond .eq 5) 5 158 160 := ⟨by decide +kernel, rfl, by decide, by decide⟩
theorem i10_158 : Ins1 prog_32_method_15_code 158 (.iconst 1) 1 159 := ⟨by decide +kernel, rfl⟩
theorem i10_159 : Ins1 prog_32_method_15_code 159 (.ireturn) 1 160 := ⟨by decide +kernel, rfl⟩
theorem i10_160 : Ins1 prog_32_method_15_code 160 (.aload_n 0) 1 161 := ⟨by decide +kernel, rfl⟩
theorem i10_161 : Ins1 prog_32_method_15_code 161 (.getfield 83) 3 164 := ⟨by decide +kernel, rfl⟩
theorem i10_164 : Ins1 prog_32_method_15_code 164 (.aload_n 0) 1 165 := ⟨by decide +kernel, rfl⟩
theorem i10_165 : Ins1 prog_32_method_15_code 165 (.getfield 122) 3 168 := ⟨by decide +kernel, rfl⟩
theorem i10_168 : Ins1 prog_32_method_15_code 168 (.iadd) 1 169 := ⟨by decide +kernel, rfl⟩
theorem i10_169 : Ins1 prog_32_method_15_code 169 (.istore_n 1) 1 170 := ⟨by decide +kernel, rfl⟩
theorem i10_170 : Ins1 prog_32_method_15_code 170 (.iload_n 1) 1 171 := ⟨by decide +kernel, rfl⟩
theorem i10_171 : Ins1 prog_32_method_15_code 171 (.aload_n 0) 1 172 := ⟨by decide +kernel, rfl⟩
theorem i10_172 : Ins1 prog_32_method_15_code 172 (.getfield 80) 3 175 := ⟨by decide +kernel, rfl⟩
theorem i10_175 : InsB prog_32_method_15_code 175 (.if_icmp .ne 5) 5 178 180 := ⟨by decide +kernel, rfl, by decide, by decide⟩
theorem i10_178 : Ins1 prog_32_method_15_code 178 (.iconst 0) 1 179 := ⟨by decide +kernel, rfl⟩
theorem i10_179 : Ins1 prog_32_method_15_code 179 (.ireturn) 1 180 := ⟨by decide +kernel, rfl⟩
theorem i10_180 : Ins1 prog_32_method_15_code 180 (.aload_n 0) 1 181 := ⟨by decide +kernel, rfl⟩
theorem i10_181 : Ins1 prog_32_method_15_code 181 (.getfield 25) 3 184 := ⟨by decide +kernel, rfl⟩
theorem i10_184 : Ins1 prog_32_method_15_code 184 (.iload_n 1) 1 185 := ⟨by decide +kernel, rfl⟩
theorem i10_185 : Ins1 prog_32_method_15_code 185 (.baload) 1 186 := ⟨by decide +kernel, rfl⟩
theorem i10_186 : Ins1 prog_32_method_15_code 186 (.sipush 255) 3 189 := ⟨by decide +kernel, rfl⟩
theorem i10_189 : Ins1 prog_32_method_15_code 189 (.iand) 1 190 := ⟨by decide +kernel, rfl⟩
theorem i10_190 : Ins1 prog_32_method_15_code 190 (.istore_n 2) 1 191 := ⟨by decide +kernel, rfl⟩
theorem i10_191 : Ins1 prog_32_method_15_code 191 (.aload_n 0) 1 192 := ⟨by decide +kernel, rfl⟩
theorem i10_192 : Ins1 prog_32_method_15_code 192 (.getfield 203) 3 195 := ⟨by decide +kernel, rfl⟩
theorem i10_195 : InsB prog_32_method_15_code 195 (.ifCond .ne 7) 7 198 202 := ⟨by decide +kernel, rfl, by decide, by decide⟩
theorem i10_198 : Ins1 prog_32_method_15_code 198 (.iconst (-1)) 1 199 := ⟨by decide +kernel, rfl⟩
theorem i10_199 : InsB prog_32_method_15_code 199 (.goto 14) 14 202 213 := ⟨by decide +kernel, rfl, by decide, by decide⟩
theorem i10_202 : Ins1 prog_32_method_15_code 202 (.aload_n 0) 1 203 := ⟨by decide +kernel, rfl⟩
theorem i10_203 : Ins1 prog_32_method_15_code 203 (.getfield 35) 3 206 := ⟨by decide +kernel, rfl⟩
theorem i10_206 : Ins1 prog_32_method_15_code 206 (.aload_n 0) 1 207 := ⟨by decide +kernel, rfl⟩
theorem i10_207 : Ins1 prog_32_method_15_code 207 (.getfield 203) 3 210 := ⟨by decide +kernel, rfl⟩
theorem i10_210 : Ins1 prog_32_method_15_code 210 (.iconst 1) 1 211 := ⟨by decide +kernel, rfl⟩
theorem i10_211 : Ins1 prog_32_method_15_code 211 (.isub) 1 212 := ⟨by decide +kernel, rfl⟩
theorem i10_212 : Ins1 prog_32_method_15_code 212 (.iaload) 1 213 := ⟨by decide +kernel, rfl⟩
theorem i10_213 : Ins1 prog_32_method_15_code 213 (.istore_n 3) 1 214 := ⟨by decide +kernel, rfl⟩
theorem i10_214 : Ins1 prog_32_method_15_code 214 (.iload_n 2) 1 215 := ⟨by decide +kernel, rfl⟩
theorem i10_215 : Ins1 prog_32_method_15_code 215 (.sipush 255) 3 218 := ⟨by decide +kernel, rfl⟩
theorem i10_218 : InsB prog_32_method_15_code 218 (.if_icmp .ne 57) 57 221 275 := ⟨by decide +kernel, rfl, by decide, by decide⟩
theorem i10_275 : Ins1 prog_32_method_15_code 275 (.iload_n 3) 1 276 := ⟨by decide +kernel, rfl⟩
theorem i10_276 : Ins1 prog_32_method_15_code 276 (.iconst 2) 1 277 := ⟨by decide +kernel, rfl⟩
theorem i10_277 : InsB prog_32_method_15_code 277 (.if_icmp .eq 8) 8 280 285 := ⟨by decide +kernel, rfl, by decide, by decide⟩
theorem i10_280 : Ins1 prog_32_method_15_code 280 (.iload_n 3) 1 281 := ⟨by decide +kernel, rfl⟩
theorem i10_281 : Ins1 prog_32_method_15_code 281 (.iconst 3) 1 282 := ⟨by decide +kernel, rfl⟩
theorem i10_282 : InsB prog_32_method_15_code 282 (.if_icmp .ne 8) 8 285 290 := ⟨by decide +kernel, rfl, by decide, by decide⟩
theorem i10_290 : Ins1 prog_32_method_15_code 290 (.iload_n 2) 1 291 := ⟨by decide +kernel, rfl⟩
theorem i10_291 : Ins1 prog_32_method_15_code 291 (.invokestatic 149) 3 294 := ⟨by decide +kernel, rfl⟩
theorem i10_294 : Ins1 prog_32_method_15_code 294 (.iload_n 2) 1 295 := ⟨by decide +kernel, rfl⟩
theorem i10_295 : Ins1 prog_32_method_15_code 295 (.iconst 5) 1 296 := ⟨by decide +kernel, rfl⟩
theorem i10_296 : Ins1 prog_32_method_15_code 296 (.iushr) 1 297 := ⟨by decide +kernel, rfl⟩
theorem i10_297 : Ins1 prog_32_method_15_code 297 (.istore 4) 2 299 := ⟨by decide +kernel, rfl⟩
theorem i10_299 : Ins1 prog_32_method_15_code 299 (.iload 4) 2 301 := ⟨by decide +kernel, rfl⟩
theorem i10_301 : Ins1 prog_32_method_15_code 301 (.iconst 2) 1 302 := ⟨by decide +kernel, rfl⟩
theorem i10_302 : InsB prog_32_method_15_code 302 (.if_icmp .ne 18) 18 305 320 := ⟨by decide +kernel, rfl, by decide, by decide⟩
theorem i10_305 : Ins1 prog_32_method_15_code 305 (.iload_n 3) 1 306 := ⟨by decide +kernel, rfl⟩
theorem i10_306 : Ins1 prog_32_method_15_code 306 (.iconst 2) 1 307 := ⟨by decide +kernel, rfl⟩
theorem i10_307 : InsB prog_32_method_15_code 307 (.if_icmp .eq 13) 13 310 320 := ⟨by decide +kernel, rfl, by decide, by decide⟩
theorem i10_310 : Ins1 prog_32_method_15_code 310 (.aload_n 0) 1 311 := ⟨by decide +kernel, rfl⟩
theorem i10_311 : Ins1 prog_32_method_15_code 311 (.iconst 0) 1 312 := ⟨by decide +kernel, rfl⟩
theorem i10_312 : Ins1 prog_32_method_15_code 312 (.putfield 216) 3 315 := ⟨by decide +kernel, rfl⟩
theorem i10_315 : Ins1 prog_32_method_15_code 315 (.aload_n 0) 1 316 := ⟨by decide +kernel, rfl⟩
theorem i10_316 : Ins1 prog_32_method_15_code 316 (.lconst 0) 1 317 := ⟨by decide +kernel, rfl⟩
theorem i10_317 : Ins1 prog_32_method_15_code 317 (.putfield 209) 3 320 := ⟨by decide +kernel, rfl⟩
theorem i10_320 : Ins1 prog_32_method_15_code 320 (.iload_n 2) 1 321 := ⟨by decide +kernel, rfl⟩
theorem i10_321 : Ins1 prog_32_method_15_code 321 (.bipush 31) 2 323 := ⟨by decide +kernel, rfl⟩
theorem i10_323 : Ins1 prog_32_method_15_code 323 (.iand) 1 324 := ⟨by decide +kernel, rfl⟩
theorem i10_324 : Ins1 prog_32_method_15_code 324 (.bipush 31) 2 326 := ⟨by decide +kernel, rfl⟩
theorem i10_326 : InsB prog_32_method_15_code 326 (.if_icmp .ne 42) 42 329 368 := ⟨by decide +kernel, rfl, by decide, by decide⟩
theorem i10_329 : Ins1 prog_32_method_15_code 329 (.iload 4) 2 331 := ⟨by decide +kernel, rfl⟩
theorem i10_331 : Ins1 prog_32_method_15_code 331 (.iconst 4) 1 332 := ⟨by decide +kernel, rfl⟩
theorem i10_332 : InsB prog_32_method_15_code 332 (.if_icmp .eq 9) 9 335 341 := ⟨by decide +kernel, rfl, by decide, by decide⟩
theorem i10_341 : Ins1 prog_32_method_15_code 341 (.aload_n 0) 1 342 := ⟨by decide +kernel, rfl⟩
theorem i10_342 : Ins1 prog_32_method_15_code 342 (.getfield 203) 3 345 := ⟨by decide +kernel, rfl⟩
theorem i10_345 : Ins1 prog_32_method_15_code 345 (.invokestatic 219) 3 348 := ⟨by decide +kernel, rfl⟩
theorem i10_348 : Ins1 prog_32_method_15_code 348 (.aload_n 0) 1 349 := ⟨by decide +kernel, rfl⟩
theorem i10_349 : Ins1 prog_32_method_15_code 349 (.dup) 1 350 := ⟨by decide +kernel, rfl⟩
theorem i10_350 : Ins1 prog_32_method_15_code 350 (.getfield 122) 3 353 := ⟨by decide +kernel, rfl⟩
theorem i10_353 : Ins1 prog_32_method_15_code 353 (.iconst 1) 1 354 := ⟨by decide +kernel, rfl⟩
theorem i10_354 : Ins1 prog_32_method_15_code 354 (.iadd) 1 355 := ⟨by decide +kernel, rfl⟩
theorem i10_355 : Ins1 prog_32_method_15_code 355 (.putfield 122) 3 358 := ⟨by decide +kernel, rfl⟩
theorem i10_358 : Ins1 prog_32_method_15_code 358 (.aload_n 0) 1 359 := ⟨by decide +kernel, rfl⟩
theorem i10_359 : Ins1 prog_32_method_15_code 359 (.iload 4) 2 361 := ⟨by decide +kernel, rfl⟩
theorem i10_361 : Ins1 prog_32_method_15_code 361 (.lconst 0) 1 362 := ⟨by decide +kernel, rfl⟩
theorem i10_362 : Ins1 prog_32_method_15_code 362 (.invokevirtual 222) 3 365 := ⟨by decide +kernel, rfl⟩
theorem i10_365 : InsB prog_32_method_15_code 365 (.goto (-365)) (-365) 368 0 := ⟨by decide +kernel, rfl, by decide, by decide⟩
theorem i10_368 : Ins1 prog_32_method_15_code 368 (.iload_n 2) 1 369 := ⟨by decide +kernel, rfl⟩
theorem i10_369 : Ins1 prog_32_method_15_code 369 (.bipush 31) 2 371 := ⟨by decide +kernel, rfl⟩
theorem i10_371 : Ins1 prog_32_method_15_code 371 (.iand) 1 372 := ⟨by decide +kernel, rfl⟩
theorem i10_372 : Ins1 prog_32_method_15_code 372 (.invokestatic 152) 3 375 := ⟨by decide +kernel, rfl⟩
theorem i10_375 : Ins1 prog_32_method_15_code 375 (.istore 5) 2 377 := ⟨by decide +kernel, rfl⟩
theorem i10_377 : Ins1 prog_32_method_15_code 377 (.aload_n 0) 1 378 := ⟨by decide +kernel, rfl⟩
theorem i10_378 : Ins1 prog_32_method_15_code 378 (.getfield 80) 3 381 := ⟨by decide +kernel, rfl⟩
theorem i10_381 : Ins1 prog_32_method_15_code 381 (.iload_n 1) 1 382 := ⟨by decide +kernel, rfl⟩
theorem i10_382 : Ins1 prog_32_method_15_code 382 (.isub) 1 383 := ⟨by decide +kernel, rfl⟩
theorem i10_383 : Ins1 prog_32_method_15_code 383 (.iconst 1) 1 384 := ⟨by decide +kernel, rfl⟩
theorem i10_384 : Ins1 prog_32_method_15_code 384 (.isub) 1 385 := ⟨by decide +kernel, rfl⟩
theorem i10_385 : Ins1 prog_32_method_15_code 385 (.iload 5) 2 387 := ⟨by decide +kernel, rfl⟩
theorem i10_387 : InsB prog_32_method_15_code 387 (.if_icmp .ge 5) 5 390 392 := ⟨by decide +kernel, rfl, by decide, by decide⟩
theorem i10_392 : Ins1 prog_32_method_15_code 392 (.iload 5) 2 394 := ⟨by decide +kernel, rfl⟩
theorem i10_394 : InsB prog_32_method_15_code 394 (.ifCond .ne 11) 11 397 405 := ⟨by decide +kernel, rfl, by decide, by decide⟩
theorem i10_397 : Ins1 prog_32_method_15_code 397 (.iload_n 2) 1 398 := ⟨by decide +kernel, rfl⟩
theorem i10_398 : Ins1 prog_32_method_15_code 398 (.bipush 31) 2 400 := ⟨by decide +kernel, rfl⟩
theorem i10_400 : Ins1 prog_32_method_15_code 400 (.iand) 1 401 := ⟨by decide +kernel, rfl⟩
theorem i10_401 : Ins1 prog_32_method_15_code 401 (.i2l) 1 402 := ⟨by decide +kernel, rfl⟩
theorem i10_402 : InsB prog_32_method_15_code 402 (.goto 15) 15 405 417 := ⟨by decide +kernel, rfl, by decide, by decide⟩
theorem i10_417 : Ins1 prog_32_method_15_code 417 (.lstore 6) 2 419 := ⟨by decide +kernel, rfl⟩
theorem i10_419 : Ins1 prog_32_method_15_code 419 (.iload_n 3) 1 420 := ⟨by decide +kernel, rfl⟩
theorem i10_420 : Ins1 prog_32_method_15_code 420 (.iconst 2) 1 421 := ⟨by decide +kernel, rfl⟩
theorem i10_421 : InsB prog_32_method_15_code 421 (.if_icmp .ne 32) 32 424 453 := ⟨by decide +kernel, rfl, by decide, by decide⟩
theorem i10_453 : Ins1 prog_32_method_15_code 453 (.aload_n 0) 1 454 := ⟨by decide +kernel, rfl⟩
theorem i10_454 : Ins1 prog_32_method_15_code 454 (.dup) 1 455 := ⟨by decide +kernel, rfl⟩
theorem i10_455 : Ins1 prog_32_method_15_code 455 (.getfield 122) 3 458 := ⟨by decide +kernel, rfl⟩
theorem i10_458 : Ins1 prog_32_method_15_code 458 (.iconst 1) 1 459 := ⟨by decide +kernel, rfl⟩
theorem i10_459 : Ins1 prog_32_method_15_code 459 (.iload 5) 2 461 := ⟨by decide +kernel, rfl⟩
theorem i10_461 : Ins1 prog_32_method_15_code 461 (.iadd) 1 462 := ⟨by decide +kernel, rfl⟩
theorem i10_462 : Ins1 prog_32_method_15_code 462 (.iadd) 1 463 := ⟨by decide +kernel, rfl⟩
theorem i10_463 : Ins1 prog_32_method_15_code 463 (.putfield 122) 3 466 := ⟨by decide +kernel, rfl⟩
theorem i10_466 : Ins1 prog_32_method_15_code 466 (.iload 4) 2 468 := ⟨by decide +kernel, rfl⟩
theorem i10_468 : Ins1 prog_32_method_15_code 468 (.iconst 2) 1 469 := ⟨by decide +kernel, rfl⟩
theorem i10_469 : InsB prog_32_method_15_code 469 (.if_icmp .eq 9) 9 472 478 := ⟨by decide +kernel, rfl, by decide, by decide⟩
theorem i10_478 : Ins1 prog_32_method_15_code 478 (.aload_n 0) 1 479 := ⟨by decide +kernel, rfl⟩
theorem i10_479 : Ins1 prog_32_method_15_code 479 (.lload 6) 2 481 := ⟨by decide +kernel, rfl⟩
theorem i10_481 : Ins1 prog_32_method_15_code 481 (.putfield 191) 3 484 := ⟨by decide +kernel, rfl⟩
theorem i10_484 : Ins1 prog_32_method_15_code 484 (.aload_n 0) 1 485 := ⟨by decide +kernel, rfl⟩
theorem i10_485 : Ins1 prog_32_method_15_code 485 (.iload 4) 2 487 := ⟨by decide +kernel, rfl⟩
theorem i10_487 : Ins1 prog_32_method_15_code 487 (.iconst 2) 1 488 := ⟨by decide +kernel, rfl⟩
theorem i10_488 : InsB prog_32_method_15_code 488 (.if_icmp .ne 12) 12 491 500 := ⟨by decide +kernel, rfl, by decide, by decide⟩
theorem i10_491 : Ins1 prog_32_method_15_code 491 (.aload_n 0) 1 492 := ⟨by decide +kernel, rfl⟩
theorem i10_492 : Ins1 prog_32_method_15_code 492 (.lload 6) 2 494 := ⟨by decide +kernel, rfl⟩
theorem i10_494 : Ins1 prog_32_method_15_code 494 (.invokevirtual 226) 3 497 := ⟨by decide +kernel, rfl⟩
theorem i10_497 : InsB prog_32_method_15_code 497 (.goto 5) 5 500 502 := ⟨by decide +kernel, rfl, by decide, by decide⟩
theorem i10_502 : Ins1 prog_32_method_15_code 502 (.putfield 194) 3 505 := ⟨by decide +kernel, rfl⟩
theorem i10_505 : Ins1 prog_32_method_15_code 505 (.lload 6) 2 507 := ⟨by decide +kernel, rfl⟩
theorem i10_507 : Ins1 prog_32_method_15_code 507 (.lconst 0) 1 508 := ⟨by decide +kernel, rfl⟩
theorem i10_508 : Ins1 prog_32_method_15_code 508 (.lcmp) 1 509 := ⟨by decide +kernel, rfl⟩
theorem i10_509 : InsB prog_32_method_15_code 509 (.ifCond .eq 100) 100 512 609 := ⟨by decide +kernel, rfl, by decide, by decide⟩
theorem i10_512 : InsB prog_32_method_15_code 512 (.goto (-512)) (-512) 515 0 := ⟨by decide +kernel, rfl, by decide, by decide⟩
theorem i10_609 : Ins1 prog_32_method_15_code 609 (.aload_n 0) 1 610 := ⟨by decide +kernel, rfl⟩
theorem i10_610 : Ins1 prog_32_method_15_code 610 (.invokevirtual 200) 3 613 := ⟨by decide +kernel, rfl⟩
theorem i10_613 : InsB prog_32_method_15_code 613 (.ifCond .eq 5) 5 616 618 := ⟨by decide +kernel, rfl, by decide, by decide⟩
theorem i10_616 : Ins1 prog_32_method_15_code 616 (.iconst 1) 1 617 := ⟨by decide +kernel, rfl⟩
theorem i10_617 : Ins1 prog_32_method_15_code 617 (.ireturn) 1 618 := ⟨by decide +kernel, rfl⟩
theorem i10_618 : InsB prog_32_method_15_code 618 (.goto (-618)) (-618) 621 0 := ⟨by decide +kernel, rfl, by decide, by decide⟩
theorem pd_8 : parseMethodDescriptor "(I)V" = some ⟨[.int], none⟩ := by decide +kernel
theorem pd_9 : parseMethodDescriptor "(IJ)V" = some ⟨[.int, .long], none⟩ := by decide +kernel
theorem ps_un (l : Launch) (Z : State) (a0 : Array Value) (hw : ∀ d ∈ tables_1, d.before a0 Z = true) {p : Program} {e : Env} {s : State} {m : MethodId} {args : Array Value} {below : List Frame} {meth : Method} {c : Code} (hx : p.tables.exec = Jvm.exec) (hby : c.code = prog_32_method_15_code) (hml : c.maxLocals = 10) (hZ : Z.Warmed39 s.vm) (hown : s.vm.findClass "com/example/ariel/ariel/cbor/CborSequence" = some m.cls) (hret : meth.sig.returnType = (some .boolean)) (hlk : meth.locks = false) {P : State → Prop} {cells slots : Nat} (h0 : Heap) (n0 : Nat) (no_ s_ bu ow od ub nl nc : Addr) (A_ K_ D_ N_ : Nat) (mx mi : Int32) (kb : ClassId) (vb : List Value) (SA_ : Sta Z Z.heap "com/example/ariel/ariel/cbor/CborSequence" "NOTHING" "[B" (.ref no_)) (SB_ : Sta Z Z.heap "com/example/ariel/ariel/cbor/CborSequence" "NO_LENGTHS" "[J" (.ref nl)) (SC_ : Sta Z Z.heap "com/example/ariel/ariel/cbor/CborSequence" "NO_CUTS" "[I" (.ref nc)) (g_s_ : n0 ≤ s_) (hsb : s_ ≠ bu) (hbyte : ∀ j, j < 17 → vb.getD j (.int (0 : Int32)) = .int (-97 : Int32)) (hb17 : vb.getD 17 (.int (0 : Int32)) = .int (own_i (64 + N_))) (hA : A_ + D_ = 17) (hN : N_ < 24) (hK : K_ ≤ N_) (hmx : ¬ mx < (41 : Int32)) (hi : 0 < D_) (L_ : Nat) (hlt : 0 < L_) (hL : L_ ≤ 64) (hc4 : cells ≤ 4) (hs4 : slots ≤ 128)
    (T0 : State) (hh : Heap) (locs : List Loc)  (X0 : Stand p l e ({ frames := 3, cells := 4, slots := 128, locals := 70 } : Room) s m args below meth c T0 locs cells slots) (e0 : T0.heap = hh) (N0 : Fr n0 locs) (I0 : own_S Z h0 hh n0 s_ bu ow od ub nl nc A_ K_ 0 L_ mx mi kb vb) (kont : ∀ T' locs' (y1 y2 y3 y4 : Int32), Stand p l e ({ frames := 3, cells := 4, slots := 128, locals := 70 } : Room) s m args below meth c T' locs' cells slots → Fr n0 locs' → own_S Z h0 T'.heap n0 s_ bu ow od ub nl nc A_ K_ (0 + 1) L_ mx mi kb vb → Gd p e below P T' (mkF m 0 #[.val (.ref s_), .val (.int y1), .val (.int y2), .val (.int y3), .val (.int y4), .unset, .unset, .unset, .unset, .unset] [])) : Gd p e below P T0 (mkF m 0 #[.val (.ref s_), .unset, .unset, .unset, .unset, .unset, .unset, .unset, .unset, .unset] []) := by
  obtain ⟨od', ub', kq, ku, vq, vu, sk, kl, cl, Q, Vb, Vq, Vu, hu, g_od', g_ub', hsq, hsu, hqu, hbq, hbu, hod, hub, K0, O, Z0⟩ := I0
  refine g_aloadN X0 hx hby i10_0 rfl rfl ?_
  refine g_aloadN X0 hx hby i10_1 rfl rfl ?_
  refine g_getfield X0 hx hby hZ hown (host := "") (Or.inl (wd_ hw 79 rfl)) Via.refl e0 (own_at Q 4 (by decide) (v := (.int (own_i 0))) rfl) i10_2 fun T1 X1 e1 => ?_
  refine g_aloadN X1 hx hby i10_5 rfl rfl ?_
  refine g_getfield X1 hx hby hZ hown (host := "") (Or.inl (wd_ hw 81 rfl)) Via.refl e1 (own_at Q 16 (by decide) (v := (.int (0 : Int32))) rfl) i10_6 fun T2 X2 e2 => ?_
  refine g_isub X2 hx hby i10_9 ?_
  rw [Int32.sub_zero]
  refine g_callPriv X2 hx hby hZ (y := (⟨"com/example/ariel/ariel/cbor/CborSequence", "checkHeld", "(I)V"⟩ : MethodName)) (argsL := [(.int (own_i 0))]) (rest := []) hown (wd_ hw 83 rfl) (wd_ hw 84 rfl) (wd_ hw 3 rfl) (wd_ hw 85 rfl) (wd_ hw 4 rfl) (wd_ hw 86 rfl) (by decide) (a := s_) Q.1 (rm11 l Z a0 hw [] s_ (own_i 0) bu ow od' ub' nl nc (own_i A_) (own_i (18 + K_)) (own_i 0) (own_i 0) sk mx mi (0 : Int64) kl cl hh n0 Z0 Q (own_41 hmx (by omega))) e2 (by rw [hml]; rfl) pd_8 rfl rfl i10_10 (by decide) 0 rfl (by decide) hc4 hs4 fun T3 v3 L3 X3 q3 => ?_
  obtain ⟨rfl, e3, N3⟩ := q3
  have N0 := Fr.app N0 N3
  show Gd p e below _ T3 (mkF m 13 #[.val (.ref s_), .unset, .unset, .unset, .unset, .unset, .unset, .unset, .unset, .unset] [])
  refine g_aloadN X3 hx hby i10_13 rfl rfl ?_
  refine g_getfield X3 hx hby hZ hown (host := "") (Or.inl (wd_ hw 87 rfl)) Via.refl e3 (own_at Q 8 (by decide) (v := (.long (0 : Int64))) rfl) i10_14 fun T4 X4 e4 => ?_
  refine g_lconst X4 hx hby i10_17 (z := (0 : Int64)) (by decide) ?_
  refine g_lcmp_eq X4 hx hby i10_18 i10_19 (fun c18_5 => ?_) (fun c18_5 => False.elim (absurd c18_5 (by decide)))
  refine g_aloadN X4 hx hby i10_160 rfl rfl ?_
  refine g_getfield X4 hx hby hZ hown (host := "") (Or.inl (wd_ hw 55 rfl)) Via.refl e4 (own_at Q 2 (by decide) (v := (.int (own_i A_))) rfl) i10_161 fun T6 X6 e6 => ?_
  refine g_aloadN X6 hx hby i10_164 rfl rfl ?_
  refine g_getfield X6 hx hby hZ hown (host := "") (Or.inl (wd_ hw 79 rfl)) Via.refl e6 (own_at Q 4 (by decide) (v := (.int (own_i 0))) rfl) i10_165 fun T7 X7 e7 => ?_
  refine g_iadd X7 hx hby i10_168 ?_
  rw [own_iadd]
  refine g_istoreN X7 hx hby i10_169 (l' := #[.val (.ref s_), .val (.int (own_i (A_ + 0))), .unset, .unset, .unset, .unset, .unset, .unset, .unset, .unset]) rfl ?_
  refine g_iloadN X7 hx hby i10_170 rfl ?_
  refine g_aloadN X7 hx hby i10_171 rfl rfl ?_
  refine g_getfield X7 hx hby hZ hown (host := "") (Or.inl (wd_ hw 53 rfl)) Via.refl e7 (own_at Q 3 (by decide) (v := (.int (own_i (18 + K_)))) rfl) i10_172 fun T8 X8 e8 => ?_
  refine g_icmp_ne X8 hx hby i10_175 (fun c175_9 => ?_) (fun c175_9 => False.elim (absurd ((own_ieq (by omega) (by omega)).mp c175_9) (by omega)))
  refine g_aloadN X8 hx hby i10_180 rfl rfl ?_
  refine g_getfield X8 hx hby hZ hown (host := "") (Or.inl (wd_ hw 20 rfl)) Via.refl e8 (own_at Q 0 (by decide) (v := (.ref bu)) rfl) i10_181 fun T10 X10 e10 => ?_
  refine g_iloadN X10 hx hby i10_184 rfl ?_
  refine g_baload X10 hx hby hZ e10 Vb (i := A_ + 0) (own_nn (by omega)) ((own_ilt (b := 41) (by omega) (by omega)).mpr (by omega)) (own_tc (by omega)) (hbyte _ (by omega)) i10_185 ?_
  refine g_sipush X10 hx hby i10_186 (z := (255 : Int32)) (by decide) ?_
  refine g_iand X10 hx hby i10_189 ?_
  rw [show ((-97 : Int32) &&& (255 : Int32)) = (159 : Int32) from by decide]
  refine g_istoreN X10 hx hby i10_190 (l' := #[.val (.ref s_), .val (.int (own_i (A_ + 0))), .val (.int (159 : Int32)), .unset, .unset, .unset, .unset, .unset, .unset, .unset]) rfl ?_
  refine g_aloadN X10 hx hby i10_191 rfl rfl ?_
  refine g_getfield X10 hx hby hZ hown (host := "") (Or.inl (wd_ hw 89 rfl)) Via.refl e10 (own_at Q 7 (by decide) (v := (.int (own_i 0))) rfl) i10_192 fun T11 X11 e11 => ?_
  refine g_if_ne X11 hx hby i10_195 (fun c195_12 => False.elim (c195_12 rfl)) fun c195_12 => ?_
  refine g_iconst X11 hx hby i10_198 (z := (-1 : Int32)) (by decide) ?_
  refine g_goto X11 hx hby i10_199 ?_
  refine g_istoreN X11 hx hby i10_213 (l' := #[.val (.ref s_), .val (.int (own_i (A_ + 0))), .val (.int (159 : Int32)), .val (.int (-1 : Int32)), .unset, .unset, .unset, .unset, .unset, .unset]) rfl ?_
  refine g_iloadN X11 hx hby i10_214 rfl ?_
  refine g_sipush X11 hx hby i10_215 (z := (255 : Int32)) (by decide) ?_
  refine g_icmp_ne X11 hx hby i10_218 (fun c218_13 => ?_) (fun c218_13 => False.elim (absurd c218_13 (by decide)))
  refine g_iloadN X11 hx hby i10_275 rfl ?_
  refine g_iconst X11 hx hby i10_276 (z := (2 : Int32)) (by decide) ?_
  refine g_icmp_eq X11 hx hby i10_277 (fun c277_14 => False.elim (absurd c277_14 (by decide))) fun c277_14 => ?_
  refine g_iloadN X11 hx hby i10_280 rfl ?_
  refine g_iconst X11 hx hby i10_281 (z := (3 : Int32)) (by decide) ?_
  refine g_icmp_ne X11 hx hby i10_282 (fun c282_15 => ?_) (fun c282_15 => False.elim (absurd c282_15 (by decide)))
  refine g_iloadN X11 hx hby i10_290 rfl ?_
  refine g_callS0 X11 hx hby hZ (y := (⟨"com/example/ariel/ariel/cbor/CborReader", "checkInitialByte", "(I)V"⟩ : MethodName)) (argsL := [(.int (159 : Int32))]) (rest := []) hown (wd_ hw 91 rfl) (wd_ hw 92 rfl) (wd_ hw 40 rfl) (wd_ hw 93 rfl) (by decide) (rm12_a l Z a0 hw [] (159 : Int32) hh n0 Z0 rfl) e11 (by rw [hml]; rfl) pd_8 rfl rfl i10_291 (by decide) 0 rfl (by decide) hc4 hs4 fun T16 v16 L16 X16 q16 => ?_
  obtain ⟨rfl, e16, N16⟩ := q16
  have N0 := Fr.app N0 N16
  show Gd p e below _ T16 (mkF m 294 #[.val (.ref s_), .val (.int (own_i (A_ + 0))), .val (.int (159 : Int32)), .val (.int (-1 : Int32)), .unset, .unset, .unset, .unset, .unset, .unset] [])
  refine g_iloadN X16 hx hby i10_294 rfl ?_
  refine g_iconst X16 hx hby i10_295 (z := (5 : Int32)) (by decide) ?_
  refine g_iushr X16 hx hby i10_296 ?_
  rw [show ((159 : Int32).toUInt32 >>> ((5 : Int32) &&& 31).toUInt32).toInt32 = (4 : Int32) from by decide]
  refine g_istore X16 hx hby i10_297 (l' := #[.val (.ref s_), .val (.int (own_i (A_ + 0))), .val (.int (159 : Int32)), .val (.int (-1 : Int32)), .val (.int (4 : Int32)), .unset, .unset, .unset, .unset, .unset]) rfl ?_
  refine g_iload X16 hx hby i10_299 rfl ?_
  refine g_iconst X16 hx hby i10_301 (z := (2 : Int32)) (by decide) ?_
  refine g_icmp_ne X16 hx hby i10_302 (fun c302_17 => ?_) (fun c302_17 => False.elim (absurd c302_17 (by decide)))
  refine g_iloadN X16 hx hby i10_320 rfl ?_
  refine g_bipush X16 hx hby i10_321 (z := (31 : Int32)) (by decide) ?_
  refine g_iand X16 hx hby i10_323 ?_
  rw [show ((159 : Int32) &&& (31 : Int32)) = (31 : Int32) from by decide]
  refine g_bipush X16 hx hby i10_324 (z := (31 : Int32)) (by decide) ?_
  refine g_icmp_ne X16 hx hby i10_326 (fun c326_18 => False.elim (absurd c326_18 (by decide))) fun c326_18 => ?_
  refine g_iload X16 hx hby i10_329 rfl ?_
  refine g_iconst X16 hx hby i10_331 (z := (4 : Int32)) (by decide) ?_
  refine g_icmp_eq X16 hx hby i10_332 (fun c332_19 => ?_) (fun c332_19 => False.elim (absurd c332_19 (by decide)))
  refine g_aloadN X16 hx hby i10_341 rfl rfl ?_
  refine g_getfield X16 hx hby hZ hown (host := "") (Or.inl (wd_ hw 89 rfl)) Via.refl e16 (own_at Q 7 (by decide) (v := (.int (own_i 0))) rfl) i10_342 fun T20 X20 e20 => ?_
  refine g_callS0 X20 hx hby hZ (y := (⟨"com/example/ariel/ariel/cbor/CborReader", "checkDepth", "(I)V"⟩ : MethodName)) (argsL := [(.int (own_i 0))]) (rest := []) hown (wd_ hw 242 rfl) (wd_ hw 243 rfl) (wd_ hw 40 rfl) (wd_ hw 244 rfl) (by decide) (rm40 l Z a0 hw [] (own_i 0) hh n0 Z0 ((own_ilt (b := 256) (by omega) (by omega)).mpr (by omega))) e20 (by rw [hml]; rfl) pd_8 rfl rfl i10_345 (by decide) 0 rfl (by decide) hc4 hs4 fun T21 v21 L21 X21 q21 => ?_
  obtain ⟨rfl, e21, N21⟩ := q21
  have N0 := Fr.app N0 N21
  show Gd p e below _ T21 (mkF m 348 #[.val (.ref s_), .val (.int (own_i (A_ + 0))), .val (.int (159 : Int32)), .val (.int (-1 : Int32)), .val (.int (4 : Int32)), .unset, .unset, .unset, .unset, .unset] [])
  refine g_aloadN X21 hx hby i10_348 rfl rfl ?_
  refine g_dup X21 hx hby i10_349 rfl ?_
  refine g_getfield X21 hx hby hZ hown (host := "") (Or.inl (wd_ hw 79 rfl)) Via.refl e21 (own_at Q 4 (by decide) (v := (.int (own_i 0))) rfl) i10_350 fun T22 X22 e22 => ?_
  refine g_iconst X22 hx hby i10_353 (z := (1 : Int32)) (by decide) ?_
  refine g_iadd X22 hx hby i10_354 ?_
  rw [own_isucc]
  refine g_putfield X22 hx hby hZ hown (host := "") (Or.inl (wd_ hw 79 rfl)) Via.refl e22 (own_at Q 4 (by decide) (v := (.int (own_i 0))) rfl) Q.1 (Or.inl (wd_ hw 80 rfl)) (wd_ hw 3 rfl) (ty := .int) (by decide) rfl rfl i10_355 fun T23 h23 X23 e23 W23 => ?_
  have Q : own_seq Z h23 s_ [(.ref bu), (.ref ow), (.int (own_i A_)), (.int (own_i (18 + K_))), (.int (own_i (0 + 1))), (.ref od'), (.ref ub'), (.int (own_i 0)), (.long (0 : Int64)), (.long kl), (.int sk), (.long cl), (.ref nl), (.int (0 : Int32)), (.ref nc), (.int (0 : Int32)), (.int (0 : Int32)), (.long (0 : Int64)), (.int (0 : Int32)), (.int mx), (.int mi), (.int (0 : Int32))] := Q.put hw (i := 4) (by decide) W23
  have Vb := Vb.other W23 (Ne.symm hsb)
  have Vq := Vq.other W23 (Ne.symm hsq)
  have Vu := Vu.other W23 (Ne.symm hsu)
  have O := O.wr W23 g_s_
  have Z0 : n0 ≤ h23.size := Nat.le_trans Z0 (Nat.le_of_eq W23.size.symm)
  have N0 := Fr.snoc X23 N0 g_s_
  have K0 := K0.wr W23 (Or.inl (by simp))
  refine g_aloadN X23 hx hby i10_358 rfl rfl ?_
  refine g_iload X23 hx hby i10_359 rfl ?_
  refine g_lconst X23 hx hby i10_361 (z := (0 : Int64)) (by decide) ?_
  refine g_callPriv X23 hx hby hZ (y := (⟨"com/example/ariel/ariel/cbor/CborSequence", "open", "(IJ)V"⟩ : MethodName)) (argsL := [(.int (4 : Int32)), (.long (0 : Int64))]) (rest := []) hown (wd_ hw 245 rfl) (wd_ hw 246 rfl) (wd_ hw 3 rfl) (wd_ hw 247 rfl) (wd_ hw 4 rfl) (wd_ hw 248 rfl) (by decide) (a := s_) Q.1 (rm41_n l Z a0 hw [] s_ (4 : Int32) (0 : Int64) no_ bu ow od' ub' nl nc (own_i A_) (own_i (18 + K_)) (own_i (0 + 1)) (own_i 0) sk mx mi (0 : Int64) kl cl kq ku _ _ 0 L_ h23 n0 Z0 SA_ SB_ SC_ O Q g_s_ Vq Vu hsq hsu hqu g_od' g_ub' hlt hL) e23 (by rw [hml]; rfl) pd_9 rfl rfl i10_362 (by decide) 0 rfl (by decide) hc4 hs4 fun T24 v24 L24 X24 q24 => ?_
  obtain ⟨rfl, ⟨vq24, vu24, K24, Q24, Vq24, Vu24, hv24⟩, N24⟩ := q24
  have N0 := Fr.app N0 N24
  have K0 := K0.trans K24 (fun x hx => by simp at hx; rcases hx with rfl | rfl | rfl; exact Or.inl (by simp); exact hod.elim (fun q => Or.inl (by simp [q])) Or.inr; exact hub.elim (fun q => Or.inl (by simp [q])) Or.inr)
  have Vb := Vb.keep K24 (ninS (Ne.symm hsb) (ninS hbq (ninS hbu nin0)))
  have O := O.keep K24 (allS g_s_ (allS g_od' (allS g_ub' all0)))
  have Z0 : n0 ≤ T24.heap.size := Nat.le_trans Z0 K24.1
  show Gd p e below _ T24 (mkF m 365 #[.val (.ref s_), .val (.int (own_i (A_ + 0))), .val (.int (159 : Int32)), .val (.int (-1 : Int32)), .val (.int (4 : Int32)), .unset, .unset, .unset, .unset, .unset] [])
  refine g_goto X24 hx hby i10_365 ?_
  exact kont T24 _ _ _ _ _ X24 N0 ⟨od', ub', _, _, _, _, _, _, _, Q24, Vb, Vq24, Vu24, (fun _ => hv24), g_od', g_ub', hsq, hsu, hqu, hbq, hbu, hod, hub, K0, O, Z0⟩
theorem ps_vn (l : Launch) (Z : State) (a0 : Array Value) (hw : ∀ d ∈ tables_1, d.before a0 Z = true) {p : Program} {e : Env} {s : State} {m : MethodId} {args : Array Value} {below : List Frame} {meth : Method} {c : Code} (hx : p.tables.exec = Jvm.exec) (hby : c.code = prog_32_method_15_code) (hml : c.maxLocals = 10) (hZ : Z.Warmed39 s.vm) (hown : s.vm.findClass "com/example/ariel/ariel/cbor/CborSequence" = some m.cls) (hret : meth.sig.returnType = (some .boolean)) (hlk : meth.locks = false) {P : State → Prop} {cells slots : Nat} (h0 : Heap) (n0 : Nat) (no_ s_ bu ow od ub nl nc : Addr) (A_ K_ D_ N_ : Nat) (mx mi : Int32) (kb : ClassId) (vb : List Value) (SA_ : Sta Z Z.heap "com/example/ariel/ariel/cbor/CborSequence" "NOTHING" "[B" (.ref no_)) (SB_ : Sta Z Z.heap "com/example/ariel/ariel/cbor/CborSequence" "NO_LENGTHS" "[J" (.ref nl)) (SC_ : Sta Z Z.heap "com/example/ariel/ariel/cbor/CborSequence" "NO_CUTS" "[I" (.ref nc)) (g_s_ : n0 ≤ s_) (hsb : s_ ≠ bu) (hbyte : ∀ j, j < 17 → vb.getD j (.int (0 : Int32)) = .int (-97 : Int32)) (hb17 : vb.getD 17 (.int (0 : Int32)) = .int (own_i (64 + N_))) (hA : A_ + D_ = 17) (hN : N_ < 24) (hK : K_ ≤ N_) (hmx : ¬ mx < (41 : Int32)) (I_ L_ : Nat) (hi0 : 0 < I_) (hi : I_ < D_) (hlt : I_ < L_) (hL : L_ ≤ 64) (hc4 : cells ≤ 4) (hs4 : slots ≤ 128)
    (T0 : State) (hh : Heap) (locs : List Loc) (x1 x2 x3 x4 : Int32) (X0 : Stand p l e ({ frames := 3, cells := 4, slots := 128, locals := 70 } : Room) s m args below meth c T0 locs cells slots) (e0 : T0.heap = hh) (N0 : Fr n0 locs) (I0 : own_S Z h0 hh n0 s_ bu ow od ub nl nc A_ K_ I_ L_ mx mi kb vb) (kont : ∀ T' locs' (y1 y2 y3 y4 : Int32), Stand p l e ({ frames := 3, cells := 4, slots := 128, locals := 70 } : Room) s m args below meth c T' locs' cells slots → Fr n0 locs' → own_S Z h0 T'.heap n0 s_ bu ow od ub nl nc A_ K_ (I_ + 1) L_ mx mi kb vb → Gd p e below P T' (mkF m 0 #[.val (.ref s_), .val (.int y1), .val (.int y2), .val (.int y3), .val (.int y4), .unset, .unset, .unset, .unset, .unset] [])) : Gd p e below P T0 (mkF m 0 #[.val (.ref s_), .val (.int x1), .val (.int x2), .val (.int x3), .val (.int x4), .unset, .unset, .unset, .unset, .unset] []) := by
  obtain ⟨od', ub', kq, ku, vq, vu, sk, kl, cl, Q, Vb, Vq, Vu, hu, g_od', g_ub', hsq, hsu, hqu, hbq, hbu, hod, hub, K0, O, Z0⟩ := I0
  refine g_aloadN X0 hx hby i10_0 rfl rfl ?_
  refine g_aloadN X0 hx hby i10_1 rfl rfl ?_
  refine g_getfield X0 hx hby hZ hown (host := "") (Or.inl (wd_ hw 79 rfl)) Via.refl e0 (own_at Q 4 (by decide) (v := (.int (own_i I_))) rfl) i10_2 fun T1 X1 e1 => ?_
  refine g_aloadN X1 hx hby i10_5 rfl rfl ?_
  refine g_getfield X1 hx hby hZ hown (host := "") (Or.inl (wd_ hw 81 rfl)) Via.refl e1 (own_at Q 16 (by decide) (v := (.int (0 : Int32))) rfl) i10_6 fun T2 X2 e2 => ?_
  refine g_isub X2 hx hby i10_9 ?_
  rw [Int32.sub_zero]
  refine g_callPriv X2 hx hby hZ (y := (⟨"com/example/ariel/ariel/cbor/CborSequence", "checkHeld", "(I)V"⟩ : MethodName)) (argsL := [(.int (own_i I_))]) (rest := []) hown (wd_ hw 83 rfl) (wd_ hw 84 rfl) (wd_ hw 3 rfl) (wd_ hw 85 rfl) (wd_ hw 4 rfl) (wd_ hw 86 rfl) (by decide) (a := s_) Q.1 (rm11 l Z a0 hw [] s_ (own_i I_) bu ow od' ub' nl nc (own_i A_) (own_i (18 + K_)) (own_i I_) (own_i I_) sk mx mi (0 : Int64) kl cl hh n0 Z0 Q (own_41 hmx (by omega))) e2 (by rw [hml]; rfl) pd_8 rfl rfl i10_10 (by decide) 0 rfl (by decide) hc4 hs4 fun T3 v3 L3 X3 q3 => ?_
  obtain ⟨rfl, e3, N3⟩ := q3
  have N0 := Fr.app N0 N3
  show Gd p e below _ T3 (mkF m 13 #[.val (.ref s_), .val (.int x1), .val (.int x2), .val (.int x3), .val (.int x4), .unset, .unset, .unset, .unset, .unset] [])
  refine g_aloadN X3 hx hby i10_13 rfl rfl ?_
  refine g_getfield X3 hx hby hZ hown (host := "") (Or.inl (wd_ hw 87 rfl)) Via.refl e3 (own_at Q 8 (by decide) (v := (.long (0 : Int64))) rfl) i10_14 fun T4 X4 e4 => ?_
  refine g_lconst X4 hx hby i10_17 (z := (0 : Int64)) (by decide) ?_
  refine g_lcmp_eq X4 hx hby i10_18 i10_19 (fun c18_5 => ?_) (fun c18_5 => False.elim (absurd c18_5 (by decide)))
  refine g_aloadN X4 hx hby i10_160 rfl rfl ?_
  refine g_getfield X4 hx hby hZ hown (host := "") (Or.inl (wd_ hw 55 rfl)) Via.refl e4 (own_at Q 2 (by decide) (v := (.int (own_i A_))) rfl) i10_161 fun T6 X6 e6 => ?_
  refine g_aloadN X6 hx hby i10_164 rfl rfl ?_
  refine g_getfield X6 hx hby hZ hown (host := "") (Or.inl (wd_ hw 79 rfl)) Via.refl e6 (own_at Q 4 (by decide) (v := (.int (own_i I_))) rfl) i10_165 fun T7 X7 e7 => ?_
  refine g_iadd X7 hx hby i10_168 ?_
  rw [own_iadd]
  refine g_istoreN X7 hx hby i10_169 (l' := #[.val (.ref s_), .val (.int (own_i (A_ + I_))), .val (.int x2), .val (.int x3), .val (.int x4), .unset, .unset, .unset, .unset, .unset]) rfl ?_
  refine g_iloadN X7 hx hby i10_170 rfl ?_
  refine g_aloadN X7 hx hby i10_171 rfl rfl ?_
  refine g_getfield X7 hx hby hZ hown (host := "") (Or.inl (wd_ hw 53 rfl)) Via.refl e7 (own_at Q 3 (by decide) (v := (.int (own_i (18 + K_)))) rfl) i10_172 fun T8 X8 e8 => ?_
  refine g_icmp_ne X8 hx hby i10_175 (fun c175_9 => ?_) (fun c175_9 => False.elim (absurd ((own_ieq (by omega) (by omega)).mp c175_9) (by omega)))
  refine g_aloadN X8 hx hby i10_180 rfl rfl ?_
  refine g_getfield X8 hx hby hZ hown (host := "") (Or.inl (wd_ hw 20 rfl)) Via.refl e8 (own_at Q 0 (by decide) (v := (.ref bu)) rfl) i10_181 fun T10 X10 e10 => ?_
  refine g_iloadN X10 hx hby i10_184 rfl ?_
  refine g_baload X10 hx hby hZ e10 Vb (i := A_ + I_) (own_nn (by omega)) ((own_ilt (b := 41) (by omega) (by omega)).mpr (by omega)) (own_tc (by omega)) (hbyte _ (by omega)) i10_185 ?_
  refine g_sipush X10 hx hby i10_186 (z := (255 : Int32)) (by decide) ?_
  refine g_iand X10 hx hby i10_189 ?_
  rw [show ((-97 : Int32) &&& (255 : Int32)) = (159 : Int32) from by decide]
  refine g_istoreN X10 hx hby i10_190 (l' := #[.val (.ref s_), .val (.int (own_i (A_ + I_))), .val (.int (159 : Int32)), .val (.int x3), .val (.int x4), .unset, .unset, .unset, .unset, .unset]) rfl ?_
  refine g_aloadN X10 hx hby i10_191 rfl rfl ?_
  refine g_getfield X10 hx hby hZ hown (host := "") (Or.inl (wd_ hw 89 rfl)) Via.refl e10 (own_at Q 7 (by decide) (v := (.int (own_i I_))) rfl) i10_192 fun T11 X11 e11 => ?_
  refine g_if_ne X11 hx hby i10_195 (fun c195_12 => ?_) (fun c195_12 => False.elim (own_ne0 hi0 (by omega) c195_12))
  refine g_aloadN X11 hx hby i10_202 rfl rfl ?_
  refine g_getfield X11 hx hby hZ hown (host := "") (Or.inl (wd_ hw 28 rfl)) Via.refl e11 (own_at Q 6 (by decide) (v := (.ref ub')) rfl) i10_203 fun T13 X13 e13 => ?_
  refine g_aloadN X13 hx hby i10_206 rfl rfl ?_
  refine g_getfield X13 hx hby hZ hown (host := "") (Or.inl (wd_ hw 89 rfl)) Via.refl e13 (own_at Q 7 (by decide) (v := (.int (own_i I_))) rfl) i10_207 fun T14 X14 e14 => ?_
  refine g_iconst X14 hx hby i10_210 (z := (1 : Int32)) (by decide) ?_
  refine g_isub X14 hx hby i10_211 ?_
  rw [own_ipred hi0]
  refine g_iaload X14 hx hby hZ e14 Vu (i := I_ - 1) (v := .int (4 : Int32)) (own_nn (by omega)) ((own_ilt (by omega) (by omega)).mpr (by omega)) (own_tc (by omega)) (hu hi0) i10_212 ?_
  refine g_istoreN X14 hx hby i10_213 (l' := #[.val (.ref s_), .val (.int (own_i (A_ + I_))), .val (.int (159 : Int32)), .val (.int (4 : Int32)), .val (.int x4), .unset, .unset, .unset, .unset, .unset]) rfl ?_
  refine g_iloadN X14 hx hby i10_214 rfl ?_
  refine g_sipush X14 hx hby i10_215 (z := (255 : Int32)) (by decide) ?_
  refine g_icmp_ne X14 hx hby i10_218 (fun c218_15 => ?_) (fun c218_15 => False.elim (absurd c218_15 (by decide)))
  refine g_iloadN X14 hx hby i10_275 rfl ?_
  refine g_iconst X14 hx hby i10_276 (z := (2 : Int32)) (by decide) ?_
  refine g_icmp_eq X14 hx hby i10_277 (fun c277_16 => False.elim (absurd c277_16 (by decide))) fun c277_16 => ?_
  refine g_iloadN X14 hx hby i10_280 rfl ?_
  refine g_iconst X14 hx hby i10_281 (z := (3 : Int32)) (by decide) ?_
  refine g_icmp_ne X14 hx hby i10_282 (fun c282_17 => ?_) (fun c282_17 => False.elim (absurd c282_17 (by decide)))
  refine g_iloadN X14 hx hby i10_290 rfl ?_
  refine g_callS0 X14 hx hby hZ (y := (⟨"com/example/ariel/ariel/cbor/CborReader", "checkInitialByte", "(I)V"⟩ : MethodName)) (argsL := [(.int (159 : Int32))]) (rest := []) hown (wd_ hw 91 rfl) (wd_ hw 92 rfl) (wd_ hw 40 rfl) (wd_ hw 93 rfl) (by decide) (rm12_a l Z a0 hw [] (159 : Int32) hh n0 Z0 rfl) e14 (by rw [hml]; rfl) pd_8 rfl rfl i10_291 (by decide) 0 rfl (by decide) hc4 hs4 fun T18 v18 L18 X18 q18 => ?_
  obtain ⟨rfl, e18, N18⟩ := q18
  have N0 := Fr.app N0 N18
  show Gd p e below _ T18 (mkF m 294 #[.val (.ref s_), .val (.int (own_i (A_ + I_))), .val (.int (159 : Int32)), .val (.int (4 : Int32)), .val (.int x4), .unset, .unset, .unset, .unset, .unset] [])
  refine g_iloadN X18 hx hby i10_294 rfl ?_
  refine g_iconst X18 hx hby i10_295 (z := (5 : Int32)) (by decide) ?_
  refine g_iushr X18 hx hby i10_296 ?_
  rw [show ((159 : Int32).toUInt32 >>> ((5 : Int32) &&& 31).toUInt32).toInt32 = (4 : Int32) from by decide]
  refine g_istore X18 hx hby i10_297 (l' := #[.val (.ref s_), .val (.int (own_i (A_ + I_))), .val (.int (159 : Int32)), .val (.int (4 : Int32)), .val (.int (4 : Int32)), .unset, .unset, .unset, .unset, .unset]) rfl ?_
  refine g_iload X18 hx hby i10_299 rfl ?_
  refine g_iconst X18 hx hby i10_301 (z := (2 : Int32)) (by decide) ?_
  refine g_icmp_ne X18 hx hby i10_302 (fun c302_19 => ?_) (fun c302_19 => False.elim (absurd c302_19 (by decide)))
  refine g_iloadN X18 hx hby i10_320 rfl ?_
  refine g_bipush X18 hx hby i10_321 (z := (31 : Int32)) (by decide) ?_
  refine g_iand X18 hx hby i10_323 ?_
  rw [show ((159 : Int32) &&& (31 : Int32)) = (31 : Int32) from by decide]
  refine g_bipush X18 hx hby i10_324 (z := (31 : Int32)) (by decide) ?_
  refine g_icmp_ne X18 hx hby i10_326 (fun c326_20 => False.elim (absurd c326_20 (by decide))) fun c326_20 => ?_
  refine g_iload X18 hx hby i10_329 rfl ?_
  refine g_iconst X18 hx hby i10_331 (z := (4 : Int32)) (by decide) ?_
  refine g_icmp_eq X18 hx hby i10_332 (fun c332_21 => ?_) (fun c332_21 => False.elim (absurd c332_21 (by decide)))
  refine g_aloadN X18 hx hby i10_341 rfl rfl ?_
  refine g_getfield X18 hx hby hZ hown (host := "") (Or.inl (wd_ hw 89 rfl)) Via.refl e18 (own_at Q 7 (by decide) (v := (.int (own_i I_))) rfl) i10_342 fun T22 X22 e22 => ?_
  refine g_callS0 X22 hx hby hZ (y := (⟨"com/example/ariel/ariel/cbor/CborReader", "checkDepth", "(I)V"⟩ : MethodName)) (argsL := [(.int (own_i I_))]) (rest := []) hown (wd_ hw 242 rfl) (wd_ hw 243 rfl) (wd_ hw 40 rfl) (wd_ hw 244 rfl) (by decide) (rm40 l Z a0 hw [] (own_i I_) hh n0 Z0 ((own_ilt (b := 256) (by omega) (by omega)).mpr (by omega))) e22 (by rw [hml]; rfl) pd_8 rfl rfl i10_345 (by decide) 0 rfl (by decide) hc4 hs4 fun T23 v23 L23 X23 q23 => ?_
  obtain ⟨rfl, e23, N23⟩ := q23
  have N0 := Fr.app N0 N23
  show Gd p e below _ T23 (mkF m 348 #[.val (.ref s_), .val (.int (own_i (A_ + I_))), .val (.int (159 : Int32)), .val (.int (4 : Int32)), .val (.int (4 : Int32)), .unset, .unset, .unset, .unset, .unset] [])
  refine g_aloadN X23 hx hby i10_348 rfl rfl ?_
  refine g_dup X23 hx hby i10_349 rfl ?_
  refine g_getfield X23 hx hby hZ hown (host := "") (Or.inl (wd_ hw 79 rfl)) Via.refl e23 (own_at Q 4 (by decide) (v := (.int (own_i I_))) rfl) i10_350 fun T24 X24 e24 => ?_
  refine g_iconst X24 hx hby i10_353 (z := (1 : Int32)) (by decide) ?_
  refine g_iadd X24 hx hby i10_354 ?_
  rw [own_isucc]
  refine g_putfield X24 hx hby hZ hown (host := "") (Or.inl (wd_ hw 79 rfl)) Via.refl e24 (own_at Q 4 (by decide) (v := (.int (own_i I_))) rfl) Q.1 (Or.inl (wd_ hw 80 rfl)) (wd_ hw 3 rfl) (ty := .int) (by decide) rfl rfl i10_355 fun T25 h25 X25 e25 W25 => ?_
  have Q : own_seq Z h25 s_ [(.ref bu), (.ref ow), (.int (own_i A_)), (.int (own_i (18 + K_))), (.int (own_i (I_ + 1))), (.ref od'), (.ref ub'), (.int (own_i I_)), (.long (0 : Int64)), (.long kl), (.int sk), (.long cl), (.ref nl), (.int (0 : Int32)), (.ref nc), (.int (0 : Int32)), (.int (0 : Int32)), (.long (0 : Int64)), (.int (0 : Int32)), (.int mx), (.int mi), (.int (0 : Int32))] := Q.put hw (i := 4) (by decide) W25
  have Vb := Vb.other W25 (Ne.symm hsb)
  have Vq := Vq.other W25 (Ne.symm hsq)
  have Vu := Vu.other W25 (Ne.symm hsu)
  have O := O.wr W25 g_s_
  have Z0 : n0 ≤ h25.size := Nat.le_trans Z0 (Nat.le_of_eq W25.size.symm)
  have N0 := Fr.snoc X25 N0 g_s_
  have K0 := K0.wr W25 (Or.inl (by simp))
  refine g_aloadN X25 hx hby i10_358 rfl rfl ?_
  refine g_iload X25 hx hby i10_359 rfl ?_
  refine g_lconst X25 hx hby i10_361 (z := (0 : Int64)) (by decide) ?_
  refine g_callPriv X25 hx hby hZ (y := (⟨"com/example/ariel/ariel/cbor/CborSequence", "open", "(IJ)V"⟩ : MethodName)) (argsL := [(.int (4 : Int32)), (.long (0 : Int64))]) (rest := []) hown (wd_ hw 245 rfl) (wd_ hw 246 rfl) (wd_ hw 3 rfl) (wd_ hw 247 rfl) (wd_ hw 4 rfl) (wd_ hw 248 rfl) (by decide) (a := s_) Q.1 (rm41_n l Z a0 hw [] s_ (4 : Int32) (0 : Int64) no_ bu ow od' ub' nl nc (own_i A_) (own_i (18 + K_)) (own_i (I_ + 1)) (own_i I_) sk mx mi (0 : Int64) kl cl kq ku _ _ I_ L_ h25 n0 Z0 SA_ SB_ SC_ O Q g_s_ Vq Vu hsq hsu hqu g_od' g_ub' hlt hL) e25 (by rw [hml]; rfl) pd_9 rfl rfl i10_362 (by decide) 0 rfl (by decide) hc4 hs4 fun T26 v26 L26 X26 q26 => ?_
  obtain ⟨rfl, ⟨vq26, vu26, K26, Q26, Vq26, Vu26, hv26⟩, N26⟩ := q26
  have N0 := Fr.app N0 N26
  have K0 := K0.trans K26 (fun x hx => by simp at hx; rcases hx with rfl | rfl | rfl; exact Or.inl (by simp); exact hod.elim (fun q => Or.inl (by simp [q])) Or.inr; exact hub.elim (fun q => Or.inl (by simp [q])) Or.inr)
  have Vb := Vb.keep K26 (ninS (Ne.symm hsb) (ninS hbq (ninS hbu nin0)))
  have O := O.keep K26 (allS g_s_ (allS g_od' (allS g_ub' all0)))
  have Z0 : n0 ≤ T26.heap.size := Nat.le_trans Z0 K26.1
  show Gd p e below _ T26 (mkF m 365 #[.val (.ref s_), .val (.int (own_i (A_ + I_))), .val (.int (159 : Int32)), .val (.int (4 : Int32)), .val (.int (4 : Int32)), .unset, .unset, .unset, .unset, .unset] [])
  refine g_goto X26 hx hby i10_365 ?_
  exact kont T26 _ _ _ _ _ X26 N0 ⟨od', ub', _, _, _, _, _, _, _, Q26, Vb, Vq26, Vu26, (fun _ => hv26), g_od', g_ub', hsq, hsu, hqu, hbq, hbu, hod, hub, K0, O, Z0⟩
theorem ps_vg (l : Launch) (Z : State) (a0 : Array Value) (hw : ∀ d ∈ tables_1, d.before a0 Z = true) {p : Program} {e : Env} {s : State} {m : MethodId} {args : Array Value} {below : List Frame} {meth : Method} {c : Code} (hx : p.tables.exec = Jvm.exec) (hby : c.code = prog_32_method_15_code) (hml : c.maxLocals = 10) (hZ : Z.Warmed39 s.vm) (hown : s.vm.findClass "com/example/ariel/ariel/cbor/CborSequence" = some m.cls) (hret : meth.sig.returnType = (some .boolean)) (hlk : meth.locks = false) {P : State → Prop} {cells slots : Nat} (h0 : Heap) (n0 : Nat) (no_ s_ bu ow od ub nl nc : Addr) (A_ K_ D_ N_ : Nat) (mx mi : Int32) (kb : ClassId) (vb : List Value) (SA_ : Sta Z Z.heap "com/example/ariel/ariel/cbor/CborSequence" "NOTHING" "[B" (.ref no_)) (SB_ : Sta Z Z.heap "com/example/ariel/ariel/cbor/CborSequence" "NO_LENGTHS" "[J" (.ref nl)) (SC_ : Sta Z Z.heap "com/example/ariel/ariel/cbor/CborSequence" "NO_CUTS" "[I" (.ref nc)) (g_s_ : n0 ≤ s_) (hsb : s_ ≠ bu) (hbyte : ∀ j, j < 17 → vb.getD j (.int (0 : Int32)) = .int (-97 : Int32)) (hb17 : vb.getD 17 (.int (0 : Int32)) = .int (own_i (64 + N_))) (hA : A_ + D_ = 17) (hN : N_ < 24) (hK : K_ ≤ N_) (hmx : ¬ mx < (41 : Int32)) (I_ : Nat) (hi0 : 0 < I_) (hi1 : I_ ≤ 16) (hi : I_ < D_) (hc4 : cells + 2 ≤ 4) (hs4 : slots + 64 ≤ 128)
    (T0 : State) (hh : Heap) (locs : List Loc) (x1 x2 x3 x4 : Int32) (X0 : Stand p l e ({ frames := 3, cells := 4, slots := 128, locals := 70 } : Room) s m args below meth c T0 locs cells slots) (e0 : T0.heap = hh) (N0 : Fr n0 locs) (I0 : own_S Z h0 hh n0 s_ bu ow od ub nl nc A_ K_ I_ I_ mx mi kb vb) (kont : ∀ T' locs' (y1 y2 y3 y4 : Int32), Stand p l e ({ frames := 3, cells := 4, slots := 128, locals := 70 } : Room) s m args below meth c T' locs' (cells + 2) (slots + 64) → Fr n0 locs' → own_S Z h0 T'.heap n0 s_ bu ow od ub nl nc A_ K_ (I_ + 1) (2 * I_) mx mi kb vb → Gd p e below P T' (mkF m 0 #[.val (.ref s_), .val (.int y1), .val (.int y2), .val (.int y3), .val (.int y4), .unset, .unset, .unset, .unset, .unset] [])) : Gd p e below P T0 (mkF m 0 #[.val (.ref s_), .val (.int x1), .val (.int x2), .val (.int x3), .val (.int x4), .unset, .unset, .unset, .unset, .unset] []) := by
  obtain ⟨od', ub', kq, ku, vq, vu, sk, kl, cl, Q, Vb, Vq, Vu, hu, g_od', g_ub', hsq, hsu, hqu, hbq, hbu, hod, hub, K0, O, Z0⟩ := I0
  refine g_aloadN X0 hx hby i10_0 rfl rfl ?_
  refine g_aloadN X0 hx hby i10_1 rfl rfl ?_
  refine g_getfield X0 hx hby hZ hown (host := "") (Or.inl (wd_ hw 79 rfl)) Via.refl e0 (own_at Q 4 (by decide) (v := (.int (own_i I_))) rfl) i10_2 fun T1 X1 e1 => ?_
  refine g_aloadN X1 hx hby i10_5 rfl rfl ?_
  refine g_getfield X1 hx hby hZ hown (host := "") (Or.inl (wd_ hw 81 rfl)) Via.refl e1 (own_at Q 16 (by decide) (v := (.int (0 : Int32))) rfl) i10_6 fun T2 X2 e2 => ?_
  refine g_isub X2 hx hby i10_9 ?_
  rw [Int32.sub_zero]
  refine g_callPriv X2 hx hby hZ (y := (⟨"com/example/ariel/ariel/cbor/CborSequence", "checkHeld", "(I)V"⟩ : MethodName)) (argsL := [(.int (own_i I_))]) (rest := []) hown (wd_ hw 83 rfl) (wd_ hw 84 rfl) (wd_ hw 3 rfl) (wd_ hw 85 rfl) (wd_ hw 4 rfl) (wd_ hw 86 rfl) (by decide) (a := s_) Q.1 (rm11 l Z a0 hw [] s_ (own_i I_) bu ow od' ub' nl nc (own_i A_) (own_i (18 + K_)) (own_i I_) (own_i I_) sk mx mi (0 : Int64) kl cl hh n0 Z0 Q (own_41 hmx (by omega))) e2 (by rw [hml]; rfl) pd_8 rfl rfl i10_10 (by decide) 0 rfl (by decide) (by first | exact hc4 | exact Nat.le_trans (Nat.le_add_right _ 2) hc4) (by first | exact hs4 | exact Nat.le_trans (Nat.le_add_right _ 64) hs4) fun T3 v3 L3 X3 q3 => ?_
  obtain ⟨rfl, e3, N3⟩ := q3
  have N0 := Fr.app N0 N3
  show Gd p e below _ T3 (mkF m 13 #[.val (.ref s_), .val (.int x1), .val (.int x2), .val (.int x3), .val (.int x4), .unset, .unset, .unset, .unset, .unset] [])
  refine g_aloadN X3 hx hby i10_13 rfl rfl ?_
  refine g_getfield X3 hx hby hZ hown (host := "") (Or.inl (wd_ hw 87 rfl)) Via.refl e3 (own_at Q 8 (by decide) (v := (.long (0 : Int64))) rfl) i10_14 fun T4 X4 e4 => ?_
  refine g_lconst X4 hx hby i10_17 (z := (0 : Int64)) (by decide) ?_
  refine g_lcmp_eq X4 hx hby i10_18 i10_19 (fun c18_5 => ?_) (fun c18_5 => False.elim (absurd c18_5 (by decide)))
  refine g_aloadN X4 hx hby i10_160 rfl rfl ?_
  refine g_getfield X4 hx hby hZ hown (host := "") (Or.inl (wd_ hw 55 rfl)) Via.refl e4 (own_at Q 2 (by decide) (v := (.int (own_i A_))) rfl) i10_161 fun T6 X6 e6 => ?_
  refine g_aloadN X6 hx hby i10_164 rfl rfl ?_
  refine g_getfield X6 hx hby hZ hown (host := "") (Or.inl (wd_ hw 79 rfl)) Via.refl e6 (own_at Q 4 (by decide) (v := (.int (own_i I_))) rfl) i10_165 fun T7 X7 e7 => ?_
  refine g_iadd X7 hx hby i10_168 ?_
  rw [own_iadd]
  refine g_istoreN X7 hx hby i10_169 (l' := #[.val (.ref s_), .val (.int (own_i (A_ + I_))), .val (.int x2), .val (.int x3), .val (.int x4), .unset, .unset, .unset, .unset, .unset]) rfl ?_
  refine g_iloadN X7 hx hby i10_170 rfl ?_
  refine g_aloadN X7 hx hby i10_171 rfl rfl ?_
  refine g_getfield X7 hx hby hZ hown (host := "") (Or.inl (wd_ hw 53 rfl)) Via.refl e7 (own_at Q 3 (by decide) (v := (.int (own_i (18 + K_)))) rfl) i10_172 fun T8 X8 e8 => ?_
  refine g_icmp_ne X8 hx hby i10_175 (fun c175_9 => ?_) (fun c175_9 => False.elim (absurd ((own_ieq (by omega) (by omega)).mp c175_9) (by omega)))
  refine g_aloadN X8 hx hby i10_180 rfl rfl ?_
  refine g_getfield X8 hx hby hZ hown (host := "") (Or.inl (wd_ hw 20 rfl)) Via.refl e8 (own_at Q 0 (by decide) (v := (.ref bu)) rfl) i10_181 fun T10 X10 e10 => ?_
  refine g_iloadN X10 hx hby i10_184 rfl ?_
  refine g_baload X10 hx hby hZ e10 Vb (i := A_ + I_) (own_nn (by omega)) ((own_ilt (b := 41) (by omega) (by omega)).mpr (by omega)) (own_tc (by omega)) (hbyte _ (by omega)) i10_185 ?_
  refine g_sipush X10 hx hby i10_186 (z := (255 : Int32)) (by decide) ?_
  refine g_iand X10 hx hby i10_189 ?_
  rw [show ((-97 : Int32) &&& (255 : Int32)) = (159 : Int32) from by decide]
  refine g_istoreN X10 hx hby i10_190 (l' := #[.val (.ref s_), .val (.int (own_i (A_ + I_))), .val (.int (159 : Int32)), .val (.int x3), .val (.int x4), .unset, .unset, .unset, .unset, .unset]) rfl ?_
  refine g_aloadN X10 hx hby i10_191 rfl rfl ?_
  refine g_getfield X10 hx hby hZ hown (host := "") (Or.inl (wd_ hw 89 rfl)) Via.refl e10 (own_at Q 7 (by decide) (v := (.int (own_i I_))) rfl) i10_192 fun T11 X11 e11 => ?_
  refine g_if_ne X11 hx hby i10_195 (fun c195_12 => ?_) (fun c195_12 => False.elim (own_ne0 hi0 (by omega) c195_12))
  refine g_aloadN X11 hx hby i10_202 rfl rfl ?_
  refine g_getfield X11 hx hby hZ hown (host := "") (Or.inl (wd_ hw 28 rfl)) Via.refl e11 (own_at Q 6 (by decide) (v := (.ref ub')) rfl) i10_203 fun T13 X13 e13 => ?_
  refine g_aloadN X13 hx hby i10_206 rfl rfl ?_
  refine g_getfield X13 hx hby hZ hown (host := "") (Or.inl (wd_ hw 89 rfl)) Via.refl e13 (own_at Q 7 (by decide) (v := (.int (own_i I_))) rfl) i10_207 fun T14 X14 e14 => ?_
  refine g_iconst X14 hx hby i10_210 (z := (1 : Int32)) (by decide) ?_
  refine g_isub X14 hx hby i10_211 ?_
  rw [own_ipred hi0]
  refine g_iaload X14 hx hby hZ e14 Vu (i := I_ - 1) (v := .int (4 : Int32)) (own_nn (by omega)) ((own_ilt (by omega) (by omega)).mpr (by omega)) (own_tc (by omega)) (hu hi0) i10_212 ?_
  refine g_istoreN X14 hx hby i10_213 (l' := #[.val (.ref s_), .val (.int (own_i (A_ + I_))), .val (.int (159 : Int32)), .val (.int (4 : Int32)), .val (.int x4), .unset, .unset, .unset, .unset, .unset]) rfl ?_
  refine g_iloadN X14 hx hby i10_214 rfl ?_
  refine g_sipush X14 hx hby i10_215 (z := (255 : Int32)) (by decide) ?_
  refine g_icmp_ne X14 hx hby i10_218 (fun c218_15 => ?_) (fun c218_15 => False.elim (absurd c218_15 (by decide)))
  refine g_iloadN X14 hx hby i10_275 rfl ?_
  refine g_iconst X14 hx hby i10_276 (z := (2 : Int32)) (by decide) ?_
  refine g_icmp_eq X14 hx hby i10_277 (fun c277_16 => False.elim (absurd c277_16 (by decide))) fun c277_16 => ?_
  refine g_iloadN X14 hx hby i10_280 rfl ?_
  refine g_iconst X14 hx hby i10_281 (z := (3 : Int32)) (by decide) ?_
  refine g_icmp_ne X14 hx hby i10_282 (fun c282_17 => ?_) (fun c282_17 => False.elim (absurd c282_17 (by decide)))
  refine g_iloadN X14 hx hby i10_290 rfl ?_
  refine g_callS0 X14 hx hby hZ (y := (⟨"com/example/ariel/ariel/cbor/CborReader", "checkInitialByte", "(I)V"⟩ : MethodName)) (argsL := [(.int (159 : Int32))]) (rest := []) hown (wd_ hw 91 rfl) (wd_ hw 92 rfl) (wd_ hw 40 rfl) (wd_ hw 93 rfl) (by decide) (rm12_a l Z a0 hw [] (159 : Int32) hh n0 Z0 rfl) e14 (by rw [hml]; rfl) pd_8 rfl rfl i10_291 (by decide) 0 rfl (by decide) (by first | exact hc4 | exact Nat.le_trans (Nat.le_add_right _ 2) hc4) (by first | exact hs4 | exact Nat.le_trans (Nat.le_add_right _ 64) hs4) fun T18 v18 L18 X18 q18 => ?_
  obtain ⟨rfl, e18, N18⟩ := q18
  have N0 := Fr.app N0 N18
  show Gd p e below _ T18 (mkF m 294 #[.val (.ref s_), .val (.int (own_i (A_ + I_))), .val (.int (159 : Int32)), .val (.int (4 : Int32)), .val (.int x4), .unset, .unset, .unset, .unset, .unset] [])
  refine g_iloadN X18 hx hby i10_294 rfl ?_
  refine g_iconst X18 hx hby i10_295 (z := (5 : Int32)) (by decide) ?_
  refine g_iushr X18 hx hby i10_296 ?_
  rw [show ((159 : Int32).toUInt32 >>> ((5 : Int32) &&& 31).toUInt32).toInt32 = (4 : Int32) from by decide]
  refine g_istore X18 hx hby i10_297 (l' := #[.val (.ref s_), .val (.int (own_i (A_ + I_))), .val (.int (159 : Int32)), .val (.int (4 : Int32)), .val (.int (4 : Int32)), .unset, .unset, .unset, .unset, .unset]) rfl ?_
  refine g_iload X18 hx hby i10_299 rfl ?_
  refine g_iconst X18 hx hby i10_301 (z := (2 : Int32)) (by decide) ?_
  refine g_icmp_ne X18 hx hby i10_302 (fun c302_19 => ?_) (fun c302_19 => False.elim (absurd c302_19 (by decide)))
  refine g_iloadN X18 hx hby i10_320 rfl ?_
  refine g_bipush X18 hx hby i10_321 (z := (31 : Int32)) (by decide) ?_
  refine g_iand X18 hx hby i10_323 ?_
  rw [show ((159 : Int32) &&& (31 : Int32)) = (31 : Int32) from by decide]
  refine g_bipush X18 hx hby i10_324 (z := (31 : Int32)) (by decide) ?_
  refine g_icmp_ne X18 hx hby i10_326 (fun c326_20 => False.elim (absurd c326_20 (by decide))) fun c326_20 => ?_
  refine g_iload X18 hx hby i10_329 rfl ?_
  refine g_iconst X18 hx hby i10_331 (z := (4 : Int32)) (by decide) ?_
  refine g_icmp_eq X18 hx hby i10_332 (fun c332_21 => ?_) (fun c332_21 => False.elim (absurd c332_21 (by decide)))
  refine g_aloadN X18 hx hby i10_341 rfl rfl ?_
  refine g_getfield X18 hx hby hZ hown (host := "") (Or.inl (wd_ hw 89 rfl)) Via.refl e18 (own_at Q 7 (by decide) (v := (.int (own_i I_))) rfl) i10_342 fun T22 X22 e22 => ?_
  refine g_callS0 X22 hx hby hZ (y := (⟨"com/example/ariel/ariel/cbor/CborReader", "checkDepth", "(I)V"⟩ : MethodName)) (argsL := [(.int (own_i I_))]) (rest := []) hown (wd_ hw 242 rfl) (wd_ hw 243 rfl) (wd_ hw 40 rfl) (wd_ hw 244 rfl) (by decide) (rm40 l Z a0 hw [] (own_i I_) hh n0 Z0 ((own_ilt (b := 256) (by omega) (by omega)).mpr (by omega))) e22 (by rw [hml]; rfl) pd_8 rfl rfl i10_345 (by decide) 0 rfl (by decide) (by first | exact hc4 | exact Nat.le_trans (Nat.le_add_right _ 2) hc4) (by first | exact hs4 | exact Nat.le_trans (Nat.le_add_right _ 64) hs4) fun T23 v23 L23 X23 q23 => ?_
  obtain ⟨rfl, e23, N23⟩ := q23
  have N0 := Fr.app N0 N23
  show Gd p e below _ T23 (mkF m 348 #[.val (.ref s_), .val (.int (own_i (A_ + I_))), .val (.int (159 : Int32)), .val (.int (4 : Int32)), .val (.int (4 : Int32)), .unset, .unset, .unset, .unset, .unset] [])
  refine g_aloadN X23 hx hby i10_348 rfl rfl ?_
  refine g_dup X23 hx hby i10_349 rfl ?_
  refine g_getfield X23 hx hby hZ hown (host := "") (Or.inl (wd_ hw 79 rfl)) Via.refl e23 (own_at Q 4 (by decide) (v := (.int (own_i I_))) rfl) i10_350 fun T24 X24 e24 => ?_
  refine g_iconst X24 hx hby i10_353 (z := (1 : Int32)) (by decide) ?_
  refine g_iadd X24 hx hby i10_354 ?_
  rw [own_isucc]
  refine g_putfield X24 hx hby hZ hown (host := "") (Or.inl (wd_ hw 79 rfl)) Via.refl e24 (own_at Q 4 (by decide) (v := (.int (own_i I_))) rfl) Q.1 (Or.inl (wd_ hw 80 rfl)) (wd_ hw 3 rfl) (ty := .int) (by decide) rfl rfl i10_355 fun T25 h25 X25 e25 W25 => ?_
  have Q : own_seq Z h25 s_ [(.ref bu), (.ref ow), (.int (own_i A_)), (.int (own_i (18 + K_))), (.int (own_i (I_ + 1))), (.ref od'), (.ref ub'), (.int (own_i I_)), (.long (0 : Int64)), (.long kl), (.int sk), (.long cl), (.ref nl), (.int (0 : Int32)), (.ref nc), (.int (0 : Int32)), (.int (0 : Int32)), (.long (0 : Int64)), (.int (0 : Int32)), (.int mx), (.int mi), (.int (0 : Int32))] := Q.put hw (i := 4) (by decide) W25
  have Vb := Vb.other W25 (Ne.symm hsb)
  have Vq := Vq.other W25 (Ne.symm hsq)
  have Vu := Vu.other W25 (Ne.symm hsu)
  have O := O.wr W25 g_s_
  have Z0 : n0 ≤ h25.size := Nat.le_trans Z0 (Nat.le_of_eq W25.size.symm)
  have N0 := Fr.snoc X25 N0 g_s_
  have K0 := K0.wr W25 (Or.inl (by simp))
  refine g_aloadN X25 hx hby i10_358 rfl rfl ?_
  refine g_iload X25 hx hby i10_359 rfl ?_
  refine g_lconst X25 hx hby i10_361 (z := (0 : Int64)) (by decide) ?_
  refine g_callPriv X25 hx hby hZ (y := (⟨"com/example/ariel/ariel/cbor/CborSequence", "open", "(IJ)V"⟩ : MethodName)) (argsL := [(.int (4 : Int32)), (.long (0 : Int64))]) (rest := []) hown (wd_ hw 245 rfl) (wd_ hw 246 rfl) (wd_ hw 3 rfl) (wd_ hw 247 rfl) (wd_ hw 4 rfl) (wd_ hw 248 rfl) (by decide) (a := s_) Q.1 (rm41_g l Z a0 hw [] s_ (4 : Int32) (0 : Int64) no_ bu ow od' ub' nl nc (own_i A_) (own_i (18 + K_)) (own_i (I_ + 1)) (own_i I_) sk mx mi (0 : Int64) kl cl kq ku _ _ I_ h25 n0 Z0 SA_ SB_ SC_ O Q g_s_ Vq Vu hsq hsu hqu hi0 hi1) e25 (by rw [hml]; rfl) pd_9 rfl rfl i10_362 (by decide) 0 rfl (by decide) (by first | exact hc4 | exact Nat.le_trans (Nat.le_add_right _ 2) hc4) (by first | exact hs4 | exact Nat.le_trans (Nat.le_add_right _ 64) hs4) fun T26 v26 L26 X26 q26 => ?_
  obtain ⟨rfl, ⟨od26, ub26, kq26, ku26, vq26, vu26, K26, Q26, Vq26, Vu26, hv26, g_od26, g_ub26, so26, su26, hqu26⟩, N26⟩ := q26
  have N0 := Fr.app N0 N26
  have ne_s__od26 : s_ ≠ od26 := Nat.ne_of_lt (Nat.lt_of_lt_of_le Q.lt so26)
  have ne_bu_od26 : bu ≠ od26 := Nat.ne_of_lt (Nat.lt_of_lt_of_le Vb.lt so26)
  have ne_od'_od26 : od' ≠ od26 := Nat.ne_of_lt (Nat.lt_of_lt_of_le Vq.lt so26)
  have ne_ub'_od26 : ub' ≠ od26 := Nat.ne_of_lt (Nat.lt_of_lt_of_le Vu.lt so26)
  have ne_s__ub26 : s_ ≠ ub26 := Nat.ne_of_lt (Nat.lt_of_lt_of_le Q.lt su26)
  have ne_bu_ub26 : bu ≠ ub26 := Nat.ne_of_lt (Nat.lt_of_lt_of_le Vb.lt su26)
  have ne_od'_ub26 : od' ≠ ub26 := Nat.ne_of_lt (Nat.lt_of_lt_of_le Vq.lt su26)
  have ne_ub'_ub26 : ub' ≠ ub26 := Nat.ne_of_lt (Nat.lt_of_lt_of_le Vu.lt su26)
  have sz_od26 : h0.size ≤ od26 := Nat.le_trans K0.1 so26
  have sz_ub26 : h0.size ≤ ub26 := Nat.le_trans K0.1 su26
  have K0 := K0.trans K26 (fun x hx => by simp at hx; subst hx; exact Or.inl (by simp))
  have Vb := Vb.keep K26 (ninS (Ne.symm hsb) nin0)
  have Vq := Vq.keep K26 (ninS (Ne.symm hsq) nin0)
  have Vu := Vu.keep K26 (ninS (Ne.symm hsu) nin0)
  have O := O.keep K26 (allS g_s_ all0)
  have Z0 : n0 ≤ T26.heap.size := Nat.le_trans Z0 K26.1
  show Gd p e below _ T26 (mkF m 365 #[.val (.ref s_), .val (.int (own_i (A_ + I_))), .val (.int (159 : Int32)), .val (.int (4 : Int32)), .val (.int (4 : Int32)), .unset, .unset, .unset, .unset, .unset] [])
  refine g_goto X26 hx hby i10_365 ?_
  exact kont T26 _ _ _ _ _ X26 N0 ⟨od26, ub26, _, _, _, _, _, _, _, Q26, Vb, Vq26, Vu26, (fun _ => hv26), g_od26, g_ub26, ne_s__od26, ne_s__ub26, hqu26, ne_bu_od26, ne_bu_ub26, Or.inr sz_od26, Or.inr sz_ub26, K0, O, Z0⟩
theorem lpN (l : Launch) (Z : State) (a0 : Array Value) (hw : ∀ d ∈ tables_1, d.before a0 Z = true) {p : Program} {e : Env} {s : State} {m : MethodId} {args : Array Value} {below : List Frame} {meth : Method} {c : Code} (hx : p.tables.exec = Jvm.exec) (hby : c.code = prog_32_method_15_code) (hml : c.maxLocals = 10) (hZ : Z.Warmed39 s.vm) (hown : s.vm.findClass "com/example/ariel/ariel/cbor/CborSequence" = some m.cls) (hret : meth.sig.returnType = (some .boolean)) (hlk : meth.locks = false) {P : State → Prop} {cells slots : Nat} (h0 : Heap) (n0 : Nat) (no_ s_ bu ow od ub nl nc : Addr) (A_ K_ D_ N_ : Nat) (mx mi : Int32) (kb : ClassId) (vb : List Value) (SA_ : Sta Z Z.heap "com/example/ariel/ariel/cbor/CborSequence" "NOTHING" "[B" (.ref no_)) (SB_ : Sta Z Z.heap "com/example/ariel/ariel/cbor/CborSequence" "NO_LENGTHS" "[J" (.ref nl)) (SC_ : Sta Z Z.heap "com/example/ariel/ariel/cbor/CborSequence" "NO_CUTS" "[I" (.ref nc)) (g_s_ : n0 ≤ s_) (hsb : s_ ≠ bu) (hbyte : ∀ j, j < 17 → vb.getD j (.int (0 : Int32)) = .int (-97 : Int32)) (hb17 : vb.getD 17 (.int (0 : Int32)) = .int (own_i (64 + N_))) (hA : A_ + D_ = 17) (hN : N_ < 24) (hK : K_ ≤ N_) (hmx : ¬ mx < (41 : Int32)) (L_ J_ : Nat) (hJL : J_ ≤ L_) (hJD : J_ ≤ D_) (hL : L_ ≤ 64) (hc4 : cells ≤ 4) (hs4 : slots ≤ 128) : ∀ (r i : Nat), i + r = J_ → 0 < i → ∀ (T0 : State) (locs : List Loc) (x1 x2 x3 x4 : Int32), Stand p l e ({ frames := 3, cells := 4, slots := 128, locals := 70 } : Room) s m args below meth c T0 locs cells slots → Fr n0 locs → own_S Z h0 T0.heap n0 s_ bu ow od ub nl nc A_ K_ i L_ mx mi kb vb → ∀ (kont : ∀ T' locs' (y1 y2 y3 y4 : Int32), Stand p l e ({ frames := 3, cells := 4, slots := 128, locals := 70 } : Room) s m args below meth c T' locs' cells slots → Fr n0 locs' → own_S Z h0 T'.heap n0 s_ bu ow od ub nl nc A_ K_ J_ L_ mx mi kb vb → Gd p e below P T' (mkF m 0 #[.val (.ref s_), .val (.int y1), .val (.int y2), .val (.int y3), .val (.int y4), .unset, .unset, .unset, .unset, .unset] [])), Gd p e below P T0 (mkF m 0 #[.val (.ref s_), .val (.int x1), .val (.int x2), .val (.int x3), .val (.int x4), .unset, .unset, .unset, .unset, .unset] []) := by
  intro r
  induction r with
  | zero =>
    intro i hi hi0 T0 locs x1 x2 x3 x4 X0 N0 I0 kont
    obtain rfl : i = J_ := by omega
    exact kont T0 locs x1 x2 x3 x4 X0 N0 I0
  | succ r ih =>
    intro i hi hi0 T0 locs x1 x2 x3 x4 X0 N0 I0 kont
    exact ps_vn l Z a0 hw hx hby hml hZ hown hret hlk h0 n0 no_ s_ bu ow od ub nl nc A_ K_ D_ N_ mx mi kb vb SA_ SB_ SC_ g_s_ hsb hbyte hb17 hA hN hK hmx i L_ hi0 (by omega) (by omega) hL hc4 hs4 T0 T0.heap locs x1 x2 x3 x4 X0 rfl N0 I0 fun T' locs' y1 y2 y3 y4 X' N' I' => ih (i + 1) (by omega) (by omega) T' locs' y1 y2 y3 y4 X' N' I' kont
theorem pd_10 : parseMethodDescriptor "(I)I" = some ⟨[.int], some .int⟩ := by decide +kernel
theorem pd_11 : parseMethodDescriptor "(J)J" = some ⟨[.long], some .long⟩ := by decide +kernel
theorem pd_12 : parseMethodDescriptor "()Z" = some ⟨[], some .boolean⟩ := by decide +kernel
theorem fn_0 (l : Launch) (Z : State) (a0 : Array Value) (hw : ∀ d ∈ tables_1, d.before a0 Z = true) {p : Program} {e : Env} {s : State} {m : MethodId} {args : Array Value} {below : List Frame} {meth : Method} {c : Code} (hx : p.tables.exec = Jvm.exec) (hby : c.code = prog_32_method_15_code) (hml : c.maxLocals = 10) (hZ : Z.Warmed39 s.vm) (hown : s.vm.findClass "com/example/ariel/ariel/cbor/CborSequence" = some m.cls) (hret : meth.sig.returnType = (some .boolean)) (hlk : meth.locks = false) (h0 : Heap) (n0 : Nat) (no_ s_ bu ow od ub nl nc : Addr) (A_ K_ N_ : Nat) (mx mi : Int32) (kb : ClassId) (vb : List Value) (SA_ : Sta Z Z.heap "com/example/ariel/ariel/cbor/CborSequence" "NOTHING" "[B" (.ref no_)) (SB_ : Sta Z Z.heap "com/example/ariel/ariel/cbor/CborSequence" "NO_LENGTHS" "[J" (.ref nl)) (SC_ : Sta Z Z.heap "com/example/ariel/ariel/cbor/CborSequence" "NO_CUTS" "[I" (.ref nc)) (g_s_ : n0 ≤ s_) (hsb : s_ ≠ bu) (hbyte : ∀ j, j < 17 → vb.getD j (.int (0 : Int32)) = .int (-97 : Int32)) (hb17 : vb.getD 17 (.int (0 : Int32)) = .int (own_i (64 + N_))) (hA : A_ + 0 = 17) (hN : N_ < 24) (hK : K_ ≤ N_) (hmx : ¬ mx < (41 : Int32)) 
    (T0 : State) (hh : Heap) (locs : List Loc)  (X0 : Stand p l e ({ frames := 3, cells := 4, slots := 128, locals := 70 } : Room) s m args below meth c T0 locs 4 128) (e0 : T0.heap = hh) (N0 : Fr n0 locs) (I0 : own_S Z h0 hh n0 s_ bu ow od ub nl nc A_ K_ 0 (8 + own_lev 0) mx mi kb vb) : Gd p e below (Fin1 s below 4 128 (RV fun vv h L => ∃ od' ub' kq vq sl kl, vv = .int (if 0 = 0 ∧ K_ = N_ then 1 else 0) ∧ Keep h0 h [s_, od, ub] ∧ own_seq Z h s_ [(.ref bu), (.ref ow), (.int (own_i A_)), (.int (own_i (18 + K_))), (.int (own_i (0 + 1 + K_))), (.ref od'), (.ref ub'), (.int (own_i 0)), (.long sl), (.long kl), (.int (0 : Int32)), (.long (0 : Int64)), (.ref nl), (.int (0 : Int32)), (.ref nc), (.int (0 : Int32)), (.int (0 : Int32)), (.long (0 : Int64)), (.int (0 : Int32)), (.int mx), (.int mi), (.int (0 : Int32))] ∧ Arv Z h od' kq .long (own_i (8 + own_lev 0)) vq (.long (0 : Int64)) ∧ n0 ≤ od' ∧ (od' = od ∨ h0.size ≤ od') ∧ s_ ≠ od' ∧ Fr n0 L)) T0 (mkF m 0 #[.val (.ref s_), .unset, .unset, .unset, .unset, .unset, .unset, .unset, .unset, .unset] []) := by
  obtain ⟨od', ub', kq, ku, vq, vu, sk, kl, cl, Q, Vb, Vq, Vu, hu, g_od', g_ub', hsq, hsu, hqu, hbq, hbu, hod, hub, K0, O, Z0⟩ := I0
  refine g_aloadN X0 hx hby i10_0 rfl rfl ?_
  refine g_aloadN X0 hx hby i10_1 rfl rfl ?_
  refine g_getfield X0 hx hby hZ hown (host := "") (Or.inl (wd_ hw 79 rfl)) Via.refl e0 (own_at Q 4 (by decide) (v := (.int (own_i 0))) rfl) i10_2 fun T1 X1 e1 => ?_
  refine g_aloadN X1 hx hby i10_5 rfl rfl ?_
  refine g_getfield X1 hx hby hZ hown (host := "") (Or.inl (wd_ hw 81 rfl)) Via.refl e1 (own_at Q 16 (by decide) (v := (.int (0 : Int32))) rfl) i10_6 fun T2 X2 e2 => ?_
  refine g_isub X2 hx hby i10_9 ?_
  rw [Int32.sub_zero]
  refine g_callPriv X2 hx hby hZ (y := (⟨"com/example/ariel/ariel/cbor/CborSequence", "checkHeld", "(I)V"⟩ : MethodName)) (argsL := [(.int (own_i 0))]) (rest := []) hown (wd_ hw 83 rfl) (wd_ hw 84 rfl) (wd_ hw 3 rfl) (wd_ hw 85 rfl) (wd_ hw 4 rfl) (wd_ hw 86 rfl) (by decide) (a := s_) Q.1 (rm11 l Z a0 hw [] s_ (own_i 0) bu ow od' ub' nl nc (own_i A_) (own_i (18 + K_)) (own_i 0) (own_i 0) sk mx mi (0 : Int64) kl cl hh n0 Z0 Q (own_41 hmx (by omega))) e2 (by rw [hml]; rfl) pd_8 rfl rfl i10_10 (by decide) 0 rfl (by decide) (by decide) (by decide) fun T3 v3 L3 X3 q3 => ?_
  obtain ⟨rfl, e3, N3⟩ := q3
  have N0 := Fr.app N0 N3
  show Gd p e below _ T3 (mkF m 13 #[.val (.ref s_), .unset, .unset, .unset, .unset, .unset, .unset, .unset, .unset, .unset] [])
  refine g_aloadN X3 hx hby i10_13 rfl rfl ?_
  refine g_getfield X3 hx hby hZ hown (host := "") (Or.inl (wd_ hw 87 rfl)) Via.refl e3 (own_at Q 8 (by decide) (v := (.long (0 : Int64))) rfl) i10_14 fun T4 X4 e4 => ?_
  refine g_lconst X4 hx hby i10_17 (z := (0 : Int64)) (by decide) ?_
  refine g_lcmp_eq X4 hx hby i10_18 i10_19 (fun c18_5 => ?_) (fun c18_5 => False.elim (absurd c18_5 (by decide)))
  refine g_aloadN X4 hx hby i10_160 rfl rfl ?_
  refine g_getfield X4 hx hby hZ hown (host := "") (Or.inl (wd_ hw 55 rfl)) Via.refl e4 (own_at Q 2 (by decide) (v := (.int (own_i A_))) rfl) i10_161 fun T6 X6 e6 => ?_
  refine g_aloadN X6 hx hby i10_164 rfl rfl ?_
  refine g_getfield X6 hx hby hZ hown (host := "") (Or.inl (wd_ hw 79 rfl)) Via.refl e6 (own_at Q 4 (by decide) (v := (.int (own_i 0))) rfl) i10_165 fun T7 X7 e7 => ?_
  refine g_iadd X7 hx hby i10_168 ?_
  rw [own_iadd]
  refine g_istoreN X7 hx hby i10_169 (l' := #[.val (.ref s_), .val (.int (own_i (A_ + 0))), .unset, .unset, .unset, .unset, .unset, .unset, .unset, .unset]) rfl ?_
  refine g_iloadN X7 hx hby i10_170 rfl ?_
  refine g_aloadN X7 hx hby i10_171 rfl rfl ?_
  refine g_getfield X7 hx hby hZ hown (host := "") (Or.inl (wd_ hw 53 rfl)) Via.refl e7 (own_at Q 3 (by decide) (v := (.int (own_i (18 + K_)))) rfl) i10_172 fun T8 X8 e8 => ?_
  refine g_icmp_ne X8 hx hby i10_175 (fun c175_9 => ?_) (fun c175_9 => False.elim (absurd ((own_ieq (by omega) (by omega)).mp c175_9) (by omega)))
  refine g_aloadN X8 hx hby i10_180 rfl rfl ?_
  refine g_getfield X8 hx hby hZ hown (host := "") (Or.inl (wd_ hw 20 rfl)) Via.refl e8 (own_at Q 0 (by decide) (v := (.ref bu)) rfl) i10_181 fun T10 X10 e10 => ?_
  refine g_iloadN X10 hx hby i10_184 rfl ?_
  refine g_baload X10 hx hby hZ e10 Vb (i := 17) (own_nn (by omega)) ((own_ilt (b := 41) (by omega) (by omega)).mpr (by omega)) (by rw [own_tc (by omega)]; omega) hb17 i10_185 ?_
  refine g_sipush X10 hx hby i10_186 (z := (255 : Int32)) (by decide) ?_
  refine g_iand X10 hx hby i10_189 ?_
  rw [(own_by1 hN).1]
  refine g_istoreN X10 hx hby i10_190 (l' := #[.val (.ref s_), .val (.int (own_i (A_ + 0))), .val (.int (own_i (64 + N_))), .unset, .unset, .unset, .unset, .unset, .unset, .unset]) rfl ?_
  refine g_aloadN X10 hx hby i10_191 rfl rfl ?_
  refine g_getfield X10 hx hby hZ hown (host := "") (Or.inl (wd_ hw 89 rfl)) Via.refl e10 (own_at Q 7 (by decide) (v := (.int (own_i 0))) rfl) i10_192 fun T11 X11 e11 => ?_
  refine g_if_ne X11 hx hby i10_195 (fun c195_12 => False.elim (c195_12 rfl)) fun c195_12 => ?_
  refine g_iconst X11 hx hby i10_198 (z := (-1 : Int32)) (by decide) ?_
  refine g_goto X11 hx hby i10_199 ?_
  refine g_istoreN X11 hx hby i10_213 (l' := #[.val (.ref s_), .val (.int (own_i (A_ + 0))), .val (.int (own_i (64 + N_))), .val (.int (-1 : Int32)), .unset, .unset, .unset, .unset, .unset, .unset]) rfl ?_
  refine g_iloadN X11 hx hby i10_214 rfl ?_
  refine g_sipush X11 hx hby i10_215 (z := (255 : Int32)) (by decide) ?_
  refine g_icmp_ne X11 hx hby i10_218 (fun c218_13 => ?_) (fun c218_13 => False.elim ((own_by1 hN).2.2.2.1 c218_13))
  refine g_iloadN X11 hx hby i10_275 rfl ?_
  refine g_iconst X11 hx hby i10_276 (z := (2 : Int32)) (by decide) ?_
  refine g_icmp_eq X11 hx hby i10_277 (fun c277_14 => False.elim (absurd c277_14 (by decide))) fun c277_14 => ?_
  refine g_iloadN X11 hx hby i10_280 rfl ?_
  refine g_iconst X11 hx hby i10_281 (z := (3 : Int32)) (by decide) ?_
  refine g_icmp_ne X11 hx hby i10_282 (fun c282_15 => ?_) (fun c282_15 => False.elim (absurd c282_15 (by decide)))
  refine g_iloadN X11 hx hby i10_290 rfl ?_
  refine g_callS0 X11 hx hby hZ (y := (⟨"com/example/ariel/ariel/cbor/CborReader", "checkInitialByte", "(I)V"⟩ : MethodName)) (argsL := [(.int (own_i (64 + N_)))]) (rest := []) hown (wd_ hw 91 rfl) (wd_ hw 92 rfl) (wd_ hw 40 rfl) (wd_ hw 93 rfl) (by decide) (rm12_s l Z a0 hw [] (own_i (64 + N_)) hh n0 Z0 (own_by1 hN).2.2.2.1 (by rw [(own_by1 hN).2.1]; exact (own_by1 hN).2.2.2.2.1)) e11 (by rw [hml]; rfl) pd_8 rfl rfl i10_291 (by decide) 0 rfl (by decide) (by decide) (by decide) fun T16 v16 L16 X16 q16 => ?_
  obtain ⟨rfl, e16, N16⟩ := q16
  have N0 := Fr.app N0 N16
  show Gd p e below _ T16 (mkF m 294 #[.val (.ref s_), .val (.int (own_i (A_ + 0))), .val (.int (own_i (64 + N_))), .val (.int (-1 : Int32)), .unset, .unset, .unset, .unset, .unset, .unset] [])
  refine g_iloadN X16 hx hby i10_294 rfl ?_
  refine g_iconst X16 hx hby i10_295 (z := (5 : Int32)) (by decide) ?_
  refine g_iushr X16 hx hby i10_296 ?_
  rw [(own_by1 hN).2.2.1]
  refine g_istore X16 hx hby i10_297 (l' := #[.val (.ref s_), .val (.int (own_i (A_ + 0))), .val (.int (own_i (64 + N_))), .val (.int (-1 : Int32)), .val (.int (2 : Int32)), .unset, .unset, .unset, .unset, .unset]) rfl ?_
  refine g_iload X16 hx hby i10_299 rfl ?_
  refine g_iconst X16 hx hby i10_301 (z := (2 : Int32)) (by decide) ?_
  refine g_icmp_ne X16 hx hby i10_302 (fun c302_17 => False.elim (absurd c302_17 (by decide))) fun c302_17 => ?_
  refine g_iloadN X16 hx hby i10_305 rfl ?_
  refine g_iconst X16 hx hby i10_306 (z := (2 : Int32)) (by decide) ?_
  refine g_icmp_eq X16 hx hby i10_307 (fun c307_18 => False.elim (absurd c307_18 (by decide))) fun c307_18 => ?_
  refine g_aloadN X16 hx hby i10_310 rfl rfl ?_
  refine g_iconst X16 hx hby i10_311 (z := (0 : Int32)) (by decide) ?_
  refine g_putfield X16 hx hby hZ hown (host := "") (Or.inl (wd_ hw 94 rfl)) Via.refl e16 (own_at Q 10 (by decide) (v := (.int sk)) rfl) Q.1 (Or.inl (wd_ hw 95 rfl)) (wd_ hw 3 rfl) (ty := .int) (by decide) rfl rfl i10_312 fun T19 h19 X19 e19 W19 => ?_
  have Q : own_seq Z h19 s_ [(.ref bu), (.ref ow), (.int (own_i A_)), (.int (own_i (18 + K_))), (.int (own_i 0)), (.ref od'), (.ref ub'), (.int (own_i 0)), (.long (0 : Int64)), (.long kl), (.int (0 : Int32)), (.long cl), (.ref nl), (.int (0 : Int32)), (.ref nc), (.int (0 : Int32)), (.int (0 : Int32)), (.long (0 : Int64)), (.int (0 : Int32)), (.int mx), (.int mi), (.int (0 : Int32))] := Q.put hw (i := 10) (by decide) W19
  have Vb := Vb.other W19 (Ne.symm hsb)
  have Vq := Vq.other W19 (Ne.symm hsq)
  have Vu := Vu.other W19 (Ne.symm hsu)
  have O := O.wr W19 g_s_
  have Z0 : n0 ≤ h19.size := Nat.le_trans Z0 (Nat.le_of_eq W19.size.symm)
  have N0 := Fr.snoc X19 N0 g_s_
  have K0 := K0.wr W19 (Or.inl (by simp))
  refine g_aloadN X19 hx hby i10_315 rfl rfl ?_
  refine g_lconst X19 hx hby i10_316 (z := (0 : Int64)) (by decide) ?_
  refine g_putfield X19 hx hby hZ hown (host := "") (Or.inl (wd_ hw 96 rfl)) Via.refl e19 (own_at Q 11 (by decide) (v := (.long cl)) rfl) Q.1 (Or.inl (wd_ hw 97 rfl)) (wd_ hw 3 rfl) (ty := .long) (by decide) rfl rfl i10_317 fun T20 h20 X20 e20 W20 => ?_
  have Q : own_seq Z h20 s_ [(.ref bu), (.ref ow), (.int (own_i A_)), (.int (own_i (18 + K_))), (.int (own_i 0)), (.ref od'), (.ref ub'), (.int (own_i 0)), (.long (0 : Int64)), (.long kl), (.int (0 : Int32)), (.long (0 : Int64)), (.ref nl), (.int (0 : Int32)), (.ref nc), (.int (0 : Int32)), (.int (0 : Int32)), (.long (0 : Int64)), (.int (0 : Int32)), (.int mx), (.int mi), (.int (0 : Int32))] := Q.put hw (i := 11) (by decide) W20
  have Vb := Vb.other W20 (Ne.symm hsb)
  have Vq := Vq.other W20 (Ne.symm hsq)
  have Vu := Vu.other W20 (Ne.symm hsu)
  have O := O.wr W20 g_s_
  have Z0 : n0 ≤ h20.size := Nat.le_trans Z0 (Nat.le_of_eq W20.size.symm)
  have N0 := Fr.snoc X20 N0 g_s_
  have K0 := K0.wr W20 (Or.inl (by simp))
  refine g_iloadN X20 hx hby i10_320 rfl ?_
  refine g_bipush X20 hx hby i10_321 (z := (31 : Int32)) (by decide) ?_
  refine g_iand X20 hx hby i10_323 ?_
  rw [(own_by1 hN).2.1]
  refine g_bipush X20 hx hby i10_324 (z := (31 : Int32)) (by decide) ?_
  refine g_icmp_ne X20 hx hby i10_326 (fun c326_21 => ?_) (fun c326_21 => False.elim ((own_by1 hN).2.2.2.2.2 c326_21))
  refine g_iloadN X20 hx hby i10_368 rfl ?_
  refine g_bipush X20 hx hby i10_369 (z := (31 : Int32)) (by decide) ?_
  refine g_iand X20 hx hby i10_371 ?_
  rw [(own_by1 hN).2.1]
  refine g_callS0 X20 hx hby hZ (y := (⟨"com/example/ariel/ariel/cbor/CborReader", "argumentSize", "(I)I"⟩ : MethodName)) (argsL := [(.int (own_i N_))]) (rest := []) hown (wd_ hw 98 rfl) (wd_ hw 99 rfl) (wd_ hw 40 rfl) (wd_ hw 100 rfl) (by decide) (rm13 l Z a0 hw [] (own_i N_) h20 n0 Z0 (own_by1 hN).2.2.2.2.1) e20 (by rw [hml]; rfl) pd_10 rfl rfl i10_372 (by decide) 0 rfl (by decide) (by decide) (by decide) fun T22 v22 L22 X22 q22 => ?_
  obtain ⟨_, rfl, rfl, e22, N22⟩ := q22
  have N0 := Fr.app N0 N22
  show Gd p e below _ T22 (mkF m 375 #[.val (.ref s_), .val (.int (own_i (A_ + 0))), .val (.int (own_i (64 + N_))), .val (.int (-1 : Int32)), .val (.int (2 : Int32)), .unset, .unset, .unset, .unset, .unset] [(.int (0 : Int32))])
  refine g_istore X22 hx hby i10_375 (l' := #[.val (.ref s_), .val (.int (own_i (A_ + 0))), .val (.int (own_i (64 + N_))), .val (.int (-1 : Int32)), .val (.int (2 : Int32)), .val (.int (0 : Int32)), .unset, .unset, .unset, .unset]) rfl ?_
  refine g_aloadN X22 hx hby i10_377 rfl rfl ?_
  refine g_getfield X22 hx hby hZ hown (host := "") (Or.inl (wd_ hw 53 rfl)) Via.refl e22 (own_at Q 3 (by decide) (v := (.int (own_i (18 + K_)))) rfl) i10_378 fun T23 X23 e23 => ?_
  refine g_iloadN X23 hx hby i10_381 rfl ?_
  refine g_isub X23 hx hby i10_382 ?_
  rw [own_isubL (a := A_ + 0) (b := 18 + K_) (by omega)]
  refine g_iconst X23 hx hby i10_383 (z := (1 : Int32)) (by decide) ?_
  refine g_isub X23 hx hby i10_384 ?_
  rw [own_ipred (by omega)]
  refine g_iload X23 hx hby i10_385 rfl ?_
  refine g_icmp_ge X23 hx hby i10_387 (fun c387_24 => ?_) (fun c387_24 => False.elim (own_nn (by omega) c387_24))
  refine g_iload X23 hx hby i10_392 rfl ?_
  refine g_if_ne X23 hx hby i10_394 (fun c394_25 => False.elim (absurd c394_25 (by decide))) fun c394_25 => ?_
  refine g_iloadN X23 hx hby i10_397 rfl ?_
  refine g_bipush X23 hx hby i10_398 (z := (31 : Int32)) (by decide) ?_
  refine g_iand X23 hx hby i10_400 ?_
  rw [(own_by1 hN).2.1]
  refine g_i2l X23 hx hby i10_401 ?_
  rw [own_i2l (by omega)]
  refine g_goto X23 hx hby i10_402 ?_
  refine g_lstore X23 hx hby i10_417 (l' := #[.val (.ref s_), .val (.int (own_i (A_ + 0))), .val (.int (own_i (64 + N_))), .val (.int (-1 : Int32)), .val (.int (2 : Int32)), .val (.int (0 : Int32)), .val (.long (own_l N_)), .second, .unset, .unset]) rfl ?_
  refine g_iloadN X23 hx hby i10_419 rfl ?_
  refine g_iconst X23 hx hby i10_420 (z := (2 : Int32)) (by decide) ?_
  refine g_icmp_ne X23 hx hby i10_421 (fun c421_26 => ?_) (fun c421_26 => False.elim (absurd c421_26 (by decide)))
  refine g_aloadN X23 hx hby i10_453 rfl rfl ?_
  refine g_dup X23 hx hby i10_454 rfl ?_
  refine g_getfield X23 hx hby hZ hown (host := "") (Or.inl (wd_ hw 79 rfl)) Via.refl e23 (own_at Q 4 (by decide) (v := (.int (own_i 0))) rfl) i10_455 fun T27 X27 e27 => ?_
  refine g_iconst X27 hx hby i10_458 (z := (1 : Int32)) (by decide) ?_
  refine g_iload X27 hx hby i10_459 rfl ?_
  refine g_iadd X27 hx hby i10_461 ?_
  refine g_iadd X27 hx hby i10_462 ?_
  rw [show ((1 : Int32) + (0 : Int32)) = (1 : Int32) from by decide, own_isucc]
  refine g_putfield X27 hx hby hZ hown (host := "") (Or.inl (wd_ hw 79 rfl)) Via.refl e27 (own_at Q 4 (by decide) (v := (.int (own_i 0))) rfl) Q.1 (Or.inl (wd_ hw 80 rfl)) (wd_ hw 3 rfl) (ty := .int) (by decide) rfl rfl i10_463 fun T28 h28 X28 e28 W28 => ?_
  have Q : own_seq Z h28 s_ [(.ref bu), (.ref ow), (.int (own_i A_)), (.int (own_i (18 + K_))), (.int (own_i (0 + 1))), (.ref od'), (.ref ub'), (.int (own_i 0)), (.long (0 : Int64)), (.long kl), (.int (0 : Int32)), (.long (0 : Int64)), (.ref nl), (.int (0 : Int32)), (.ref nc), (.int (0 : Int32)), (.int (0 : Int32)), (.long (0 : Int64)), (.int (0 : Int32)), (.int mx), (.int mi), (.int (0 : Int32))] := Q.put hw (i := 4) (by decide) W28
  have Vb := Vb.other W28 (Ne.symm hsb)
  have Vq := Vq.other W28 (Ne.symm hsq)
  have Vu := Vu.other W28 (Ne.symm hsu)
  have O := O.wr W28 g_s_
  have Z0 : n0 ≤ h28.size := Nat.le_trans Z0 (Nat.le_of_eq W28.size.symm)
  have N0 := Fr.snoc X28 N0 g_s_
  have K0 := K0.wr W28 (Or.inl (by simp))
  refine g_iload X28 hx hby i10_466 rfl ?_
  refine g_iconst X28 hx hby i10_468 (z := (2 : Int32)) (by decide) ?_
  refine g_icmp_eq X28 hx hby i10_469 (fun c469_29 => ?_) (fun c469_29 => False.elim (absurd c469_29 (by decide)))
  refine g_aloadN X28 hx hby i10_478 rfl rfl ?_
  refine g_lload X28 hx hby i10_479 rfl ?_
  refine g_putfield X28 hx hby hZ hown (host := "") (Or.inl (wd_ hw 87 rfl)) Via.refl e28 (own_at Q 8 (by decide) (v := (.long (0 : Int64))) rfl) Q.1 (Or.inl (wd_ hw 88 rfl)) (wd_ hw 3 rfl) (ty := .long) (by decide) rfl rfl i10_481 fun T30 h30 X30 e30 W30 => ?_
  have Q : own_seq Z h30 s_ [(.ref bu), (.ref ow), (.int (own_i A_)), (.int (own_i (18 + K_))), (.int (own_i (0 + 1))), (.ref od'), (.ref ub'), (.int (own_i 0)), (.long (own_l N_)), (.long kl), (.int (0 : Int32)), (.long (0 : Int64)), (.ref nl), (.int (0 : Int32)), (.ref nc), (.int (0 : Int32)), (.int (0 : Int32)), (.long (0 : Int64)), (.int (0 : Int32)), (.int mx), (.int mi), (.int (0 : Int32))] := Q.put hw (i := 8) (by decide) W30
  have Vb := Vb.other W30 (Ne.symm hsb)
  have Vq := Vq.other W30 (Ne.symm hsq)
  have Vu := Vu.other W30 (Ne.symm hsu)
  have O := O.wr W30 g_s_
  have Z0 : n0 ≤ h30.size := Nat.le_trans Z0 (Nat.le_of_eq W30.size.symm)
  have N0 := Fr.snoc X30 N0 g_s_
  have K0 := K0.wr W30 (Or.inl (by simp))
  refine g_aloadN X30 hx hby i10_484 rfl rfl ?_
  refine g_iload X30 hx hby i10_485 rfl ?_
  refine g_iconst X30 hx hby i10_487 (z := (2 : Int32)) (by decide) ?_
  refine g_icmp_ne X30 hx hby i10_488 (fun c488_31 => False.elim (absurd c488_31 (by decide))) fun c488_31 => ?_
  refine g_aloadN X30 hx hby i10_491 rfl rfl ?_
  refine g_lload X30 hx hby i10_492 rfl ?_
  refine g_callPriv X30 hx hby hZ (y := (⟨"com/example/ariel/ariel/cbor/CborSequence", "kept", "(J)J"⟩ : MethodName)) (argsL := [(.long (own_l N_))]) (rest := [(.ref s_)]) hown (wd_ hw 101 rfl) (wd_ hw 102 rfl) (wd_ hw 3 rfl) (wd_ hw 103 rfl) (wd_ hw 4 rfl) (wd_ hw 104 rfl) (by decide) (a := s_) Q.1 (rm14 l Z a0 hw [] s_ (own_l N_) bu ow od' ub' nl nc (own_i A_) (own_i (18 + K_)) (own_i (0 + 1)) (own_i 0) (0 : Int32) mx mi (own_l N_) kl (0 : Int64) h30 n0 Z0 Q) e30 (by rw [hml]; rfl) pd_11 rfl rfl i10_494 (by decide) 1 rfl (by decide) (by decide) (by decide) fun T32 v32 L32 X32 q32 => ?_
  obtain ⟨_, rfl, rfl, e32, N32⟩ := q32
  have N0 := Fr.app N0 N32
  show Gd p e below _ T32 (mkF m 497 #[.val (.ref s_), .val (.int (own_i (A_ + 0))), .val (.int (own_i (64 + N_))), .val (.int (-1 : Int32)), .val (.int (2 : Int32)), .val (.int (0 : Int32)), .val (.long (own_l N_)), .second, .unset, .unset] [(.long (own_l N_)), (.ref s_)])
  refine g_goto X32 hx hby i10_497 ?_
  refine g_putfield X32 hx hby hZ hown (host := "") (Or.inl (wd_ hw 105 rfl)) Via.refl e32 (own_at Q 9 (by decide) (v := (.long kl)) rfl) Q.1 (Or.inl (wd_ hw 106 rfl)) (wd_ hw 3 rfl) (ty := .long) (by decide) rfl rfl i10_502 fun T33 h33 X33 e33 W33 => ?_
  have Q : own_seq Z h33 s_ [(.ref bu), (.ref ow), (.int (own_i A_)), (.int (own_i (18 + K_))), (.int (own_i (0 + 1))), (.ref od'), (.ref ub'), (.int (own_i 0)), (.long (own_l N_)), (.long (own_l N_)), (.int (0 : Int32)), (.long (0 : Int64)), (.ref nl), (.int (0 : Int32)), (.ref nc), (.int (0 : Int32)), (.int (0 : Int32)), (.long (0 : Int64)), (.int (0 : Int32)), (.int mx), (.int mi), (.int (0 : Int32))] := Q.put hw (i := 9) (by decide) W33
  have Vb := Vb.other W33 (Ne.symm hsb)
  have Vq := Vq.other W33 (Ne.symm hsq)
  have Vu := Vu.other W33 (Ne.symm hsu)
  have O := O.wr W33 g_s_
  have Z0 : n0 ≤ h33.size := Nat.le_trans Z0 (Nat.le_of_eq W33.size.symm)
  have N0 := Fr.snoc X33 N0 g_s_
  have K0 := K0.wr W33 (Or.inl (by simp))
  refine g_lload X33 hx hby i10_505 rfl ?_
  refine g_lconst X33 hx hby i10_507 (z := (0 : Int64)) (by decide) ?_
  refine g_lcmp_eq X33 hx hby i10_508 i10_509 (fun c508_34 => ?_) (fun c508_34 => ?_)
  · have hn0 : N_ = 0 := (own_leq (b := 0) (by omega) (by omega)).mp c508_34
    refine g_aloadN X33 hx hby i10_609 rfl rfl ?_
    refine g_callPriv X33 hx hby hZ (y := (⟨"com/example/ariel/ariel/cbor/CborSequence", "itemDone", "()Z"⟩ : MethodName)) (argsL := []) (rest := []) hown (wd_ hw 107 rfl) (wd_ hw 108 rfl) (wd_ hw 3 rfl) (wd_ hw 109 rfl) (wd_ hw 4 rfl) (wd_ hw 110 rfl) (by decide) (a := s_) Q.1 (rm15_0 l Z a0 hw [] s_ bu ow od' ub' nl nc (own_i A_) (own_i (18 + K_)) (own_i (0 + 1)) (own_i 0) (0 : Int32) mx mi (own_l N_) (own_l N_) (0 : Int64)  h33 n0 Z0 Q (by decide)) e33 (by rw [hml]; rfl) pd_12 rfl rfl i10_610 (by decide) 0 rfl (by decide) (by decide) (by decide) fun T35 v35 L35 X35 q35 => ?_
    obtain ⟨_, rfl, rfl, e35, N35⟩ := q35
    have N0 := Fr.app N0 N35
    show Gd p e below _ T35 (mkF m 613 #[.val (.ref s_), .val (.int (own_i (A_ + 0))), .val (.int (own_i (64 + N_))), .val (.int (-1 : Int32)), .val (.int (2 : Int32)), .val (.int (0 : Int32)), .val (.long (own_l N_)), .second, .unset, .unset] [(.int (1 : Int32))])
    refine g_if_eq X35 hx hby i10_613 (fun c613_36 => False.elim (absurd c613_36 (by decide))) fun c613_36 => ?_
    refine g_iconst X35 hx hby i10_616 (z := (1 : Int32)) (by decide) ?_
    refine g_ireturnN X35 hx hby (ty := .boolean) hret (by simp) hlk i10_617 (by decide) (by decide) ?_
    rw [e35]
    obtain rfl : K_ = 0 := by omega
    exact ⟨_, rfl, od', ub', _, _, _, _, (by rw [if_pos (by omega)]; rfl), K0, Q, Vq, g_od', hod, hsq, N0⟩
  · have hn1 : ¬ N_ = 0 := fun q => c508_34 (by rw [q]; rfl)
    refine g_goto X33 hx hby i10_512 ?_
    refine g_aloadN X33 hx hby i10_0 rfl rfl ?_
    refine g_aloadN X33 hx hby i10_1 rfl rfl ?_
    refine g_getfield X33 hx hby hZ hown (host := "") (Or.inl (wd_ hw 79 rfl)) Via.refl e33 (own_at Q 4 (by decide) (v := (.int (own_i (0 + 1)))) rfl) i10_2 fun T37 X37 e37 => ?_
    refine g_aloadN X37 hx hby i10_5 rfl rfl ?_
    refine g_getfield X37 hx hby hZ hown (host := "") (Or.inl (wd_ hw 81 rfl)) Via.refl e37 (own_at Q 16 (by decide) (v := (.int (0 : Int32))) rfl) i10_6 fun T38 X38 e38 => ?_
    refine g_isub X38 hx hby i10_9 ?_
    rw [Int32.sub_zero]
    refine g_callPriv X38 hx hby hZ (y := (⟨"com/example/ariel/ariel/cbor/CborSequence", "checkHeld", "(I)V"⟩ : MethodName)) (argsL := [(.int (own_i (0 + 1)))]) (rest := []) hown (wd_ hw 83 rfl) (wd_ hw 84 rfl) (wd_ hw 3 rfl) (wd_ hw 85 rfl) (wd_ hw 4 rfl) (wd_ hw 86 rfl) (by decide) (a := s_) Q.1 (rm11 l Z a0 hw [] s_ (own_i (0 + 1)) bu ow od' ub' nl nc (own_i A_) (own_i (18 + K_)) (own_i (0 + 1)) (own_i 0) (0 : Int32) mx mi (own_l N_) (own_l N_) (0 : Int64) h33 n0 Z0 Q (own_41 hmx (by omega))) e38 (by rw [hml]; rfl) pd_8 rfl rfl i10_10 (by decide) 0 rfl (by decide) (by decide) (by decide) fun T39 v39 L39 X39 q39 => ?_
    obtain ⟨rfl, e39, N39⟩ := q39
    have N0 := Fr.app N0 N39
    show Gd p e below _ T39 (mkF m 13 #[.val (.ref s_), .val (.int (own_i (A_ + 0))), .val (.int (own_i (64 + N_))), .val (.int (-1 : Int32)), .val (.int (2 : Int32)), .val (.int (0 : Int32)), .val (.long (own_l N_)), .second, .unset, .unset] [])
    refine g_aloadN X39 hx hby i10_13 rfl rfl ?_
    refine g_getfield X39 hx hby hZ hown (host := "") (Or.inl (wd_ hw 87 rfl)) Via.refl e39 (own_at Q 8 (by decide) (v := (.long (own_l N_))) rfl) i10_14 fun T40 X40 e40 => ?_
    refine g_lconst X40 hx hby i10_17 (z := (0 : Int64)) (by decide) ?_
    refine g_lcmp_eq X40 hx hby i10_18 i10_19 (fun c18_41 => False.elim (c508_34 c18_41)) fun c18_41 => ?_
    refine g_aloadN X40 hx hby i10_22 rfl rfl ?_
    refine g_getfield X40 hx hby hZ hown (host := "") (Or.inl (wd_ hw 55 rfl)) Via.refl e40 (own_at Q 2 (by decide) (v := (.int (own_i A_))) rfl) i10_23 fun T42 X42 e42 => ?_
    refine g_aloadN X42 hx hby i10_26 rfl rfl ?_
    refine g_getfield X42 hx hby hZ hown (host := "") (Or.inl (wd_ hw 79 rfl)) Via.refl e42 (own_at Q 4 (by decide) (v := (.int (own_i (0 + 1)))) rfl) i10_27 fun T43 X43 e43 => ?_
    refine g_iadd X43 hx hby i10_30 ?_
    rw [own_iadd]
    refine g_istoreN X43 hx hby i10_31 (l' := #[.val (.ref s_), .val (.int (own_i (A_ + (0 + 1)))), .val (.int (own_i (64 + N_))), .val (.int (-1 : Int32)), .val (.int (2 : Int32)), .val (.int (0 : Int32)), .val (.long (own_l N_)), .second, .unset, .unset]) rfl ?_
    refine g_aloadN X43 hx hby i10_32 rfl rfl ?_
    refine g_getfield X43 hx hby hZ hown (host := "") (Or.inl (wd_ hw 53 rfl)) Via.refl e43 (own_at Q 3 (by decide) (v := (.int (own_i (18 + K_)))) rfl) i10_33 fun T44 X44 e44 => ?_
    refine g_iloadN X44 hx hby i10_36 rfl ?_
    refine g_isub X44 hx hby i10_37 ?_
    rw [own_isubL (a := A_ + (0 + 1)) (b := 18 + K_) (by omega), show 18 + K_ - (A_ + (0 + 1)) = K_ from by omega]
    refine g_i2l X44 hx hby i10_38 ?_
    rw [own_i2l (by omega)]
    refine g_lstoreN X44 hx hby i10_39 (l' := #[.val (.ref s_), .val (.int (own_i (A_ + (0 + 1)))), .val (.long (own_l K_)), .second, .val (.int (2 : Int32)), .val (.int (0 : Int32)), .val (.long (own_l N_)), .second, .unset, .unset]) rfl ?_
    refine g_aloadN X44 hx hby i10_40 rfl rfl ?_
    refine g_getfield X44 hx hby hZ hown (host := "") (Or.inl (wd_ hw 87 rfl)) Via.refl e44 (own_at Q 8 (by decide) (v := (.long (own_l N_))) rfl) i10_41 fun T45 X45 e45 => ?_
    refine g_lloadN X45 hx hby i10_44 rfl ?_
    refine g_callS0 X45 hx hby hZ (y := (⟨"java/lang/Long", "compareUnsigned", "(JJ)I"⟩ : MethodName)) (argsL := [(.long (own_l N_)), (.long (own_l K_))]) (rest := []) hown (wd_ hw 249 rfl) (wd_ hw 173 rfl) (wd_ hw 174 rfl) (wd_ hw 175 rfl) (by decide) (rm26 l Z a0 hw [] (own_l N_) (own_l K_) N_ K_ h33 n0 Z0 rfl rfl (by omega) (by omega)) e45 (by rw [hml]; rfl) pd_7 rfl rfl i10_45 (by decide) 0 rfl (by decide) (by decide) (by decide) fun T46 v46 L46 X46 q46 => ?_
    obtain ⟨_, rfl, rfl, e46, N46⟩ := q46
    have N0 := Fr.app N0 N46
    show Gd p e below _ T46 (mkF m 48 #[.val (.ref s_), .val (.int (own_i (A_ + (0 + 1)))), .val (.long (own_l K_)), .second, .val (.int (2 : Int32)), .val (.int (0 : Int32)), .val (.long (own_l N_)), .second, .unset, .unset] [(.int (own_c N_ K_))])
    refine g_if_ge X46 hx hby i10_48 (fun c48_47 => ?_) (fun c48_47 => False.elim (own_cge hK c48_47))
    refine g_lloadN X46 hx hby i10_58 rfl ?_
    refine g_lstore X46 hx hby i10_59 (l' := #[.val (.ref s_), .val (.int (own_i (A_ + (0 + 1)))), .val (.long (own_l K_)), .second, .val (.long (own_l K_)), .second, .val (.long (own_l N_)), .second, .unset, .unset]) rfl ?_
    refine g_aloadN X46 hx hby i10_61 rfl rfl ?_
    refine g_getfield X46 hx hby hZ hown (host := "") (Or.inl (wd_ hw 105 rfl)) Via.refl e46 (own_at Q 9 (by decide) (v := (.long (own_l N_))) rfl) i10_62 fun T48 X48 e48 => ?_
    refine g_lload X48 hx hby i10_65 rfl ?_
    refine g_callS0 X48 hx hby hZ (y := (⟨"java/lang/Long", "compareUnsigned", "(JJ)I"⟩ : MethodName)) (argsL := [(.long (own_l N_)), (.long (own_l K_))]) (rest := []) hown (wd_ hw 249 rfl) (wd_ hw 173 rfl) (wd_ hw 174 rfl) (wd_ hw 175 rfl) (by decide) (rm26 l Z a0 hw [] (own_l N_) (own_l K_) N_ K_ h33 n0 Z0 rfl rfl (by omega) (by omega)) e48 (by rw [hml]; rfl) pd_7 rfl rfl i10_67 (by decide) 0 rfl (by decide) (by decide) (by decide) fun T49 v49 L49 X49 q49 => ?_
    obtain ⟨_, rfl, rfl, e49, N49⟩ := q49
    have N0 := Fr.app N0 N49
    show Gd p e below _ T49 (mkF m 70 #[.val (.ref s_), .val (.int (own_i (A_ + (0 + 1)))), .val (.long (own_l K_)), .second, .val (.long (own_l K_)), .second, .val (.long (own_l N_)), .second, .unset, .unset] [(.int (own_c N_ K_))])
    refine g_if_ge X49 hx hby i10_70 (fun c70_50 => ?_) (fun c70_50 => False.elim (own_cge hK c70_50))
    refine g_lload X49 hx hby i10_80 rfl ?_
    refine g_lstore X49 hx hby i10_82 (l' := #[.val (.ref s_), .val (.int (own_i (A_ + (0 + 1)))), .val (.long (own_l K_)), .second, .val (.long (own_l K_)), .second, .val (.long (own_l K_)), .second, .unset, .unset]) rfl ?_
    refine g_lload X49 hx hby i10_84 rfl ?_
    refine g_lload X49 hx hby i10_86 rfl ?_
    refine g_lcmp_ge X49 hx hby i10_88 i10_89 (fun c88_51 => ?_) (fun c88_51 => False.elim (own_irr _ c88_51))
    refine g_aloadN X49 hx hby i10_106 rfl rfl ?_
    refine g_dup X49 hx hby i10_107 rfl ?_
    refine g_getfield X49 hx hby hZ hown (host := "") (Or.inl (wd_ hw 79 rfl)) Via.refl e49 (own_at Q 4 (by decide) (v := (.int (own_i (0 + 1)))) rfl) i10_108 fun T52 X52 e52 => ?_
    refine g_lload X52 hx hby i10_111 rfl ?_
    refine g_l2i X52 hx hby i10_113 ?_
    rw [own_l2i (by omega)]
    refine g_iadd X52 hx hby i10_114 ?_
    rw [own_iadd]
    refine g_putfield X52 hx hby hZ hown (host := "") (Or.inl (wd_ hw 79 rfl)) Via.refl e52 (own_at Q 4 (by decide) (v := (.int (own_i (0 + 1)))) rfl) Q.1 (Or.inl (wd_ hw 80 rfl)) (wd_ hw 3 rfl) (ty := .int) (by decide) rfl rfl i10_115 fun T53 h53 X53 e53 W53 => ?_
    have Q : own_seq Z h53 s_ [(.ref bu), (.ref ow), (.int (own_i A_)), (.int (own_i (18 + K_))), (.int (own_i (0 + 1 + K_))), (.ref od'), (.ref ub'), (.int (own_i 0)), (.long (own_l N_)), (.long (own_l N_)), (.int (0 : Int32)), (.long (0 : Int64)), (.ref nl), (.int (0 : Int32)), (.ref nc), (.int (0 : Int32)), (.int (0 : Int32)), (.long (0 : Int64)), (.int (0 : Int32)), (.int mx), (.int mi), (.int (0 : Int32))] := Q.put hw (i := 4) (by decide) W53
    have Vb := Vb.other W53 (Ne.symm hsb)
    have Vq := Vq.other W53 (Ne.symm hsq)
    have Vu := Vu.other W53 (Ne.symm hsu)
    have O := O.wr W53 g_s_
    have Z0 : n0 ≤ h53.size := Nat.le_trans Z0 (Nat.le_of_eq W53.size.symm)
    have N0 := Fr.snoc X53 N0 g_s_
    have K0 := K0.wr W53 (Or.inl (by simp))
    refine g_aloadN X53 hx hby i10_118 rfl rfl ?_
    refine g_dup X53 hx hby i10_119 rfl ?_
    refine g_getfield X53 hx hby hZ hown (host := "") (Or.inl (wd_ hw 87 rfl)) Via.refl e53 (own_at Q 8 (by decide) (v := (.long (own_l N_))) rfl) i10_120 fun T54 X54 e54 => ?_
    refine g_lload X54 hx hby i10_123 rfl ?_
    refine g_lsub X54 hx hby i10_125 ?_
    rw [own_lsub hK]
    refine g_putfield X54 hx hby hZ hown (host := "") (Or.inl (wd_ hw 87 rfl)) Via.refl e54 (own_at Q 8 (by decide) (v := (.long (own_l N_))) rfl) Q.1 (Or.inl (wd_ hw 88 rfl)) (wd_ hw 3 rfl) (ty := .long) (by decide) rfl rfl i10_126 fun T55 h55 X55 e55 W55 => ?_
    have Q : own_seq Z h55 s_ [(.ref bu), (.ref ow), (.int (own_i A_)), (.int (own_i (18 + K_))), (.int (own_i (0 + 1 + K_))), (.ref od'), (.ref ub'), (.int (own_i 0)), (.long (own_l (N_ - K_))), (.long (own_l N_)), (.int (0 : Int32)), (.long (0 : Int64)), (.ref nl), (.int (0 : Int32)), (.ref nc), (.int (0 : Int32)), (.int (0 : Int32)), (.long (0 : Int64)), (.int (0 : Int32)), (.int mx), (.int mi), (.int (0 : Int32))] := Q.put hw (i := 8) (by decide) W55
    have Vb := Vb.other W55 (Ne.symm hsb)
    have Vq := Vq.other W55 (Ne.symm hsq)
    have Vu := Vu.other W55 (Ne.symm hsu)
    have O := O.wr W55 g_s_
    have Z0 : n0 ≤ h55.size := Nat.le_trans Z0 (Nat.le_of_eq W55.size.symm)
    have N0 := Fr.snoc X55 N0 g_s_
    have K0 := K0.wr W55 (Or.inl (by simp))
    refine g_aloadN X55 hx hby i10_129 rfl rfl ?_
    refine g_dup X55 hx hby i10_130 rfl ?_
    refine g_getfield X55 hx hby hZ hown (host := "") (Or.inl (wd_ hw 105 rfl)) Via.refl e55 (own_at Q 9 (by decide) (v := (.long (own_l N_))) rfl) i10_131 fun T56 X56 e56 => ?_
    refine g_lload X56 hx hby i10_134 rfl ?_
    refine g_lsub X56 hx hby i10_136 ?_
    rw [own_lsub hK]
    refine g_putfield X56 hx hby hZ hown (host := "") (Or.inl (wd_ hw 105 rfl)) Via.refl e56 (own_at Q 9 (by decide) (v := (.long (own_l N_))) rfl) Q.1 (Or.inl (wd_ hw 106 rfl)) (wd_ hw 3 rfl) (ty := .long) (by decide) rfl rfl i10_137 fun T57 h57 X57 e57 W57 => ?_
    have Q : own_seq Z h57 s_ [(.ref bu), (.ref ow), (.int (own_i A_)), (.int (own_i (18 + K_))), (.int (own_i (0 + 1 + K_))), (.ref od'), (.ref ub'), (.int (own_i 0)), (.long (own_l (N_ - K_))), (.long (own_l (N_ - K_))), (.int (0 : Int32)), (.long (0 : Int64)), (.ref nl), (.int (0 : Int32)), (.ref nc), (.int (0 : Int32)), (.int (0 : Int32)), (.long (0 : Int64)), (.int (0 : Int32)), (.int mx), (.int mi), (.int (0 : Int32))] := Q.put hw (i := 9) (by decide) W57
    have Vb := Vb.other W57 (Ne.symm hsb)
    have Vq := Vq.other W57 (Ne.symm hsq)
    have Vu := Vu.other W57 (Ne.symm hsu)
    have O := O.wr W57 g_s_
    have Z0 : n0 ≤ h57.size := Nat.le_trans Z0 (Nat.le_of_eq W57.size.symm)
    have N0 := Fr.snoc X57 N0 g_s_
    have K0 := K0.wr W57 (Or.inl (by simp))
    refine g_aloadN X57 hx hby i10_140 rfl rfl ?_
    refine g_getfield X57 hx hby hZ hown (host := "") (Or.inl (wd_ hw 87 rfl)) Via.refl e57 (own_at Q 8 (by decide) (v := (.long (own_l (N_ - K_)))) rfl) i10_141 fun T58 X58 e58 => ?_
    refine g_lconst X58 hx hby i10_144 (z := (0 : Int64)) (by decide) ?_
    refine g_lcmp_eq X58 hx hby i10_145 i10_146 (fun c145_59 => ?_) (fun c145_59 => ?_)
    · have hnk : N_ - K_ = 0 := (own_leq (b := 0) (by omega) (by omega)).mp c145_59
      refine g_aloadN X58 hx hby i10_151 rfl rfl ?_
      refine g_callPriv X58 hx hby hZ (y := (⟨"com/example/ariel/ariel/cbor/CborSequence", "itemDone", "()Z"⟩ : MethodName)) (argsL := []) (rest := []) hown (wd_ hw 107 rfl) (wd_ hw 108 rfl) (wd_ hw 3 rfl) (wd_ hw 109 rfl) (wd_ hw 4 rfl) (wd_ hw 110 rfl) (by decide) (a := s_) Q.1 (rm15_0 l Z a0 hw [] s_ bu ow od' ub' nl nc (own_i A_) (own_i (18 + K_)) (own_i (0 + 1 + K_)) (own_i 0) (0 : Int32) mx mi (own_l (N_ - K_)) (own_l (N_ - K_)) (0 : Int64)  h57 n0 Z0 Q (by decide)) e58 (by rw [hml]; rfl) pd_12 rfl rfl i10_152 (by decide) 0 rfl (by decide) (by decide) (by decide) fun T60 v60 L60 X60 q60 => ?_
      obtain ⟨_, rfl, rfl, e60, N60⟩ := q60
      have N0 := Fr.app N0 N60
      show Gd p e below _ T60 (mkF m 155 #[.val (.ref s_), .val (.int (own_i (A_ + (0 + 1)))), .val (.long (own_l K_)), .second, .val (.long (own_l K_)), .second, .val (.long (own_l K_)), .second, .unset, .unset] [(.int (1 : Int32))])
      refine g_if_eq X60 hx hby i10_155 (fun c155_61 => False.elim (absurd c155_61 (by decide))) fun c155_61 => ?_
      refine g_iconst X60 hx hby i10_158 (z := (1 : Int32)) (by decide) ?_
      refine g_ireturnN X60 hx hby (ty := .boolean) hret (by simp) hlk i10_159 (by decide) (by decide) ?_
      rw [e60]
      exact ⟨_, rfl, od', ub', _, _, _, _, (by rw [if_pos (by omega)]; rfl), K0, Q, Vq, g_od', hod, hsq, N0⟩
    · have hnk : ¬ N_ - K_ = 0 := fun q => c145_59 (by rw [q]; rfl)
      refine g_iconst X58 hx hby i10_149 (z := (0 : Int32)) (by decide) ?_
      refine g_ireturnN X58 hx hby (ty := .boolean) hret (by simp) hlk i10_150 (by decide) (by decide) ?_
      rw [e58]
      exact ⟨_, rfl, od', ub', _, _, _, _, (by rw [if_neg (by omega)]; rfl), K0, Q, Vq, g_od', hod, hsq, N0⟩
theorem fn_p (l : Launch) (Z : State) (a0 : Array Value) (hw : ∀ d ∈ tables_1, d.before a0 Z = true) {p : Program} {e : Env} {s : State} {m : MethodId} {args : Array Value} {below : List Frame} {meth : Method} {c : Code} (hx : p.tables.exec = Jvm.exec) (hby : c.code = prog_32_method_15_code) (hml : c.maxLocals = 10) (hZ : Z.Warmed39 s.vm) (hown : s.vm.findClass "com/example/ariel/ariel/cbor/CborSequence" = some m.cls) (hret : meth.sig.returnType = (some .boolean)) (hlk : meth.locks = false) (h0 : Heap) (n0 : Nat) (no_ s_ bu ow od ub nl nc : Addr) (A_ K_ D_ N_ : Nat) (mx mi : Int32) (kb : ClassId) (vb : List Value) (SA_ : Sta Z Z.heap "com/example/ariel/ariel/cbor/CborSequence" "NOTHING" "[B" (.ref no_)) (SB_ : Sta Z Z.heap "com/example/ariel/ariel/cbor/CborSequence" "NO_LENGTHS" "[J" (.ref nl)) (SC_ : Sta Z Z.heap "com/example/ariel/ariel/cbor/CborSequence" "NO_CUTS" "[I" (.ref nc)) (g_s_ : n0 ≤ s_) (hsb : s_ ≠ bu) (hbyte : ∀ j, j < 17 → vb.getD j (.int (0 : Int32)) = .int (-97 : Int32)) (hb17 : vb.getD 17 (.int (0 : Int32)) = .int (own_i (64 + N_))) (hA : A_ + D_ = 17) (hN : N_ < 24) (hK : K_ ≤ N_) (hmx : ¬ mx < (41 : Int32)) (hi0 : 0 < D_) (hDL : D_ ≤ 8 + own_lev D_) (hDM : 8 + own_lev D_ ≤ 64)
    (T0 : State) (hh : Heap) (locs : List Loc) (x1 x2 x3 x4 : Int32) (X0 : Stand p l e ({ frames := 3, cells := 4, slots := 128, locals := 70 } : Room) s m args below meth c T0 locs 4 128) (e0 : T0.heap = hh) (N0 : Fr n0 locs) (I0 : own_S Z h0 hh n0 s_ bu ow od ub nl nc A_ K_ D_ (8 + own_lev D_) mx mi kb vb) : Gd p e below (Fin1 s below 4 128 (RV fun vv h L => ∃ od' ub' kq vq sl kl, vv = .int (if D_ = 0 ∧ K_ = N_ then 1 else 0) ∧ Keep h0 h [s_, od, ub] ∧ own_seq Z h s_ [(.ref bu), (.ref ow), (.int (own_i A_)), (.int (own_i (18 + K_))), (.int (own_i (D_ + 1 + K_))), (.ref od'), (.ref ub'), (.int (own_i D_)), (.long sl), (.long kl), (.int (0 : Int32)), (.long (0 : Int64)), (.ref nl), (.int (0 : Int32)), (.ref nc), (.int (0 : Int32)), (.int (0 : Int32)), (.long (0 : Int64)), (.int (0 : Int32)), (.int mx), (.int mi), (.int (0 : Int32))] ∧ Arv Z h od' kq .long (own_i (8 + own_lev D_)) vq (.long (0 : Int64)) ∧ n0 ≤ od' ∧ (od' = od ∨ h0.size ≤ od') ∧ s_ ≠ od' ∧ Fr n0 L)) T0 (mkF m 0 #[.val (.ref s_), .val (.int x1), .val (.int x2), .val (.int x3), .val (.int x4), .unset, .unset, .unset, .unset, .unset] []) := by
  obtain ⟨od', ub', kq, ku, vq, vu, sk, kl, cl, Q, Vb, Vq, Vu, hu, g_od', g_ub', hsq, hsu, hqu, hbq, hbu, hod, hub, K0, O, Z0⟩ := I0
  refine g_aloadN X0 hx hby i10_0 rfl rfl ?_
  refine g_aloadN X0 hx hby i10_1 rfl rfl ?_
  refine g_getfield X0 hx hby hZ hown (host := "") (Or.inl (wd_ hw 79 rfl)) Via.refl e0 (own_at Q 4 (by decide) (v := (.int (own_i D_))) rfl) i10_2 fun T1 X1 e1 => ?_
  refine g_aloadN X1 hx hby i10_5 rfl rfl ?_
  refine g_getfield X1 hx hby hZ hown (host := "") (Or.inl (wd_ hw 81 rfl)) Via.refl e1 (own_at Q 16 (by decide) (v := (.int (0 : Int32))) rfl) i10_6 fun T2 X2 e2 => ?_
  refine g_isub X2 hx hby i10_9 ?_
  rw [Int32.sub_zero]
  refine g_callPriv X2 hx hby hZ (y := (⟨"com/example/ariel/ariel/cbor/CborSequence", "checkHeld", "(I)V"⟩ : MethodName)) (argsL := [(.int (own_i D_))]) (rest := []) hown (wd_ hw 83 rfl) (wd_ hw 84 rfl) (wd_ hw 3 rfl) (wd_ hw 85 rfl) (wd_ hw 4 rfl) (wd_ hw 86 rfl) (by decide) (a := s_) Q.1 (rm11 l Z a0 hw [] s_ (own_i D_) bu ow od' ub' nl nc (own_i A_) (own_i (18 + K_)) (own_i D_) (own_i D_) sk mx mi (0 : Int64) kl cl hh n0 Z0 Q (own_41 hmx (by omega))) e2 (by rw [hml]; rfl) pd_8 rfl rfl i10_10 (by decide) 0 rfl (by decide) (by decide) (by decide) fun T3 v3 L3 X3 q3 => ?_
  obtain ⟨rfl, e3, N3⟩ := q3
  have N0 := Fr.app N0 N3
  show Gd p e below _ T3 (mkF m 13 #[.val (.ref s_), .val (.int x1), .val (.int x2), .val (.int x3), .val (.int x4), .unset, .unset, .unset, .unset, .unset] [])
  refine g_aloadN X3 hx hby i10_13 rfl rfl ?_
  refine g_getfield X3 hx hby hZ hown (host := "") (Or.inl (wd_ hw 87 rfl)) Via.refl e3 (own_at Q 8 (by decide) (v := (.long (0 : Int64))) rfl) i10_14 fun T4 X4 e4 => ?_
  refine g_lconst X4 hx hby i10_17 (z := (0 : Int64)) (by decide) ?_
  refine g_lcmp_eq X4 hx hby i10_18 i10_19 (fun c18_5 => ?_) (fun c18_5 => False.elim (absurd c18_5 (by decide)))
  refine g_aloadN X4 hx hby i10_160 rfl rfl ?_
  refine g_getfield X4 hx hby hZ hown (host := "") (Or.inl (wd_ hw 55 rfl)) Via.refl e4 (own_at Q 2 (by decide) (v := (.int (own_i A_))) rfl) i10_161 fun T6 X6 e6 => ?_
  refine g_aloadN X6 hx hby i10_164 rfl rfl ?_
  refine g_getfield X6 hx hby hZ hown (host := "") (Or.inl (wd_ hw 79 rfl)) Via.refl e6 (own_at Q 4 (by decide) (v := (.int (own_i D_))) rfl) i10_165 fun T7 X7 e7 => ?_
  refine g_iadd X7 hx hby i10_168 ?_
  rw [own_iadd]
  refine g_istoreN X7 hx hby i10_169 (l' := #[.val (.ref s_), .val (.int (own_i (A_ + D_))), .val (.int x2), .val (.int x3), .val (.int x4), .unset, .unset, .unset, .unset, .unset]) rfl ?_
  refine g_iloadN X7 hx hby i10_170 rfl ?_
  refine g_aloadN X7 hx hby i10_171 rfl rfl ?_
  refine g_getfield X7 hx hby hZ hown (host := "") (Or.inl (wd_ hw 53 rfl)) Via.refl e7 (own_at Q 3 (by decide) (v := (.int (own_i (18 + K_)))) rfl) i10_172 fun T8 X8 e8 => ?_
  refine g_icmp_ne X8 hx hby i10_175 (fun c175_9 => ?_) (fun c175_9 => False.elim (absurd ((own_ieq (by omega) (by omega)).mp c175_9) (by omega)))
  refine g_aloadN X8 hx hby i10_180 rfl rfl ?_
  refine g_getfield X8 hx hby hZ hown (host := "") (Or.inl (wd_ hw 20 rfl)) Via.refl e8 (own_at Q 0 (by decide) (v := (.ref bu)) rfl) i10_181 fun T10 X10 e10 => ?_
  refine g_iloadN X10 hx hby i10_184 rfl ?_
  refine g_baload X10 hx hby hZ e10 Vb (i := 17) (own_nn (by omega)) ((own_ilt (b := 41) (by omega) (by omega)).mpr (by omega)) (by rw [own_tc (by omega)]; omega) hb17 i10_185 ?_
  refine g_sipush X10 hx hby i10_186 (z := (255 : Int32)) (by decide) ?_
  refine g_iand X10 hx hby i10_189 ?_
  rw [(own_by1 hN).1]
  refine g_istoreN X10 hx hby i10_190 (l' := #[.val (.ref s_), .val (.int (own_i (A_ + D_))), .val (.int (own_i (64 + N_))), .val (.int x3), .val (.int x4), .unset, .unset, .unset, .unset, .unset]) rfl ?_
  refine g_aloadN X10 hx hby i10_191 rfl rfl ?_
  refine g_getfield X10 hx hby hZ hown (host := "") (Or.inl (wd_ hw 89 rfl)) Via.refl e10 (own_at Q 7 (by decide) (v := (.int (own_i D_))) rfl) i10_192 fun T11 X11 e11 => ?_
  refine g_if_ne X11 hx hby i10_195 (fun c195_12 => ?_) (fun c195_12 => False.elim (own_ne0 hi0 (by omega) c195_12))
  refine g_aloadN X11 hx hby i10_202 rfl rfl ?_
  refine g_getfield X11 hx hby hZ hown (host := "") (Or.inl (wd_ hw 28 rfl)) Via.refl e11 (own_at Q 6 (by decide) (v := (.ref ub')) rfl) i10_203 fun T13 X13 e13 => ?_
  refine g_aloadN X13 hx hby i10_206 rfl rfl ?_
  refine g_getfield X13 hx hby hZ hown (host := "") (Or.inl (wd_ hw 89 rfl)) Via.refl e13 (own_at Q 7 (by decide) (v := (.int (own_i D_))) rfl) i10_207 fun T14 X14 e14 => ?_
  refine g_iconst X14 hx hby i10_210 (z := (1 : Int32)) (by decide) ?_
  refine g_isub X14 hx hby i10_211 ?_
  rw [own_ipred hi0]
  refine g_iaload X14 hx hby hZ e14 Vu (i := D_ - 1) (v := .int (4 : Int32)) (own_nn (by omega)) ((own_ilt (by omega) (by omega)).mpr (by omega)) (own_tc (by omega)) (hu hi0) i10_212 ?_
  refine g_istoreN X14 hx hby i10_213 (l' := #[.val (.ref s_), .val (.int (own_i (A_ + D_))), .val (.int (own_i (64 + N_))), .val (.int (4 : Int32)), .val (.int x4), .unset, .unset, .unset, .unset, .unset]) rfl ?_
  refine g_iloadN X14 hx hby i10_214 rfl ?_
  refine g_sipush X14 hx hby i10_215 (z := (255 : Int32)) (by decide) ?_
  refine g_icmp_ne X14 hx hby i10_218 (fun c218_15 => ?_) (fun c218_15 => False.elim ((own_by1 hN).2.2.2.1 c218_15))
  refine g_iloadN X14 hx hby i10_275 rfl ?_
  refine g_iconst X14 hx hby i10_276 (z := (2 : Int32)) (by decide) ?_
  refine g_icmp_eq X14 hx hby i10_277 (fun c277_16 => False.elim (absurd c277_16 (by decide))) fun c277_16 => ?_
  refine g_iloadN X14 hx hby i10_280 rfl ?_
  refine g_iconst X14 hx hby i10_281 (z := (3 : Int32)) (by decide) ?_
  refine g_icmp_ne X14 hx hby i10_282 (fun c282_17 => ?_) (fun c282_17 => False.elim (absurd c282_17 (by decide)))
  refine g_iloadN X14 hx hby i10_290 rfl ?_
  refine g_callS0 X14 hx hby hZ (y := (⟨"com/example/ariel/ariel/cbor/CborReader", "checkInitialByte", "(I)V"⟩ : MethodName)) (argsL := [(.int (own_i (64 + N_)))]) (rest := []) hown (wd_ hw 91 rfl) (wd_ hw 92 rfl) (wd_ hw 40 rfl) (wd_ hw 93 rfl) (by decide) (rm12_s l Z a0 hw [] (own_i (64 + N_)) hh n0 Z0 (own_by1 hN).2.2.2.1 (by rw [(own_by1 hN).2.1]; exact (own_by1 hN).2.2.2.2.1)) e14 (by rw [hml]; rfl) pd_8 rfl rfl i10_291 (by decide) 0 rfl (by decide) (by decide) (by decide) fun T18 v18 L18 X18 q18 => ?_
  obtain ⟨rfl, e18, N18⟩ := q18
  have N0 := Fr.app N0 N18
  show Gd p e below _ T18 (mkF m 294 #[.val (.ref s_), .val (.int (own_i (A_ + D_))), .val (.int (own_i (64 + N_))), .val (.int (4 : Int32)), .val (.int x4), .unset, .unset, .unset, .unset, .unset] [])
  refine g_iloadN X18 hx hby i10_294 rfl ?_
  refine g_iconst X18 hx hby i10_295 (z := (5 : Int32)) (by decide) ?_
  refine g_iushr X18 hx hby i10_296 ?_
  rw [(own_by1 hN).2.2.1]
  refine g_istore X18 hx hby i10_297 (l' := #[.val (.ref s_), .val (.int (own_i (A_ + D_))), .val (.int (own_i (64 + N_))), .val (.int (4 : Int32)), .val (.int (2 : Int32)), .unset, .unset, .unset, .unset, .unset]) rfl ?_
  refine g_iload X18 hx hby i10_299 rfl ?_
  refine g_iconst X18 hx hby i10_301 (z := (2 : Int32)) (by decide) ?_
  refine g_icmp_ne X18 hx hby i10_302 (fun c302_19 => False.elim (absurd c302_19 (by decide))) fun c302_19 => ?_
  refine g_iloadN X18 hx hby i10_305 rfl ?_
  refine g_iconst X18 hx hby i10_306 (z := (2 : Int32)) (by decide) ?_
  refine g_icmp_eq X18 hx hby i10_307 (fun c307_20 => False.elim (absurd c307_20 (by decide))) fun c307_20 => ?_
  refine g_aloadN X18 hx hby i10_310 rfl rfl ?_
  refine g_iconst X18 hx hby i10_311 (z := (0 : Int32)) (by decide) ?_
  refine g_putfield X18 hx hby hZ hown (host := "") (Or.inl (wd_ hw 94 rfl)) Via.refl e18 (own_at Q 10 (by decide) (v := (.int sk)) rfl) Q.1 (Or.inl (wd_ hw 95 rfl)) (wd_ hw 3 rfl) (ty := .int) (by decide) rfl rfl i10_312 fun T21 h21 X21 e21 W21 => ?_
  have Q : own_seq Z h21 s_ [(.ref bu), (.ref ow), (.int (own_i A_)), (.int (own_i (18 + K_))), (.int (own_i D_)), (.ref od'), (.ref ub'), (.int (own_i D_)), (.long (0 : Int64)), (.long kl), (.int (0 : Int32)), (.long cl), (.ref nl), (.int (0 : Int32)), (.ref nc), (.int (0 : Int32)), (.int (0 : Int32)), (.long (0 : Int64)), (.int (0 : Int32)), (.int mx), (.int mi), (.int (0 : Int32))] := Q.put hw (i := 10) (by decide) W21
  have Vb := Vb.other W21 (Ne.symm hsb)
  have Vq := Vq.other W21 (Ne.symm hsq)
  have Vu := Vu.other W21 (Ne.symm hsu)
  have O := O.wr W21 g_s_
  have Z0 : n0 ≤ h21.size := Nat.le_trans Z0 (Nat.le_of_eq W21.size.symm)
  have N0 := Fr.snoc X21 N0 g_s_
  have K0 := K0.wr W21 (Or.inl (by simp))
  refine g_aloadN X21 hx hby i10_315 rfl rfl ?_
  refine g_lconst X21 hx hby i10_316 (z := (0 : Int64)) (by decide) ?_
  refine g_putfield X21 hx hby hZ hown (host := "") (Or.inl (wd_ hw 96 rfl)) Via.refl e21 (own_at Q 11 (by decide) (v := (.long cl)) rfl) Q.1 (Or.inl (wd_ hw 97 rfl)) (wd_ hw 3 rfl) (ty := .long) (by decide) rfl rfl i10_317 fun T22 h22 X22 e22 W22 => ?_
  have Q : own_seq Z h22 s_ [(.ref bu), (.ref ow), (.int (own_i A_)), (.int (own_i (18 + K_))), (.int (own_i D_)), (.ref od'), (.ref ub'), (.int (own_i D_)), (.long (0 : Int64)), (.long kl), (.int (0 : Int32)), (.long (0 : Int64)), (.ref nl), (.int (0 : Int32)), (.ref nc), (.int (0 : Int32)), (.int (0 : Int32)), (.long (0 : Int64)), (.int (0 : Int32)), (.int mx), (.int mi), (.int (0 : Int32))] := Q.put hw (i := 11) (by decide) W22
  have Vb := Vb.other W22 (Ne.symm hsb)
  have Vq := Vq.other W22 (Ne.symm hsq)
  have Vu := Vu.other W22 (Ne.symm hsu)
  have O := O.wr W22 g_s_
  have Z0 : n0 ≤ h22.size := Nat.le_trans Z0 (Nat.le_of_eq W22.size.symm)
  have N0 := Fr.snoc X22 N0 g_s_
  have K0 := K0.wr W22 (Or.inl (by simp))
  refine g_iloadN X22 hx hby i10_320 rfl ?_
  refine g_bipush X22 hx hby i10_321 (z := (31 : Int32)) (by decide) ?_
  refine g_iand X22 hx hby i10_323 ?_
  rw [(own_by1 hN).2.1]
  refine g_bipush X22 hx hby i10_324 (z := (31 : Int32)) (by decide) ?_
  refine g_icmp_ne X22 hx hby i10_326 (fun c326_23 => ?_) (fun c326_23 => False.elim ((own_by1 hN).2.2.2.2.2 c326_23))
  refine g_iloadN X22 hx hby i10_368 rfl ?_
  refine g_bipush X22 hx hby i10_369 (z := (31 : Int32)) (by decide) ?_
  refine g_iand X22 hx hby i10_371 ?_
  rw [(own_by1 hN).2.1]
  refine g_callS0 X22 hx hby hZ (y := (⟨"com/example/ariel/ariel/cbor/CborReader", "argumentSize", "(I)I"⟩ : MethodName)) (argsL := [(.int (own_i N_))]) (rest := []) hown (wd_ hw 98 rfl) (wd_ hw 99 rfl) (wd_ hw 40 rfl) (wd_ hw 100 rfl) (by decide) (rm13 l Z a0 hw [] (own_i N_) h22 n0 Z0 (own_by1 hN).2.2.2.2.1) e22 (by rw [hml]; rfl) pd_10 rfl rfl i10_372 (by decide) 0 rfl (by decide) (by decide) (by decide) fun T24 v24 L24 X24 q24 => ?_
  obtain ⟨_, rfl, rfl, e24, N24⟩ := q24
  have N0 := Fr.app N0 N24
  show Gd p e below _ T24 (mkF m 375 #[.val (.ref s_), .val (.int (own_i (A_ + D_))), .val (.int (own_i (64 + N_))), .val (.int (4 : Int32)), .val (.int (2 : Int32)), .unset, .unset, .unset, .unset, .unset] [(.int (0 : Int32))])
  refine g_istore X24 hx hby i10_375 (l' := #[.val (.ref s_), .val (.int (own_i (A_ + D_))), .val (.int (own_i (64 + N_))), .val (.int (4 : Int32)), .val (.int (2 : Int32)), .val (.int (0 : Int32)), .unset, .unset, .unset, .unset]) rfl ?_
  refine g_aloadN X24 hx hby i10_377 rfl rfl ?_
  refine g_getfield X24 hx hby hZ hown (host := "") (Or.inl (wd_ hw 53 rfl)) Via.refl e24 (own_at Q 3 (by decide) (v := (.int (own_i (18 + K_)))) rfl) i10_378 fun T25 X25 e25 => ?_
  refine g_iloadN X25 hx hby i10_381 rfl ?_
  refine g_isub X25 hx hby i10_382 ?_
  rw [own_isubL (a := A_ + D_) (b := 18 + K_) (by omega)]
  refine g_iconst X25 hx hby i10_383 (z := (1 : Int32)) (by decide) ?_
  refine g_isub X25 hx hby i10_384 ?_
  rw [own_ipred (by omega)]
  refine g_iload X25 hx hby i10_385 rfl ?_
  refine g_icmp_ge X25 hx hby i10_387 (fun c387_26 => ?_) (fun c387_26 => False.elim (own_nn (by omega) c387_26))
  refine g_iload X25 hx hby i10_392 rfl ?_
  refine g_if_ne X25 hx hby i10_394 (fun c394_27 => False.elim (absurd c394_27 (by decide))) fun c394_27 => ?_
  refine g_iloadN X25 hx hby i10_397 rfl ?_
  refine g_bipush X25 hx hby i10_398 (z := (31 : Int32)) (by decide) ?_
  refine g_iand X25 hx hby i10_400 ?_
  rw [(own_by1 hN).2.1]
  refine g_i2l X25 hx hby i10_401 ?_
  rw [own_i2l (by omega)]
  refine g_goto X25 hx hby i10_402 ?_
  refine g_lstore X25 hx hby i10_417 (l' := #[.val (.ref s_), .val (.int (own_i (A_ + D_))), .val (.int (own_i (64 + N_))), .val (.int (4 : Int32)), .val (.int (2 : Int32)), .val (.int (0 : Int32)), .val (.long (own_l N_)), .second, .unset, .unset]) rfl ?_
  refine g_iloadN X25 hx hby i10_419 rfl ?_
  refine g_iconst X25 hx hby i10_420 (z := (2 : Int32)) (by decide) ?_
  refine g_icmp_ne X25 hx hby i10_421 (fun c421_28 => ?_) (fun c421_28 => False.elim (absurd c421_28 (by decide)))
  refine g_aloadN X25 hx hby i10_453 rfl rfl ?_
  refine g_dup X25 hx hby i10_454 rfl ?_
  refine g_getfield X25 hx hby hZ hown (host := "") (Or.inl (wd_ hw 79 rfl)) Via.refl e25 (own_at Q 4 (by decide) (v := (.int (own_i D_))) rfl) i10_455 fun T29 X29 e29 => ?_
  refine g_iconst X29 hx hby i10_458 (z := (1 : Int32)) (by decide) ?_
  refine g_iload X29 hx hby i10_459 rfl ?_
  refine g_iadd X29 hx hby i10_461 ?_
  refine g_iadd X29 hx hby i10_462 ?_
  rw [show ((1 : Int32) + (0 : Int32)) = (1 : Int32) from by decide, own_isucc]
  refine g_putfield X29 hx hby hZ hown (host := "") (Or.inl (wd_ hw 79 rfl)) Via.refl e29 (own_at Q 4 (by decide) (v := (.int (own_i D_))) rfl) Q.1 (Or.inl (wd_ hw 80 rfl)) (wd_ hw 3 rfl) (ty := .int) (by decide) rfl rfl i10_463 fun T30 h30 X30 e30 W30 => ?_
  have Q : own_seq Z h30 s_ [(.ref bu), (.ref ow), (.int (own_i A_)), (.int (own_i (18 + K_))), (.int (own_i (D_ + 1))), (.ref od'), (.ref ub'), (.int (own_i D_)), (.long (0 : Int64)), (.long kl), (.int (0 : Int32)), (.long (0 : Int64)), (.ref nl), (.int (0 : Int32)), (.ref nc), (.int (0 : Int32)), (.int (0 : Int32)), (.long (0 : Int64)), (.int (0 : Int32)), (.int mx), (.int mi), (.int (0 : Int32))] := Q.put hw (i := 4) (by decide) W30
  have Vb := Vb.other W30 (Ne.symm hsb)
  have Vq := Vq.other W30 (Ne.symm hsq)
  have Vu := Vu.other W30 (Ne.symm hsu)
  have O := O.wr W30 g_s_
  have Z0 : n0 ≤ h30.size := Nat.le_trans Z0 (Nat.le_of_eq W30.size.symm)
  have N0 := Fr.snoc X30 N0 g_s_
  have K0 := K0.wr W30 (Or.inl (by simp))
  refine g_iload X30 hx hby i10_466 rfl ?_
  refine g_iconst X30 hx hby i10_468 (z := (2 : Int32)) (by decide) ?_
  refine g_icmp_eq X30 hx hby i10_469 (fun c469_31 => ?_) (fun c469_31 => False.elim (absurd c469_31 (by decide)))
  refine g_aloadN X30 hx hby i10_478 rfl rfl ?_
  refine g_lload X30 hx hby i10_479 rfl ?_
  refine g_putfield X30 hx hby hZ hown (host := "") (Or.inl (wd_ hw 87 rfl)) Via.refl e30 (own_at Q 8 (by decide) (v := (.long (0 : Int64))) rfl) Q.1 (Or.inl (wd_ hw 88 rfl)) (wd_ hw 3 rfl) (ty := .long) (by decide) rfl rfl i10_481 fun T32 h32 X32 e32 W32 => ?_
  have Q : own_seq Z h32 s_ [(.ref bu), (.ref ow), (.int (own_i A_)), (.int (own_i (18 + K_))), (.int (own_i (D_ + 1))), (.ref od'), (.ref ub'), (.int (own_i D_)), (.long (own_l N_)), (.long kl), (.int (0 : Int32)), (.long (0 : Int64)), (.ref nl), (.int (0 : Int32)), (.ref nc), (.int (0 : Int32)), (.int (0 : Int32)), (.long (0 : Int64)), (.int (0 : Int32)), (.int mx), (.int mi), (.int (0 : Int32))] := Q.put hw (i := 8) (by decide) W32
  have Vb := Vb.other W32 (Ne.symm hsb)
  have Vq := Vq.other W32 (Ne.symm hsq)
  have Vu := Vu.other W32 (Ne.symm hsu)
  have O := O.wr W32 g_s_
  have Z0 : n0 ≤ h32.size := Nat.le_trans Z0 (Nat.le_of_eq W32.size.symm)
  have N0 := Fr.snoc X32 N0 g_s_
  have K0 := K0.wr W32 (Or.inl (by simp))
  refine g_aloadN X32 hx hby i10_484 rfl rfl ?_
  refine g_iload X32 hx hby i10_485 rfl ?_
  refine g_iconst X32 hx hby i10_487 (z := (2 : Int32)) (by decide) ?_
  refine g_icmp_ne X32 hx hby i10_488 (fun c488_33 => False.elim (absurd c488_33 (by decide))) fun c488_33 => ?_
  refine g_aloadN X32 hx hby i10_491 rfl rfl ?_
  refine g_lload X32 hx hby i10_492 rfl ?_
  refine g_callPriv X32 hx hby hZ (y := (⟨"com/example/ariel/ariel/cbor/CborSequence", "kept", "(J)J"⟩ : MethodName)) (argsL := [(.long (own_l N_))]) (rest := [(.ref s_)]) hown (wd_ hw 101 rfl) (wd_ hw 102 rfl) (wd_ hw 3 rfl) (wd_ hw 103 rfl) (wd_ hw 4 rfl) (wd_ hw 104 rfl) (by decide) (a := s_) Q.1 (rm14 l Z a0 hw [] s_ (own_l N_) bu ow od' ub' nl nc (own_i A_) (own_i (18 + K_)) (own_i (D_ + 1)) (own_i D_) (0 : Int32) mx mi (own_l N_) kl (0 : Int64) h32 n0 Z0 Q) e32 (by rw [hml]; rfl) pd_11 rfl rfl i10_494 (by decide) 1 rfl (by decide) (by decide) (by decide) fun T34 v34 L34 X34 q34 => ?_
  obtain ⟨_, rfl, rfl, e34, N34⟩ := q34
  have N0 := Fr.app N0 N34
  show Gd p e below _ T34 (mkF m 497 #[.val (.ref s_), .val (.int (own_i (A_ + D_))), .val (.int (own_i (64 + N_))), .val (.int (4 : Int32)), .val (.int (2 : Int32)), .val (.int (0 : Int32)), .val (.long (own_l N_)), .second, .unset, .unset] [(.long (own_l N_)), (.ref s_)])
  refine g_goto X34 hx hby i10_497 ?_
  refine g_putfield X34 hx hby hZ hown (host := "") (Or.inl (wd_ hw 105 rfl)) Via.refl e34 (own_at Q 9 (by decide) (v := (.long kl)) rfl) Q.1 (Or.inl (wd_ hw 106 rfl)) (wd_ hw 3 rfl) (ty := .long) (by decide) rfl rfl i10_502 fun T35 h35 X35 e35 W35 => ?_
  have Q : own_seq Z h35 s_ [(.ref bu), (.ref ow), (.int (own_i A_)), (.int (own_i (18 + K_))), (.int (own_i (D_ + 1))), (.ref od'), (.ref ub'), (.int (own_i D_)), (.long (own_l N_)), (.long (own_l N_)), (.int (0 : Int32)), (.long (0 : Int64)), (.ref nl), (.int (0 : Int32)), (.ref nc), (.int (0 : Int32)), (.int (0 : Int32)), (.long (0 : Int64)), (.int (0 : Int32)), (.int mx), (.int mi), (.int (0 : Int32))] := Q.put hw (i := 9) (by decide) W35
  have Vb := Vb.other W35 (Ne.symm hsb)
  have Vq := Vq.other W35 (Ne.symm hsq)
  have Vu := Vu.other W35 (Ne.symm hsu)
  have O := O.wr W35 g_s_
  have Z0 : n0 ≤ h35.size := Nat.le_trans Z0 (Nat.le_of_eq W35.size.symm)
  have N0 := Fr.snoc X35 N0 g_s_
  have K0 := K0.wr W35 (Or.inl (by simp))
  refine g_lload X35 hx hby i10_505 rfl ?_
  refine g_lconst X35 hx hby i10_507 (z := (0 : Int64)) (by decide) ?_
  refine g_lcmp_eq X35 hx hby i10_508 i10_509 (fun c508_36 => ?_) (fun c508_36 => ?_)
  · have hn0 : N_ = 0 := (own_leq (b := 0) (by omega) (by omega)).mp c508_36
    refine g_aloadN X35 hx hby i10_609 rfl rfl ?_
    refine g_callPriv X35 hx hby hZ (y := (⟨"com/example/ariel/ariel/cbor/CborSequence", "itemDone", "()Z"⟩ : MethodName)) (argsL := []) (rest := []) hown (wd_ hw 107 rfl) (wd_ hw 108 rfl) (wd_ hw 3 rfl) (wd_ hw 109 rfl) (wd_ hw 4 rfl) (wd_ hw 110 rfl) (by decide) (a := s_) Q.1 (rm15_p l Z a0 hw [] s_ bu ow od' ub' nl nc (own_i A_) (own_i (18 + K_)) (own_i (D_ + 1)) (own_i D_) (0 : Int32) mx mi (own_l N_) (own_l N_) (0 : Int64) ku (own_i (8 + own_lev D_)) vu (D_ - 1) h35 n0 Z0 Q Vu ((own_ilt (a := 0) (by omega) (by omega)).mpr hi0) (by rw [own_ipred hi0]; exact own_nn (by omega)) (by rw [own_ipred hi0]; exact (own_ilt (by omega) (by omega)).mpr (by omega)) (by rw [own_ipred hi0]; exact own_tc (by omega)) (hu hi0)) e35 (by rw [hml]; rfl) pd_12 rfl rfl i10_610 (by decide) 0 rfl (by decide) (by decide) (by decide) fun T37 v37 L37 X37 q37 => ?_
    obtain ⟨_, rfl, rfl, e37, N37⟩ := q37
    have N0 := Fr.app N0 N37
    show Gd p e below _ T37 (mkF m 613 #[.val (.ref s_), .val (.int (own_i (A_ + D_))), .val (.int (own_i (64 + N_))), .val (.int (4 : Int32)), .val (.int (2 : Int32)), .val (.int (0 : Int32)), .val (.long (own_l N_)), .second, .unset, .unset] [(.int (0 : Int32))])
    refine g_if_eq X37 hx hby i10_613 (fun c613_38 => ?_) (fun c613_38 => False.elim (absurd c613_38 (by decide)))
    refine g_goto X37 hx hby i10_618 ?_
    refine g_aloadN X37 hx hby i10_0 rfl rfl ?_
    refine g_aloadN X37 hx hby i10_1 rfl rfl ?_
    refine g_getfield X37 hx hby hZ hown (host := "") (Or.inl (wd_ hw 79 rfl)) Via.refl e37 (own_at Q 4 (by decide) (v := (.int (own_i (D_ + 1)))) rfl) i10_2 fun T39 X39 e39 => ?_
    refine g_aloadN X39 hx hby i10_5 rfl rfl ?_
    refine g_getfield X39 hx hby hZ hown (host := "") (Or.inl (wd_ hw 81 rfl)) Via.refl e39 (own_at Q 16 (by decide) (v := (.int (0 : Int32))) rfl) i10_6 fun T40 X40 e40 => ?_
    refine g_isub X40 hx hby i10_9 ?_
    rw [Int32.sub_zero]
    refine g_callPriv X40 hx hby hZ (y := (⟨"com/example/ariel/ariel/cbor/CborSequence", "checkHeld", "(I)V"⟩ : MethodName)) (argsL := [(.int (own_i (D_ + 1)))]) (rest := []) hown (wd_ hw 83 rfl) (wd_ hw 84 rfl) (wd_ hw 3 rfl) (wd_ hw 85 rfl) (wd_ hw 4 rfl) (wd_ hw 86 rfl) (by decide) (a := s_) Q.1 (rm11 l Z a0 hw [] s_ (own_i (D_ + 1)) bu ow od' ub' nl nc (own_i A_) (own_i (18 + K_)) (own_i (D_ + 1)) (own_i D_) (0 : Int32) mx mi (own_l N_) (own_l N_) (0 : Int64) h35 n0 Z0 Q (own_41 hmx (by omega))) e40 (by rw [hml]; rfl) pd_8 rfl rfl i10_10 (by decide) 0 rfl (by decide) (by decide) (by decide) fun T41 v41 L41 X41 q41 => ?_
    obtain ⟨rfl, e41, N41⟩ := q41
    have N0 := Fr.app N0 N41
    show Gd p e below _ T41 (mkF m 13 #[.val (.ref s_), .val (.int (own_i (A_ + D_))), .val (.int (own_i (64 + N_))), .val (.int (4 : Int32)), .val (.int (2 : Int32)), .val (.int (0 : Int32)), .val (.long (own_l N_)), .second, .unset, .unset] [])
    refine g_aloadN X41 hx hby i10_13 rfl rfl ?_
    refine g_getfield X41 hx hby hZ hown (host := "") (Or.inl (wd_ hw 87 rfl)) Via.refl e41 (own_at Q 8 (by decide) (v := (.long (own_l N_))) rfl) i10_14 fun T42 X42 e42 => ?_
    refine g_lconst X42 hx hby i10_17 (z := (0 : Int64)) (by decide) ?_
    refine g_lcmp_eq X42 hx hby i10_18 i10_19 (fun c18_43 => ?_) (fun c18_43 => False.elim (c18_43 c508_36))
    refine g_aloadN X42 hx hby i10_160 rfl rfl ?_
    refine g_getfield X42 hx hby hZ hown (host := "") (Or.inl (wd_ hw 55 rfl)) Via.refl e42 (own_at Q 2 (by decide) (v := (.int (own_i A_))) rfl) i10_161 fun T44 X44 e44 => ?_
    refine g_aloadN X44 hx hby i10_164 rfl rfl ?_
    refine g_getfield X44 hx hby hZ hown (host := "") (Or.inl (wd_ hw 79 rfl)) Via.refl e44 (own_at Q 4 (by decide) (v := (.int (own_i (D_ + 1)))) rfl) i10_165 fun T45 X45 e45 => ?_
    refine g_iadd X45 hx hby i10_168 ?_
    rw [own_iadd]
    refine g_istoreN X45 hx hby i10_169 (l' := #[.val (.ref s_), .val (.int (own_i (A_ + (D_ + 1)))), .val (.int (own_i (64 + N_))), .val (.int (4 : Int32)), .val (.int (2 : Int32)), .val (.int (0 : Int32)), .val (.long (own_l N_)), .second, .unset, .unset]) rfl ?_
    refine g_iloadN X45 hx hby i10_170 rfl ?_
    refine g_aloadN X45 hx hby i10_171 rfl rfl ?_
    refine g_getfield X45 hx hby hZ hown (host := "") (Or.inl (wd_ hw 53 rfl)) Via.refl e45 (own_at Q 3 (by decide) (v := (.int (own_i (18 + K_)))) rfl) i10_172 fun T46 X46 e46 => ?_
    refine g_icmp_ne X46 hx hby i10_175 (fun c175_47 => False.elim (c175_47 (congrArg own_i (by omega)))) fun c175_47 => ?_
    refine g_iconst X46 hx hby i10_178 (z := (0 : Int32)) (by decide) ?_
    refine g_ireturnN X46 hx hby (ty := .boolean) hret (by simp) hlk i10_179 (by decide) (by decide) ?_
    rw [e46]
    obtain rfl : K_ = 0 := by omega
    exact ⟨_, rfl, od', ub', _, _, _, _, (by rw [if_neg (by omega)]; rfl), K0, Q, Vq, g_od', hod, hsq, N0⟩
  · have hn1 : ¬ N_ = 0 := fun q => c508_36 (by rw [q]; rfl)
    refine g_goto X35 hx hby i10_512 ?_
    refine g_aloadN X35 hx hby i10_0 rfl rfl ?_
    refine g_aloadN X35 hx hby i10_1 rfl rfl ?_
    refine g_getfield X35 hx hby hZ hown (host := "") (Or.inl (wd_ hw 79 rfl)) Via.refl e35 (own_at Q 4 (by decide) (v := (.int (own_i (D_ + 1)))) rfl) i10_2 fun T48 X48 e48 => ?_
    refine g_aloadN X48 hx hby i10_5 rfl rfl ?_
    refine g_getfield X48 hx hby hZ hown (host := "") (Or.inl (wd_ hw 81 rfl)) Via.refl e48 (own_at Q 16 (by decide) (v := (.int (0 : Int32))) rfl) i10_6 fun T49 X49 e49 => ?_
    refine g_isub X49 hx hby i10_9 ?_
    rw [Int32.sub_zero]
    refine g_callPriv X49 hx hby hZ (y := (⟨"com/example/ariel/ariel/cbor/CborSequence", "checkHeld", "(I)V"⟩ : MethodName)) (argsL := [(.int (own_i (D_ + 1)))]) (rest := []) hown (wd_ hw 83 rfl) (wd_ hw 84 rfl) (wd_ hw 3 rfl) (wd_ hw 85 rfl) (wd_ hw 4 rfl) (wd_ hw 86 rfl) (by decide) (a := s_) Q.1 (rm11 l Z a0 hw [] s_ (own_i (D_ + 1)) bu ow od' ub' nl nc (own_i A_) (own_i (18 + K_)) (own_i (D_ + 1)) (own_i D_) (0 : Int32) mx mi (own_l N_) (own_l N_) (0 : Int64) h35 n0 Z0 Q (own_41 hmx (by omega))) e49 (by rw [hml]; rfl) pd_8 rfl rfl i10_10 (by decide) 0 rfl (by decide) (by decide) (by decide) fun T50 v50 L50 X50 q50 => ?_
    obtain ⟨rfl, e50, N50⟩ := q50
    have N0 := Fr.app N0 N50
    show Gd p e below _ T50 (mkF m 13 #[.val (.ref s_), .val (.int (own_i (A_ + D_))), .val (.int (own_i (64 + N_))), .val (.int (4 : Int32)), .val (.int (2 : Int32)), .val (.int (0 : Int32)), .val (.long (own_l N_)), .second, .unset, .unset] [])
    refine g_aloadN X50 hx hby i10_13 rfl rfl ?_
    refine g_getfield X50 hx hby hZ hown (host := "") (Or.inl (wd_ hw 87 rfl)) Via.refl e50 (own_at Q 8 (by decide) (v := (.long (own_l N_))) rfl) i10_14 fun T51 X51 e51 => ?_
    refine g_lconst X51 hx hby i10_17 (z := (0 : Int64)) (by decide) ?_
    refine g_lcmp_eq X51 hx hby i10_18 i10_19 (fun c18_52 => False.elim (c508_36 c18_52)) fun c18_52 => ?_
    refine g_aloadN X51 hx hby i10_22 rfl rfl ?_
    refine g_getfield X51 hx hby hZ hown (host := "") (Or.inl (wd_ hw 55 rfl)) Via.refl e51 (own_at Q 2 (by decide) (v := (.int (own_i A_))) rfl) i10_23 fun T53 X53 e53 => ?_
    refine g_aloadN X53 hx hby i10_26 rfl rfl ?_
    refine g_getfield X53 hx hby hZ hown (host := "") (Or.inl (wd_ hw 79 rfl)) Via.refl e53 (own_at Q 4 (by decide) (v := (.int (own_i (D_ + 1)))) rfl) i10_27 fun T54 X54 e54 => ?_
    refine g_iadd X54 hx hby i10_30 ?_
    rw [own_iadd]
    refine g_istoreN X54 hx hby i10_31 (l' := #[.val (.ref s_), .val (.int (own_i (A_ + (D_ + 1)))), .val (.int (own_i (64 + N_))), .val (.int (4 : Int32)), .val (.int (2 : Int32)), .val (.int (0 : Int32)), .val (.long (own_l N_)), .second, .unset, .unset]) rfl ?_
    refine g_aloadN X54 hx hby i10_32 rfl rfl ?_
    refine g_getfield X54 hx hby hZ hown (host := "") (Or.inl (wd_ hw 53 rfl)) Via.refl e54 (own_at Q 3 (by decide) (v := (.int (own_i (18 + K_)))) rfl) i10_33 fun T55 X55 e55 => ?_
    refine g_iloadN X55 hx hby i10_36 rfl ?_
    refine g_isub X55 hx hby i10_37 ?_
    rw [own_isubL (a := A_ + (D_ + 1)) (b := 18 + K_) (by omega), show 18 + K_ - (A_ + (D_ + 1)) = K_ from by omega]
    refine g_i2l X55 hx hby i10_38 ?_
    rw [own_i2l (by omega)]
    refine g_lstoreN X55 hx hby i10_39 (l' := #[.val (.ref s_), .val (.int (own_i (A_ + (D_ + 1)))), .val (.long (own_l K_)), .second, .val (.int (2 : Int32)), .val (.int (0 : Int32)), .val (.long (own_l N_)), .second, .unset, .unset]) rfl ?_
    refine g_aloadN X55 hx hby i10_40 rfl rfl ?_
    refine g_getfield X55 hx hby hZ hown (host := "") (Or.inl (wd_ hw 87 rfl)) Via.refl e55 (own_at Q 8 (by decide) (v := (.long (own_l N_))) rfl) i10_41 fun T56 X56 e56 => ?_
    refine g_lloadN X56 hx hby i10_44 rfl ?_
    refine g_callS0 X56 hx hby hZ (y := (⟨"java/lang/Long", "compareUnsigned", "(JJ)I"⟩ : MethodName)) (argsL := [(.long (own_l N_)), (.long (own_l K_))]) (rest := []) hown (wd_ hw 249 rfl) (wd_ hw 173 rfl) (wd_ hw 174 rfl) (wd_ hw 175 rfl) (by decide) (rm26 l Z a0 hw [] (own_l N_) (own_l K_) N_ K_ h35 n0 Z0 rfl rfl (by omega) (by omega)) e56 (by rw [hml]; rfl) pd_7 rfl rfl i10_45 (by decide) 0 rfl (by decide) (by decide) (by decide) fun T57 v57 L57 X57 q57 => ?_
    obtain ⟨_, rfl, rfl, e57, N57⟩ := q57
    have N0 := Fr.app N0 N57
    show Gd p e below _ T57 (mkF m 48 #[.val (.ref s_), .val (.int (own_i (A_ + (D_ + 1)))), .val (.long (own_l K_)), .second, .val (.int (2 : Int32)), .val (.int (0 : Int32)), .val (.long (own_l N_)), .second, .unset, .unset] [(.int (own_c N_ K_))])
    refine g_if_ge X57 hx hby i10_48 (fun c48_58 => ?_) (fun c48_58 => False.elim (own_cge hK c48_58))
    refine g_lloadN X57 hx hby i10_58 rfl ?_
    refine g_lstore X57 hx hby i10_59 (l' := #[.val (.ref s_), .val (.int (own_i (A_ + (D_ + 1)))), .val (.long (own_l K_)), .second, .val (.long (own_l K_)), .second, .val (.long (own_l N_)), .second, .unset, .unset]) rfl ?_
    refine g_aloadN X57 hx hby i10_61 rfl rfl ?_
    refine g_getfield X57 hx hby hZ hown (host := "") (Or.inl (wd_ hw 105 rfl)) Via.refl e57 (own_at Q 9 (by decide) (v := (.long (own_l N_))) rfl) i10_62 fun T59 X59 e59 => ?_
    refine g_lload X59 hx hby i10_65 rfl ?_
    refine g_callS0 X59 hx hby hZ (y := (⟨"java/lang/Long", "compareUnsigned", "(JJ)I"⟩ : MethodName)) (argsL := [(.long (own_l N_)), (.long (own_l K_))]) (rest := []) hown (wd_ hw 249 rfl) (wd_ hw 173 rfl) (wd_ hw 174 rfl) (wd_ hw 175 rfl) (by decide) (rm26 l Z a0 hw [] (own_l N_) (own_l K_) N_ K_ h35 n0 Z0 rfl rfl (by omega) (by omega)) e59 (by rw [hml]; rfl) pd_7 rfl rfl i10_67 (by decide) 0 rfl (by decide) (by decide) (by decide) fun T60 v60 L60 X60 q60 => ?_
    obtain ⟨_, rfl, rfl, e60, N60⟩ := q60
    have N0 := Fr.app N0 N60
    show Gd p e below _ T60 (mkF m 70 #[.val (.ref s_), .val (.int (own_i (A_ + (D_ + 1)))), .val (.long (own_l K_)), .second, .val (.long (own_l K_)), .second, .val (.long (own_l N_)), .second, .unset, .unset] [(.int (own_c N_ K_))])
    refine g_if_ge X60 hx hby i10_70 (fun c70_61 => ?_) (fun c70_61 => False.elim (own_cge hK c70_61))
    refine g_lload X60 hx hby i10_80 rfl ?_
    refine g_lstore X60 hx hby i10_82 (l' := #[.val (.ref s_), .val (.int (own_i (A_ + (D_ + 1)))), .val (.long (own_l K_)), .second, .val (.long (own_l K_)), .second, .val (.long (own_l K_)), .second, .unset, .unset]) rfl ?_
    refine g_lload X60 hx hby i10_84 rfl ?_
    refine g_lload X60 hx hby i10_86 rfl ?_
    refine g_lcmp_ge X60 hx hby i10_88 i10_89 (fun c88_62 => ?_) (fun c88_62 => False.elim (own_irr _ c88_62))
    refine g_aloadN X60 hx hby i10_106 rfl rfl ?_
    refine g_dup X60 hx hby i10_107 rfl ?_
    refine g_getfield X60 hx hby hZ hown (host := "") (Or.inl (wd_ hw 79 rfl)) Via.refl e60 (own_at Q 4 (by decide) (v := (.int (own_i (D_ + 1)))) rfl) i10_108 fun T63 X63 e63 => ?_
    refine g_lload X63 hx hby i10_111 rfl ?_
    refine g_l2i X63 hx hby i10_113 ?_
    rw [own_l2i (by omega)]
    refine g_iadd X63 hx hby i10_114 ?_
    rw [own_iadd]
    refine g_putfield X63 hx hby hZ hown (host := "") (Or.inl (wd_ hw 79 rfl)) Via.refl e63 (own_at Q 4 (by decide) (v := (.int (own_i (D_ + 1)))) rfl) Q.1 (Or.inl (wd_ hw 80 rfl)) (wd_ hw 3 rfl) (ty := .int) (by decide) rfl rfl i10_115 fun T64 h64 X64 e64 W64 => ?_
    have Q : own_seq Z h64 s_ [(.ref bu), (.ref ow), (.int (own_i A_)), (.int (own_i (18 + K_))), (.int (own_i (D_ + 1 + K_))), (.ref od'), (.ref ub'), (.int (own_i D_)), (.long (own_l N_)), (.long (own_l N_)), (.int (0 : Int32)), (.long (0 : Int64)), (.ref nl), (.int (0 : Int32)), (.ref nc), (.int (0 : Int32)), (.int (0 : Int32)), (.long (0 : Int64)), (.int (0 : Int32)), (.int mx), (.int mi), (.int (0 : Int32))] := Q.put hw (i := 4) (by decide) W64
    have Vb := Vb.other W64 (Ne.symm hsb)
    have Vq := Vq.other W64 (Ne.symm hsq)
    have Vu := Vu.other W64 (Ne.symm hsu)
    have O := O.wr W64 g_s_
    have Z0 : n0 ≤ h64.size := Nat.le_trans Z0 (Nat.le_of_eq W64.size.symm)
    have N0 := Fr.snoc X64 N0 g_s_
    have K0 := K0.wr W64 (Or.inl (by simp))
    refine g_aloadN X64 hx hby i10_118 rfl rfl ?_
    refine g_dup X64 hx hby i10_119 rfl ?_
    refine g_getfield X64 hx hby hZ hown (host := "") (Or.inl (wd_ hw 87 rfl)) Via.refl e64 (own_at Q 8 (by decide) (v := (.long (own_l N_))) rfl) i10_120 fun T65 X65 e65 => ?_
    refine g_lload X65 hx hby i10_123 rfl ?_
    refine g_lsub X65 hx hby i10_125 ?_
    rw [own_lsub hK]
    refine g_putfield X65 hx hby hZ hown (host := "") (Or.inl (wd_ hw 87 rfl)) Via.refl e65 (own_at Q 8 (by decide) (v := (.long (own_l N_))) rfl) Q.1 (Or.inl (wd_ hw 88 rfl)) (wd_ hw 3 rfl) (ty := .long) (by decide) rfl rfl i10_126 fun T66 h66 X66 e66 W66 => ?_
    have Q : own_seq Z h66 s_ [(.ref bu), (.ref ow), (.int (own_i A_)), (.int (own_i (18 + K_))), (.int (own_i (D_ + 1 + K_))), (.ref od'), (.ref ub'), (.int (own_i D_)), (.long (own_l (N_ - K_))), (.long (own_l N_)), (.int (0 : Int32)), (.long (0 : Int64)), (.ref nl), (.int (0 : Int32)), (.ref nc), (.int (0 : Int32)), (.int (0 : Int32)), (.long (0 : Int64)), (.int (0 : Int32)), (.int mx), (.int mi), (.int (0 : Int32))] := Q.put hw (i := 8) (by decide) W66
    have Vb := Vb.other W66 (Ne.symm hsb)
    have Vq := Vq.other W66 (Ne.symm hsq)
    have Vu := Vu.other W66 (Ne.symm hsu)
    have O := O.wr W66 g_s_
    have Z0 : n0 ≤ h66.size := Nat.le_trans Z0 (Nat.le_of_eq W66.size.symm)
    have N0 := Fr.snoc X66 N0 g_s_
    have K0 := K0.wr W66 (Or.inl (by simp))
    refine g_aloadN X66 hx hby i10_129 rfl rfl ?_
    refine g_dup X66 hx hby i10_130 rfl ?_
    refine g_getfield X66 hx hby hZ hown (host := "") (Or.inl (wd_ hw 105 rfl)) Via.refl e66 (own_at Q 9 (by decide) (v := (.long (own_l N_))) rfl) i10_131 fun T67 X67 e67 => ?_
    refine g_lload X67 hx hby i10_134 rfl ?_
    refine g_lsub X67 hx hby i10_136 ?_
    rw [own_lsub hK]
    refine g_putfield X67 hx hby hZ hown (host := "") (Or.inl (wd_ hw 105 rfl)) Via.refl e67 (own_at Q 9 (by decide) (v := (.long (own_l N_))) rfl) Q.1 (Or.inl (wd_ hw 106 rfl)) (wd_ hw 3 rfl) (ty := .long) (by decide) rfl rfl i10_137 fun T68 h68 X68 e68 W68 => ?_
    have Q : own_seq Z h68 s_ [(.ref bu), (.ref ow), (.int (own_i A_)), (.int (own_i (18 + K_))), (.int (own_i (D_ + 1 + K_))), (.ref od'), (.ref ub'), (.int (own_i D_)), (.long (own_l (N_ - K_))), (.long (own_l (N_ - K_))), (.int (0 : Int32)), (.long (0 : Int64)), (.ref nl), (.int (0 : Int32)), (.ref nc), (.int (0 : Int32)), (.int (0 : Int32)), (.long (0 : Int64)), (.int (0 : Int32)), (.int mx), (.int mi), (.int (0 : Int32))] := Q.put hw (i := 9) (by decide) W68
    have Vb := Vb.other W68 (Ne.symm hsb)
    have Vq := Vq.other W68 (Ne.symm hsq)
    have Vu := Vu.other W68 (Ne.symm hsu)
    have O := O.wr W68 g_s_
    have Z0 : n0 ≤ h68.size := Nat.le_trans Z0 (Nat.le_of_eq W68.size.symm)
    have N0 := Fr.snoc X68 N0 g_s_
    have K0 := K0.wr W68 (Or.inl (by simp))
    refine g_aloadN X68 hx hby i10_140 rfl rfl ?_
    refine g_getfield X68 hx hby hZ hown (host := "") (Or.inl (wd_ hw 87 rfl)) Via.refl e68 (own_at Q 8 (by decide) (v := (.long (own_l (N_ - K_)))) rfl) i10_141 fun T69 X69 e69 => ?_
    refine g_lconst X69 hx hby i10_144 (z := (0 : Int64)) (by decide) ?_
    refine g_lcmp_eq X69 hx hby i10_145 i10_146 (fun c145_70 => ?_) (fun c145_70 => ?_)
    · have hnk : N_ - K_ = 0 := (own_leq (b := 0) (by omega) (by omega)).mp c145_70
      refine g_aloadN X69 hx hby i10_151 rfl rfl ?_
      refine g_callPriv X69 hx hby hZ (y := (⟨"com/example/ariel/ariel/cbor/CborSequence", "itemDone", "()Z"⟩ : MethodName)) (argsL := []) (rest := []) hown (wd_ hw 107 rfl) (wd_ hw 108 rfl) (wd_ hw 3 rfl) (wd_ hw 109 rfl) (wd_ hw 4 rfl) (wd_ hw 110 rfl) (by decide) (a := s_) Q.1 (rm15_p l Z a0 hw [] s_ bu ow od' ub' nl nc (own_i A_) (own_i (18 + K_)) (own_i (D_ + 1 + K_)) (own_i D_) (0 : Int32) mx mi (own_l (N_ - K_)) (own_l (N_ - K_)) (0 : Int64) ku (own_i (8 + own_lev D_)) vu (D_ - 1) h68 n0 Z0 Q Vu ((own_ilt (a := 0) (by omega) (by omega)).mpr hi0) (by rw [own_ipred hi0]; exact own_nn (by omega)) (by rw [own_ipred hi0]; exact (own_ilt (by omega) (by omega)).mpr (by omega)) (by rw [own_ipred hi0]; exact own_tc (by omega)) (hu hi0)) e69 (by rw [hml]; rfl) pd_12 rfl rfl i10_152 (by decide) 0 rfl (by decide) (by decide) (by decide) fun T71 v71 L71 X71 q71 => ?_
      obtain ⟨_, rfl, rfl, e71, N71⟩ := q71
      have N0 := Fr.app N0 N71
      show Gd p e below _ T71 (mkF m 155 #[.val (.ref s_), .val (.int (own_i (A_ + (D_ + 1)))), .val (.long (own_l K_)), .second, .val (.long (own_l K_)), .second, .val (.long (own_l K_)), .second, .unset, .unset] [(.int (0 : Int32))])
      refine g_if_eq X71 hx hby i10_155 (fun c155_72 => ?_) (fun c155_72 => False.elim (absurd c155_72 (by decide)))
      refine g_aloadN X71 hx hby i10_160 rfl rfl ?_
      refine g_getfield X71 hx hby hZ hown (host := "") (Or.inl (wd_ hw 55 rfl)) Via.refl e71 (own_at Q 2 (by decide) (v := (.int (own_i A_))) rfl) i10_161 fun T73 X73 e73 => ?_
      refine g_aloadN X73 hx hby i10_164 rfl rfl ?_
      refine g_getfield X73 hx hby hZ hown (host := "") (Or.inl (wd_ hw 79 rfl)) Via.refl e73 (own_at Q 4 (by decide) (v := (.int (own_i (D_ + 1 + K_)))) rfl) i10_165 fun T74 X74 e74 => ?_
      refine g_iadd X74 hx hby i10_168 ?_
      rw [own_iadd]
      refine g_istoreN X74 hx hby i10_169 (l' := #[.val (.ref s_), .val (.int (own_i (A_ + (D_ + 1 + K_)))), .val (.long (own_l K_)), .second, .val (.long (own_l K_)), .second, .val (.long (own_l K_)), .second, .unset, .unset]) rfl ?_
      refine g_iloadN X74 hx hby i10_170 rfl ?_
      refine g_aloadN X74 hx hby i10_171 rfl rfl ?_
      refine g_getfield X74 hx hby hZ hown (host := "") (Or.inl (wd_ hw 53 rfl)) Via.refl e74 (own_at Q 3 (by decide) (v := (.int (own_i (18 + K_)))) rfl) i10_172 fun T75 X75 e75 => ?_
      refine g_icmp_ne X75 hx hby i10_175 (fun c175_76 => False.elim (c175_76 (congrArg own_i (by omega)))) fun c175_76 => ?_
      refine g_iconst X75 hx hby i10_178 (z := (0 : Int32)) (by decide) ?_
      refine g_ireturnN X75 hx hby (ty := .boolean) hret (by simp) hlk i10_179 (by decide) (by decide) ?_
      rw [e75]
      exact ⟨_, rfl, od', ub', _, _, _, _, (by rw [if_neg (by omega)]; rfl), K0, Q, Vq, g_od', hod, hsq, N0⟩
    · have hnk : ¬ N_ - K_ = 0 := fun q => c145_70 (by rw [q]; rfl)
      refine g_iconst X69 hx hby i10_149 (z := (0 : Int32)) (by decide) ?_
      refine g_ireturnN X69 hx hby (ty := .boolean) hret (by simp) hlk i10_150 (by decide) (by decide) ?_
      rw [e69]
      exact ⟨_, rfl, od', ub', _, _, _, _, (by rw [if_neg (by omega)]; rfl), K0, Q, Vq, g_od', hod, hsq, N0⟩
theorem ef_10 (m : MethodId) (s_ : Addr) : entryFrame m #[(.ref s_)] 10 = mkF m 0 #[.val (.ref s_), .unset, .unset, .unset, .unset, .unset, .unset, .unset, .unset, .unset] [] := by first | (simp [entryFrame, mkF, argsToLocals, Value.category]; done) | rfl
theorem rm10 (l : Launch) (Z : State) (a0 : Array Value) (hw : ∀ d ∈ tables_1, d.before a0 Z = true) (ws : List Jvm.Cond) (s_ : Addr) (no_ : Addr) (bu ow od ub nl nc : Addr) (sc dp sk mx mi : Int32) (sl kl cl : Int64) (kb kq ku : ClassId) (vb vq vu : List Value) (A_ K_ D_ N_ : Nat) (h0 : Heap) (n0 : Nat) (Z0 : n0 ≤ h0.size) (SA_ : Sta Z Z.heap "com/example/ariel/ariel/cbor/CborSequence" "NOTHING" "[B" (.ref no_)) (SB_ : Sta Z Z.heap "com/example/ariel/ariel/cbor/CborSequence" "NO_LENGTHS" "[J" (.ref nl)) (SC_ : Sta Z Z.heap "com/example/ariel/ariel/cbor/CborSequence" "NO_CUTS" "[I" (.ref nc)) (O : Old Z n0 h0) (Q : own_seq Z h0 s_ [(.ref bu), (.ref ow), (.int (own_i A_)), (.int (own_i (18 + K_))), (.int (own_i 0)), (.ref od), (.ref ub), (.int (own_i 0)), (.long (0 : Int64)), (.long kl), (.int sk), (.long cl), (.ref nl), (.int (0 : Int32)), (.ref nc), (.int (0 : Int32)), (.int (0 : Int32)), (.long (0 : Int64)), (.int (0 : Int32)), (.int mx), (.int mi), (.int (0 : Int32))]) (g_s_ : n0 ≤ s_) (Vb : Arv Z h0 bu kb .byte (41 : Int32) vb (.int (0 : Int32))) (Vq : Arv Z h0 od kq .long (own_i 8) vq (.long (0 : Int64))) (Vu : Arv Z h0 ub ku .int (own_i 8) vu (.int (0 : Int32))) (g_od : n0 ≤ od) (g_ub : n0 ≤ ub) (hsb : s_ ≠ bu) (hsq : s_ ≠ od) (hsu : s_ ≠ ub) (hqu : od ≠ ub) (hbq : bu ≠ od) (hbu : bu ≠ ub) (hbyte : ∀ j, j < 17 → vb.getD j (.int (0 : Int32)) = .int (-97 : Int32)) (hb17 : vb.getD 17 (.int (0 : Int32)) = .int (own_i (64 + N_))) (hA : A_ + D_ = 17) (hN : N_ < 24) (hK : K_ ≤ N_) (hmx : ¬ mx < (41 : Int32)) :
    Met1 l (⟨"com/example/ariel/ariel/cbor/CborSequence", "scan", "()Z"⟩ : MethodName) prog_32_method_15_code 10 (some .boolean) ws ({ frames := 3, cells := 4, slots := 128, locals := 70 } : Room) #[(.ref s_)] Z h0 (RV fun vv h L => ∃ od' ub' kq vq sl kl, vv = .int (if D_ = 0 ∧ K_ = N_ then 1 else 0) ∧ Keep h0 h [s_, od, ub] ∧ own_seq Z h s_ [(.ref bu), (.ref ow), (.int (own_i A_)), (.int (own_i (18 + K_))), (.int (own_i (D_ + 1 + K_))), (.ref od'), (.ref ub'), (.int (own_i D_)), (.long sl), (.long kl), (.int (0 : Int32)), (.long (0 : Int64)), (.ref nl), (.int (0 : Int32)), (.ref nc), (.int (0 : Int32)), (.int (0 : Int32)), (.long (0 : Int64)), (.int (0 : Int32)), (.int mx), (.int mi), (.int (0 : Int32))] ∧ Arv Z h od' kq .long (own_i (8 + own_lev D_)) vq (.long (0 : Int64)) ∧ n0 ≤ od' ∧ (od' = od ∨ h0.size ≤ od') ∧ s_ ≠ od' ∧ Fr n0 L) := by
  refine met_of (plainFor_of_name pn_com_example_ariel_ariel_cbor_CborSequence) ?_
  intro p e s m below meth c T0 X0 hx hby hml hZ hown hnm hret hlk e0 es
  have N0 := Fr.nil n0
  refine Gd.cast (ef_10 m s_) ?_
  have I0 : own_S Z h0 h0 n0 s_ bu ow od ub nl nc A_ K_ 0 8 mx mi kb vb := ⟨od, ub, kq, ku, vq, vu, sk, kl, cl, Q, Vb, Vq, Vu, (fun q => absurd q (by omega)), g_od, g_ub, hsq, hsu, hqu, hbq, hbu, Or.inl rfl, Or.inl rfl, Keep.refl _ _, O, Z0⟩
  by_cases hd : D_ = 0
  · subst hd
    exact fn_0 l Z a0 hw hx hby hml hZ hown hret hlk h0 n0 no_ s_ bu ow od ub nl nc A_ K_ N_ mx mi kb vb SA_ SB_ SC_ g_s_ hsb hbyte hb17 hA hN hK hmx T0 h0 [] (own_bump X0 (by decide) (by decide)) e0 N0 (by rw [own_levA (by omega)]; exact I0)
  refine ps_un l Z a0 hw hx hby hml hZ hown hret hlk h0 n0 no_ s_ bu ow od ub nl nc A_ K_ D_ N_ mx mi kb vb SA_ SB_ SC_ g_s_ hsb hbyte hb17 hA hN hK hmx (by omega) 8 (by omega) (by omega) (by decide) (by decide) T0 h0 [] X0 e0 N0 I0 fun T1 L1 y1 y2 y3 y4 X1 N1 I1 => ?_
  by_cases h8 : D_ ≤ 8
  · exact lpN l Z a0 hw hx hby hml hZ hown hret hlk h0 n0 no_ s_ bu ow od ub nl nc A_ K_ D_ N_ mx mi kb vb SA_ SB_ SC_ g_s_ hsb hbyte hb17 hA hN hK hmx 8 D_ (by omega) (by omega) (by omega) (by decide) (by decide) (D_ - 1) 1 (by omega) (by omega) T1 L1 y1 y2 y3 y4 X1 N1 I1 fun T2 L2 y1 y2 y3 y4 X2 N2 I2 => fn_p l Z a0 hw hx hby hml hZ hown hret hlk h0 n0 no_ s_ bu ow od ub nl nc A_ K_ D_ N_ mx mi kb vb SA_ SB_ SC_ g_s_ hsb hbyte hb17 hA hN hK hmx (by omega) (by rw [own_levA h8]; omega) (by rw [own_levA h8]; omega) T2 T2.heap L2 y1 y2 y3 y4 (own_bump X2 (by decide) (by decide)) rfl N2 (by rw [own_levA h8]; exact I2)
  refine lpN l Z a0 hw hx hby hml hZ hown hret hlk h0 n0 no_ s_ bu ow od ub nl nc A_ K_ D_ N_ mx mi kb vb SA_ SB_ SC_ g_s_ hsb hbyte hb17 hA hN hK hmx 8 8 (by omega) (by omega) (by omega) (by decide) (by decide) 7 1 (by omega) (by omega) T1 L1 y1 y2 y3 y4 X1 N1 I1 fun T2 L2 y1 y2 y3 y4 X2 N2 I2 => ?_
  refine ps_vg l Z a0 hw hx hby hml hZ hown hret hlk h0 n0 no_ s_ bu ow od ub nl nc A_ K_ D_ N_ mx mi kb vb SA_ SB_ SC_ g_s_ hsb hbyte hb17 hA hN hK hmx 8 (by omega) (by omega) (by omega) (by decide) (by decide) T2 T2.heap L2 y1 y2 y3 y4 X2 rfl N2 I2 fun T3 L3 y1 y2 y3 y4 X3 N3 I3 => ?_
  by_cases h16 : D_ ≤ 16
  · exact lpN l Z a0 hw hx hby hml hZ hown hret hlk h0 n0 no_ s_ bu ow od ub nl nc A_ K_ D_ N_ mx mi kb vb SA_ SB_ SC_ g_s_ hsb hbyte hb17 hA hN hK hmx 16 D_ (by omega) (by omega) (by omega) (by decide) (by decide) (D_ - 9) 9 (by omega) (by omega) T3 L3 y1 y2 y3 y4 X3 N3 I3 fun T4 L4 y1 y2 y3 y4 X4 N4 I4 => fn_p l Z a0 hw hx hby hml hZ hown hret hlk h0 n0 no_ s_ bu ow od ub nl nc A_ K_ D_ N_ mx mi kb vb SA_ SB_ SC_ g_s_ hsb hbyte hb17 hA hN hK hmx (by omega) (by rw [own_levB h8 h16]; omega) (by rw [own_levB h8 h16]; omega) T4 T4.heap L4 y1 y2 y3 y4 (own_bump X4 (by decide) (by decide)) rfl N4 (by rw [own_levB h8 h16]; exact I4)
  refine lpN l Z a0 hw hx hby hml hZ hown hret hlk h0 n0 no_ s_ bu ow od ub nl nc A_ K_ D_ N_ mx mi kb vb SA_ SB_ SC_ g_s_ hsb hbyte hb17 hA hN hK hmx 16 16 (by omega) (by omega) (by omega) (by decide) (by decide) 7 9 (by omega) (by omega) T3 L3 y1 y2 y3 y4 X3 N3 I3 fun T4 L4 y1 y2 y3 y4 X4 N4 I4 => ?_
  refine ps_vg l Z a0 hw hx hby hml hZ hown hret hlk h0 n0 no_ s_ bu ow od ub nl nc A_ K_ D_ N_ mx mi kb vb SA_ SB_ SC_ g_s_ hsb hbyte hb17 hA hN hK hmx 16 (by omega) (by omega) (by omega) (by decide) (by decide) T4 T4.heap L4 y1 y2 y3 y4 X4 rfl N4 I4 fun T5 L5 y1 y2 y3 y4 X5 N5 I5 => ?_
  obtain rfl : D_ = 17 := by omega
  exact fn_p l Z a0 hw hx hby hml hZ hown hret hlk h0 n0 no_ s_ bu ow od ub nl nc A_ K_ 17 N_ mx mi kb vb SA_ SB_ SC_ g_s_ hsb hbyte hb17 hA hN hK hmx (by omega) (by rw [own_levC h8 h16]; omega) (by rw [own_levC h8 h16]; omega) T5 T5.heap L5 y1 y2 y3 y4 (own_bump X5 (by decide) (by decide)) rfl N5 (by rw [own_levC h8 h16]; exact I5)
theorem i18_0 : Ins1 jdk_41_method_13_code 0 (.iload_n 2) 1 1 := ⟨by decide +kernel, rfl⟩
theorem i18_1 : Ins1 jdk_41_method_13_code 1 (.iload_n 0) 1 2 := ⟨by decide +kernel, rfl⟩
theorem i18_2 : Ins1 jdk_41_method_13_code 2 (.ior) 1 3 := ⟨by decide +kernel, rfl⟩
theorem i18_3 : Ins1 jdk_41_method_13_code 3 (.iload_n 1) 1 4 := ⟨by decide +kernel, rfl⟩
theorem i18_4 : Ins1 jdk_41_method_13_code 4 (.ior) 1 5 := ⟨by decide +kernel, rfl⟩
theorem i18_5 : InsB jdk_41_method_13_code 5 (.ifCond .lt 10) 10 8 15 := ⟨by decide +kernel, rfl, by decide, by decide⟩
theorem i18_8 : Ins1 jdk_41_method_13_code 8 (.iload_n 1) 1 9 := ⟨by decide +kernel, rfl⟩
theorem i18_9 : Ins1 jdk_41_method_13_code 9 (.iload_n 2) 1 10 := ⟨by decide +kernel, rfl⟩
theorem i18_10 : Ins1 jdk_41_method_13_code 10 (.iload_n 0) 1 11 := ⟨by decide +kernel, rfl⟩
theorem i18_11 : Ins1 jdk_41_method_13_code 11 (.isub) 1 12 := ⟨by decide +kernel, rfl⟩
theorem i18_12 : InsB jdk_41_method_13_code 12 (.if_icmp .le 11) 11 15 23 := ⟨by decide +kernel, rfl, by decide, by decide⟩
theorem i18_23 : Ins1 jdk_41_method_13_code 23 (.iload_n 0) 1 24 := ⟨by decide +kernel, rfl⟩
theorem i18_24 : Ins1 jdk_41_method_13_code 24 (.ireturn) 1 25 := ⟨by decide +kernel, rfl⟩
theorem pn_jdk_internal_util_Preconditions : plainName "jdk/internal/util/Preconditions" = true := by first | (simp [plainName, overriddenIn]; done) | decide +kernel
theorem ef_18 (m : MethodId) (p0 : Int32) (p1 : Int32) (p2 : Int32) : entryFrame m #[(.int p0), (.int p1), (.int p2), .null] 4 = mkF m 0 #[.val (.int p0), .val (.int p1), .val (.int p2), .val .null] [] := by first | (simp [entryFrame, mkF, argsToLocals, Value.category]; done) | rfl
theorem rm18 (l : Launch) (Z : State) (a0 : Array Value) (hw : ∀ d ∈ tables_1, d.before a0 Z = true) (ws : List Jvm.Cond) (p0 : Int32) (p1 : Int32) (p2 : Int32)  (h0 : Heap) (n0 : Nat) (Z0 : n0 ≤ h0.size) (h1 : ¬ ((p2 ||| p0) ||| p1) < (0 : Int32)) (h2 : ¬ (p2 - p0) < p1) :
    Met1 l (⟨"jdk/internal/util/Preconditions", "checkFromIndexSize", "(IIILjava/util/function/BiFunction;)I"⟩ : MethodName) jdk_41_method_13_code 4 (some .int) ws ({ frames := 0, cells := 0, slots := 0, locals := 0 } : Room) #[(.int p0), (.int p1), (.int p2), .null] Z h0 (RV fun vv h L => vv = .int p0 ∧ h = h0 ∧ Fr n0 L) := by
  refine met_of (plainFor_of_name pn_jdk_internal_util_Preconditions) ?_
  intro p e s m below meth c T0 X0 hx hby hml hZ hown hnm hret hlk e0 es
  have N0 := Fr.nil n0
  refine Gd.cast (ef_18 m p0 p1 p2) ?_
  refine g_iloadN X0 hx hby i18_0 rfl ?_
  refine g_iloadN X0 hx hby i18_1 rfl ?_
  refine g_ior X0 hx hby i18_2 ?_
  refine g_iloadN X0 hx hby i18_3 rfl ?_
  refine g_ior X0 hx hby i18_4 ?_
  refine g_if_lt X0 hx hby i18_5 (fun c5_1 => False.elim (h1 c5_1)) fun c5_1 => ?_
  refine g_iloadN X0 hx hby i18_8 rfl ?_
  refine g_iloadN X0 hx hby i18_9 rfl ?_
  refine g_iloadN X0 hx hby i18_10 rfl ?_
  refine g_isub X0 hx hby i18_11 ?_
  refine g_icmp_le X0 hx hby i18_12 (fun c12_2 => ?_) (fun c12_2 => False.elim (h2 c12_2))
  refine g_iloadN X0 hx hby i18_23 rfl ?_
  refine g_ireturn X0 hx hby hret hlk i18_24 (by decide) (by decide) ?_
  exact ⟨_, rfl, rfl, e0, N0⟩
theorem i17_0 : Ins1 jdk_31_method_19_code 0 (.iload_n 0) 1 1 := ⟨by decide +kernel, rfl⟩
theorem i17_1 : Ins1 jdk_31_method_19_code 1 (.iload_n 1) 1 2 := ⟨by decide +kernel, rfl⟩
theorem i17_2 : Ins1 jdk_31_method_19_code 2 (.iload_n 2) 1 3 := ⟨by decide +kernel, rfl⟩
theorem i17_3 : Ins1 jdk_31_method_19_code 3 (.aconst_null) 1 4 := ⟨by decide +kernel, rfl⟩
theorem i17_4 : Ins1 jdk_31_method_19_code 4 (.invokestatic 115) 3 7 := ⟨by decide +kernel, rfl⟩
theorem i17_7 : Ins1 jdk_31_method_19_code 7 (.ireturn) 1 8 := ⟨by decide +kernel, rfl⟩
theorem pn_java_util_Objects : plainName "java/util/Objects" = true := by first | (simp [plainName, overriddenIn]; done) | decide +kernel
theorem ef_17 (m : MethodId) (p0 : Int32) (p1 : Int32) (p2 : Int32) : entryFrame m #[(.int p0), (.int p1), (.int p2)] 3 = mkF m 0 #[.val (.int p0), .val (.int p1), .val (.int p2)] [] := by first | (simp [entryFrame, mkF, argsToLocals, Value.category]; done) | rfl
theorem pd_13 : parseMethodDescriptor "(IIILjava/util/function/BiFunction;)I" = some ⟨[.int, .int, .int, (.object "java/util/function/BiFunction")], some .int⟩ := by decide +kernel
theorem rm17 (l : Launch) (Z : State) (a0 : Array Value) (hw : ∀ d ∈ tables_1, d.before a0 Z = true) (ws : List Jvm.Cond) (p0 : Int32) (p1 : Int32) (p2 : Int32)  (h0 : Heap) (n0 : Nat) (Z0 : n0 ≤ h0.size) (h1 : ¬ ((p2 ||| p0) ||| p1) < (0 : Int32)) (h2 : ¬ (p2 - p0) < p1) :
    Met1 l (⟨"java/util/Objects", "checkFromIndexSize", "(III)I"⟩ : MethodName) jdk_31_method_19_code 3 (some .int) ws ({ frames := 1, cells := 0, slots := 0, locals := 20 } : Room) #[(.int p0), (.int p1), (.int p2)] Z h0 (RV fun vv h L => vv = .int p0 ∧ h = h0 ∧ Fr n0 L) := by
  refine met_of (plainFor_of_name pn_java_util_Objects) ?_
  intro p e s m below meth c T0 X0 hx hby hml hZ hown hnm hret hlk e0 es
  have N0 := Fr.nil n0
  refine Gd.cast (ef_17 m p0 p1 p2) ?_
  refine g_iloadN X0 hx hby i17_0 rfl ?_
  refine g_iloadN X0 hx hby i17_1 rfl ?_
  refine g_iloadN X0 hx hby i17_2 rfl ?_
  refine g_aconst_null X0 hx hby i17_3 ?_
  refine g_callS0 X0 hx hby hZ (y := (⟨"jdk/internal/util/Preconditions", "checkFromIndexSize", "(IIILjava/util/function/BiFunction;)I"⟩ : MethodName)) (argsL := [(.int p0), (.int p1), (.int p2), .null]) (rest := []) hown (wd_ hw 123 rfl) (wd_ hw 124 rfl) (wd_ hw 125 rfl) (wd_ hw 126 rfl) (by decide) (rm18 l Z a0 hw [] p0 p1 p2 h0 n0 Z0 h1 h2) e0 (by rw [hml]; rfl) pd_13 rfl rfl i17_4 (by decide) 0 rfl (by decide) (by decide) (by decide) fun T1 v1 L1 X1 q1 => ?_
  obtain ⟨_, rfl, rfl, e1, N1⟩ := q1
  have N0 := Fr.app N0 N1
  show Gd p e below _ T1 (mkF m 7 #[.val (.int p0), .val (.int p1), .val (.int p2)] [(.int p0)])
  refine g_ireturn X1 hx hby hret hlk i17_7 (by decide) (by decide) ?_
  exact ⟨_, rfl, rfl, e1, N0⟩
theorem i16_0 : Ins1 prog_30_method_3_code 0 (.aload_n 0) 1 1 := ⟨by decide +kernel, rfl⟩
theorem i16_1 : Ins1 prog_30_method_3_code 1 (.invokespecial 13) 3 4 := ⟨by decide +kernel, rfl⟩
theorem i16_4 : Ins1 prog_30_method_3_code 4 (.iload_n 2) 1 5 := ⟨by decide +kernel, rfl⟩
theorem i16_5 : Ins1 prog_30_method_3_code 5 (.iload_n 3) 1 6 := ⟨by decide +kernel, rfl⟩
theorem i16_6 : Ins1 prog_30_method_3_code 6 (.aload_n 1) 1 7 := ⟨by decide +kernel, rfl⟩
theorem i16_7 : Ins1 prog_30_method_3_code 7 (.arraylength) 1 8 := ⟨by decide +kernel, rfl⟩
theorem i16_8 : Ins1 prog_30_method_3_code 8 (.invokestatic 18) 3 11 := ⟨by decide +kernel, rfl⟩
theorem i16_11 : Ins1 prog_30_method_3_code 11 (.pop) 1 12 := ⟨by decide +kernel, rfl⟩
theorem i16_12 : Ins1 prog_30_method_3_code 12 (.iload 4) 2 14 := ⟨by decide +kernel, rfl⟩
theorem i16_14 : Ins1 prog_30_method_3_code 14 (.invokestatic 24) 3 17 := ⟨by decide +kernel, rfl⟩
theorem i16_17 : Ins1 prog_30_method_3_code 17 (.aload_n 0) 1 18 := ⟨by decide +kernel, rfl⟩
theorem i16_18 : Ins1 prog_30_method_3_code 18 (.aload_n 1) 1 19 := ⟨by decide +kernel, rfl⟩
theorem i16_19 : Ins1 prog_30_method_3_code 19 (.putfield 28) 3 22 := ⟨by decide +kernel, rfl⟩
theorem i16_22 : Ins1 prog_30_method_3_code 22 (.aload_n 0) 1 23 := ⟨by decide +kernel, rfl⟩
theorem i16_23 : Ins1 prog_30_method_3_code 23 (.iload_n 2) 1 24 := ⟨by decide +kernel, rfl⟩
theorem i16_24 : Ins1 prog_30_method_3_code 24 (.putfield 32) 3 27 := ⟨by decide +kernel, rfl⟩
theorem i16_27 : Ins1 prog_30_method_3_code 27 (.aload_n 0) 1 28 := ⟨by decide +kernel, rfl⟩
theorem i16_28 : Ins1 prog_30_method_3_code 28 (.iload_n 2) 1 29 := ⟨by decide +kernel, rfl⟩
theorem i16_29 : Ins1 prog_30_method_3_code 29 (.iload_n 3) 1 30 := ⟨by decide +kernel, rfl⟩
theorem i16_30 : Ins1 prog_30_method_3_code 30 (.iadd) 1 31 := ⟨by decide +kernel, rfl⟩
theorem i16_31 : Ins1 prog_30_method_3_code 31 (.putfield 36) 3 34 := ⟨by decide +kernel, rfl⟩
theorem i16_34 : Ins1 prog_30_method_3_code 34 (.aload_n 0) 1 35 := ⟨by decide +kernel, rfl⟩
theorem i16_35 : Ins1 prog_30_method_3_code 35 (.iload 4) 2 37 := ⟨by decide +kernel, rfl⟩
theorem i16_37 : Ins1 prog_30_method_3_code 37 (.putfield 39) 3 40 := ⟨by decide +kernel, rfl⟩
theorem i16_40 : Ins1 prog_30_method_3_code 40 (.aload_n 0) 1 41 := ⟨by decide +kernel, rfl⟩
theorem i16_41 : Ins1 prog_30_method_3_code 41 (.iload 5) 2 43 := ⟨by decide +kernel, rfl⟩
theorem i16_43 : Ins1 prog_30_method_3_code 43 (.putfield 42) 3 46 := ⟨by decide +kernel, rfl⟩
theorem i16_46 : Ins1 prog_30_method_3_code 46 (.aload_n 0) 1 47 := ⟨by decide +kernel, rfl⟩
theorem i16_47 : Ins1 prog_30_method_3_code 47 (.aload 6) 2 49 := ⟨by decide +kernel, rfl⟩
theorem i16_49 : Ins1 prog_30_method_3_code 49 (.putfield 46) 3 52 := ⟨by decide +kernel, rfl⟩
theorem i16_52 : Ins1 prog_30_method_3_code 52 (.return_) 1 53 := ⟨by decide +kernel, rfl⟩
theorem ef_16 (m : MethodId) (r_ : Addr) (bu : Addr) (p2 : Int32) (p3 : Int32) (mi : Int32) (p5 : Int32) (nl : Addr) : entryFrame m #[(.ref r_), (.ref bu), (.int p2), (.int p3), (.int mi), (.int p5), (.ref nl)] 7 = mkF m 0 #[.val (.ref r_), .val (.ref bu), .val (.int p2), .val (.int p3), .val (.int mi), .val (.int p5), .val (.ref nl)] [] := by first | (simp [entryFrame, mkF, argsToLocals, Value.category]; done) | rfl
theorem pd_14 : parseMethodDescriptor "(III)I" = some ⟨[.int, .int, .int], some .int⟩ := by decide +kernel
theorem rm16 (l : Launch) (Z : State) (a0 : Array Value) (hw : ∀ d ∈ tables_1, d.before a0 Z = true) (ws : List Jvm.Cond) (r_ : Addr) (bu : Addr) (p2 : Int32) (p3 : Int32) (mi : Int32) (p5 : Int32) (nl : Addr) (kb : ClassId) (vb : List Value) (N_ : Nat) (h0 : Heap) (n0 : Nat) (Z0 : n0 ≤ h0.size) (Q : own_rd Z h0 r_ [.null, (.int (0 : Int32)), (.int (0 : Int32)), (.int (0 : Int32)), (.int (0 : Int32)), .null, (.int (0 : Int32))]) (g_r_ : n0 ≤ r_) (Vb : Arv Z h0 bu kb .byte (41 : Int32) vb (.int (0 : Int32))) (hrb : r_ ≠ bu) (hp2 : p2 = own_i 17) (hp3 : p3 = own_i (0 + 1 + N_)) (hp5 : p5 = (0 : Int32)) (hmi : ¬ mi < (1 : Int32)) (hN : N_ < 24) :
    Met1 l (⟨"com/example/ariel/ariel/cbor/CborReader", "<init>", "([BIIIZ[J)V"⟩ : MethodName) prog_30_method_3_code 7 none ws ({ frames := 2, cells := 0, slots := 0, locals := 40 } : Room) #[(.ref r_), (.ref bu), (.int p2), (.int p3), (.int mi), (.int p5), (.ref nl)] Z h0 (RN fun h L => Keep h0 h [r_] ∧ own_rd Z h r_ [(.ref bu), (.int (own_i 17)), (.int (own_i (17 + (0 + 1 + N_)))), (.int mi), (.int (0 : Int32)), (.ref nl), (.int (0 : Int32))] ∧ Fr n0 L) := by
  refine met_of (plainFor_of_name pn_com_example_ariel_ariel_cbor_CborReader) ?_
  intro p e s m below meth c T0 X0 hx hby hml hZ hown hnm hret hlk e0 es
  have N0 := Fr.nil n0
  refine Gd.cast (ef_16 m r_ bu p2 p3 mi p5 nl) ?_
  subst hp2
  subst hp3
  subst hp5
  have K0 : Keep h0 h0 [r_] := Keep.refl _ _
  refine g_aloadN X0 hx hby i16_0 rfl rfl ?_
  refine g_objInit X0 hx hby hZ hown (wd_ hw 118 rfl) (wd_ hw 16 rfl) (wd_ hw 17 rfl) e0 (by rw [hml]; rfl) i16_1 0 rfl (by decide) (by decide) fun T1 X1 e1 => ?_
  refine g_iloadN X1 hx hby i16_4 rfl ?_
  refine g_iloadN X1 hx hby i16_5 rfl ?_
  refine g_aloadN X1 hx hby i16_6 rfl rfl ?_
  refine g_arraylength X1 hx hby hZ e1 Vb i16_7 ?_
  refine g_callS0 X1 hx hby hZ (y := (⟨"java/util/Objects", "checkFromIndexSize", "(III)I"⟩ : MethodName)) (argsL := [(.int (own_i 17)), (.int (own_i (0 + 1 + N_))), (.int (41 : Int32))]) (rest := []) hown (wd_ hw 119 rfl) (wd_ hw 120 rfl) (wd_ hw 121 rfl) (wd_ hw 122 rfl) (by decide) (rm17 l Z a0 hw [] (own_i 17) (own_i (0 + 1 + N_)) (41 : Int32) h0 n0 Z0 (own_ck hN).1 (own_ck hN).2) e1 (by rw [hml]; rfl) pd_14 rfl rfl i16_8 (by decide) 0 rfl (by decide) (by decide) (by decide) fun T2 v2 L2 X2 q2 => ?_
  obtain ⟨_, rfl, rfl, e2, N2⟩ := q2
  have N0 := Fr.app N0 N2
  show Gd p e below _ T2 (mkF m 11 #[.val (.ref r_), .val (.ref bu), .val (.int (own_i 17)), .val (.int (own_i (0 + 1 + N_))), .val (.int mi), .val (.int (0 : Int32)), .val (.ref nl)] [(.int (own_i 17))])
  refine g_pop X2 hx hby i16_11 rfl ?_
  refine g_iload X2 hx hby i16_12 rfl ?_
  refine g_callS0 X2 hx hby hZ (y := (⟨"com/example/ariel/ariel/cbor/CborReader", "checkMaxItems", "(I)V"⟩ : MethodName)) (argsL := [(.int mi)]) (rest := []) hown (wd_ hw 127 rfl) (wd_ hw 39 rfl) (wd_ hw 40 rfl) (wd_ hw 41 rfl) (by decide) (rm5 l Z a0 hw [] mi h0 n0 Z0 hmi) e2 (by rw [hml]; rfl) pd_8 rfl rfl i16_14 (by decide) 0 rfl (by decide) (by decide) (by decide) fun T3 v3 L3 X3 q3 => ?_
  obtain ⟨rfl, e3, N3⟩ := q3
  have N0 := Fr.app N0 N3
  show Gd p e below _ T3 (mkF m 17 #[.val (.ref r_), .val (.ref bu), .val (.int (own_i 17)), .val (.int (own_i (0 + 1 + N_))), .val (.int mi), .val (.int (0 : Int32)), .val (.ref nl)] [])
  refine g_aloadN X3 hx hby i16_17 rfl rfl ?_
  refine g_aloadN X3 hx hby i16_18 rfl rfl ?_
  refine g_putfield X3 hx hby hZ hown (host := "") (Or.inl (wd_ hw 128 rfl)) Via.refl e3 (own_rat Q 0 (by decide) (v := .null) rfl) Q.1 (Or.inr ⟨(wd_ hw 129 rfl), rfl, hnm⟩) (wd_ hw 114 rfl) (ty := (.array .byte)) (by decide) rfl rfl i16_19 fun T4 h4 X4 e4 W4 => ?_
  have Q : own_rd Z h4 r_ [(.ref bu), (.int (0 : Int32)), (.int (0 : Int32)), (.int (0 : Int32)), (.int (0 : Int32)), .null, (.int (0 : Int32))] := Q.put hw (i := 0) (by decide) W4
  have Vb := Vb.other W4 (Ne.symm hrb)
  have Z0 : n0 ≤ h4.size := Nat.le_trans Z0 (Nat.le_of_eq W4.size.symm)
  have N0 := Fr.snoc X4 N0 g_r_
  have K0 := K0.wr W4 (Or.inl (by simp))
  refine g_aloadN X4 hx hby i16_22 rfl rfl ?_
  refine g_iloadN X4 hx hby i16_23 rfl ?_
  refine g_putfield X4 hx hby hZ hown (host := "") (Or.inl (wd_ hw 130 rfl)) Via.refl e4 (own_rat Q 1 (by decide) (v := (.int (0 : Int32))) rfl) Q.1 (Or.inl (wd_ hw 131 rfl)) (wd_ hw 114 rfl) (ty := .int) (by decide) rfl rfl i16_24 fun T5 h5 X5 e5 W5 => ?_
  have Q : own_rd Z h5 r_ [(.ref bu), (.int (own_i 17)), (.int (0 : Int32)), (.int (0 : Int32)), (.int (0 : Int32)), .null, (.int (0 : Int32))] := Q.put hw (i := 1) (by decide) W5
  have Vb := Vb.other W5 (Ne.symm hrb)
  have Z0 : n0 ≤ h5.size := Nat.le_trans Z0 (Nat.le_of_eq W5.size.symm)
  have N0 := Fr.snoc X5 N0 g_r_
  have K0 := K0.wr W5 (Or.inl (by simp))
  refine g_aloadN X5 hx hby i16_27 rfl rfl ?_
  refine g_iloadN X5 hx hby i16_28 rfl ?_
  refine g_iloadN X5 hx hby i16_29 rfl ?_
  refine g_iadd X5 hx hby i16_30 ?_
  rw [own_iadd]
  refine g_putfield X5 hx hby hZ hown (host := "") (Or.inl (wd_ hw 132 rfl)) Via.refl e5 (own_rat Q 2 (by decide) (v := (.int (0 : Int32))) rfl) Q.1 (Or.inr ⟨(wd_ hw 133 rfl), rfl, hnm⟩) (wd_ hw 114 rfl) (ty := .int) (by decide) rfl rfl i16_31 fun T6 h6 X6 e6 W6 => ?_
  have Q : own_rd Z h6 r_ [(.ref bu), (.int (own_i 17)), (.int (own_i (17 + (0 + 1 + N_)))), (.int (0 : Int32)), (.int (0 : Int32)), .null, (.int (0 : Int32))] := Q.put hw (i := 2) (by decide) W6
  have Vb := Vb.other W6 (Ne.symm hrb)
  have Z0 : n0 ≤ h6.size := Nat.le_trans Z0 (Nat.le_of_eq W6.size.symm)
  have N0 := Fr.snoc X6 N0 g_r_
  have K0 := K0.wr W6 (Or.inl (by simp))
  refine g_aloadN X6 hx hby i16_34 rfl rfl ?_
  refine g_iload X6 hx hby i16_35 rfl ?_
  refine g_putfield X6 hx hby hZ hown (host := "") (Or.inl (wd_ hw 134 rfl)) Via.refl e6 (own_rat Q 3 (by decide) (v := (.int (0 : Int32))) rfl) Q.1 (Or.inr ⟨(wd_ hw 135 rfl), rfl, hnm⟩) (wd_ hw 114 rfl) (ty := .int) (by decide) rfl rfl i16_37 fun T7 h7 X7 e7 W7 => ?_
  have Q : own_rd Z h7 r_ [(.ref bu), (.int (own_i 17)), (.int (own_i (17 + (0 + 1 + N_)))), (.int mi), (.int (0 : Int32)), .null, (.int (0 : Int32))] := Q.put hw (i := 3) (by decide) W7
  have Vb := Vb.other W7 (Ne.symm hrb)
  have Z0 : n0 ≤ h7.size := Nat.le_trans Z0 (Nat.le_of_eq W7.size.symm)
  have N0 := Fr.snoc X7 N0 g_r_
  have K0 := K0.wr W7 (Or.inl (by simp))
  refine g_aloadN X7 hx hby i16_40 rfl rfl ?_
  refine g_iload X7 hx hby i16_41 rfl ?_
  refine g_putfieldN X7 hx hby hZ hown (wd_ hw 136 rfl) Via.refl e7 (own_rat Q 4 (by decide) (v := (.int (0 : Int32))) rfl) Q.1 (Or.inr ⟨(wd_ hw 137 rfl), rfl, hnm⟩) (wd_ hw 114 rfl) (ty := .boolean) (v' := (.int (nar .boolean (0 : Int32)))) (by decide) rfl (fits_nar_bool _) i16_43 fun T8 h8 X8 e8 W8 => ?_
  have Q : own_rd Z h8 r_ [(.ref bu), (.int (own_i 17)), (.int (own_i (17 + (0 + 1 + N_)))), (.int mi), (.int (nar .boolean (0 : Int32))), .null, (.int (0 : Int32))] := Q.put hw (i := 4) (by decide) W8
  have Vb := Vb.other W8 (Ne.symm hrb)
  have Z0 : n0 ≤ h8.size := Nat.le_trans Z0 (Nat.le_of_eq W8.size.symm)
  have N0 := Fr.snoc X8 N0 g_r_
  have K0 := K0.wr W8 (Or.inl (by simp))
  refine g_aloadN X8 hx hby i16_46 rfl rfl ?_
  refine g_aload X8 hx hby i16_47 rfl rfl ?_
  refine g_putfield X8 hx hby hZ hown (host := "") (Or.inl (wd_ hw 138 rfl)) Via.refl e8 (own_rat Q 5 (by decide) (v := .null) rfl) Q.1 (Or.inr ⟨(wd_ hw 139 rfl), rfl, hnm⟩) (wd_ hw 114 rfl) (ty := (.array .long)) (by decide) rfl rfl i16_49 fun T9 h9 X9 e9 W9 => ?_
  have Q : own_rd Z h9 r_ [(.ref bu), (.int (own_i 17)), (.int (own_i (17 + (0 + 1 + N_)))), (.int mi), (.int (nar .boolean (0 : Int32))), (.ref nl), (.int (0 : Int32))] := Q.put hw (i := 5) (by decide) W9
  have Vb := Vb.other W9 (Ne.symm hrb)
  have Z0 : n0 ≤ h9.size := Nat.le_trans Z0 (Nat.le_of_eq W9.size.symm)
  have N0 := Fr.snoc X9 N0 g_r_
  have K0 := K0.wr W9 (Or.inl (by simp))
  refine g_return X9 hx hby hret hlk i16_52 (by decide) (by decide) ?_
  rw [e9]
  exact ⟨rfl, K0, Q, N0⟩
theorem i22_0 : Ins1 prog_30_method_22_code 0 (.lload_n 1) 1 1 := ⟨by decide +kernel, rfl⟩
theorem i22_1 : Ins1 prog_30_method_22_code 1 (.aload_n 0) 1 2 := ⟨by decide +kernel, rfl⟩
theorem i22_2 : Ins1 prog_30_method_22_code 2 (.getfield 77) 3 5 := ⟨by decide +kernel, rfl⟩
theorem i22_5 : Ins1 prog_30_method_22_code 5 (.i2l) 1 6 := ⟨by decide +kernel, rfl⟩
theorem i22_6 : Ins1 prog_30_method_22_code 6 (.lcmp) 1 7 := ⟨by decide +kernel, rfl⟩
theorem i22_7 : InsB prog_30_method_22_code 7 (.ifCond .le 20) 20 10 27 := ⟨by decide +kernel, rfl, by decide, by decide⟩
theorem i22_27 : Ins1 prog_30_method_22_code 27 (.return_) 1 28 := ⟨by decide +kernel, rfl⟩
theorem ef_22 (m : MethodId) (r_ : Addr) (q1 : Int64) : entryFrame m #[(.ref r_), (.long q1)] 3 = mkF m 0 #[.val (.ref r_), .val (.long q1), .second] [] := by first | (simp [entryFrame, mkF, argsToLocals, Value.category]; done) | rfl
theorem rm22 (l : Launch) (Z : State) (a0 : Array Value) (hw : ∀ d ∈ tables_1, d.before a0 Z = true) (ws : List Jvm.Cond) (r_ : Addr) (q1 : Int64) (bu nl : Addr) (po li mi il : Int32) (h0 : Heap) (n0 : Nat) (Z0 : n0 ≤ h0.size) (Q : own_rd Z h0 r_ [(.ref bu), (.int po), (.int li), (.int mi), (.int (0 : Int32)), (.ref nl), (.int il)]) (hq : ¬ il.toInt64 < q1) :
    Met1 l (⟨"com/example/ariel/ariel/cbor/CborReader", "checkRoomFor", "(J)V"⟩ : MethodName) prog_30_method_22_code 3 none ws ({ frames := 0, cells := 0, slots := 0, locals := 0 } : Room) #[(.ref r_), (.long q1)] Z h0 (RN fun h L => h = h0 ∧ Fr n0 L) := by
  refine met_of (plainFor_of_name pn_com_example_ariel_ariel_cbor_CborReader) ?_
  intro p e s m below meth c T0 X0 hx hby hml hZ hown hnm hret hlk e0 es
  have N0 := Fr.nil n0
  refine Gd.cast (ef_22 m r_ q1) ?_
  refine g_lloadN X0 hx hby i22_0 rfl ?_
  refine g_aloadN X0 hx hby i22_1 rfl rfl ?_
  refine g_getfield X0 hx hby hZ hown (host := "") (Or.inl (wd_ hw 145 rfl)) Via.refl e0 (own_rat Q 6 (by decide) (v := (.int il)) rfl) i22_2 fun T1 X1 e1 => ?_
  refine g_i2l X1 hx hby i22_5 ?_
  refine g_lcmp_le X1 hx hby i22_6 i22_7 (fun c6_2 => ?_) (fun c6_2 => False.elim (hq c6_2))
  refine g_return X1 hx hby hret hlk i22_27 (by decide) (by decide) ?_
  exact ⟨rfl, e1, N0⟩
theorem i21_0 : Ins1 prog_30_method_21_code 0 (.aload_n 0) 1 1 := ⟨by decide +kernel, rfl⟩
theorem i21_1 : Ins1 prog_30_method_21_code 1 (.lconst 1) 1 2 := ⟨by decide +kernel, rfl⟩
theorem i21_2 : Ins1 prog_30_method_21_code 2 (.invokevirtual 274) 3 5 := ⟨by decide +kernel, rfl⟩
theorem i21_5 : Ins1 prog_30_method_21_code 5 (.aload_n 0) 1 6 := ⟨by decide +kernel, rfl⟩
theorem i21_6 : Ins1 prog_30_method_21_code 6 (.dup) 1 7 := ⟨by decide +kernel, rfl⟩
theorem i21_7 : Ins1 prog_30_method_21_code 7 (.getfield 77) 3 10 := ⟨by decide +kernel, rfl⟩
theorem i21_10 : Ins1 prog_30_method_21_code 10 (.iconst 1) 1 11 := ⟨by decide +kernel, rfl⟩
theorem i21_11 : Ins1 prog_30_method_21_code 11 (.isub) 1 12 := ⟨by decide +kernel, rfl⟩
theorem i21_12 : Ins1 prog_30_method_21_code 12 (.putfield 77) 3 15 := ⟨by decide +kernel, rfl⟩
theorem i21_15 : Ins1 prog_30_method_21_code 15 (.return_) 1 16 := ⟨by decide +kernel, rfl⟩
theorem ef_21 (m : MethodId) (r_ : Addr) : entryFrame m #[(.ref r_)] 1 = mkF m 0 #[.val (.ref r_)] [] := by first | (simp [entryFrame, mkF, argsToLocals, Value.category]; done) | rfl
theorem pd_15 : parseMethodDescriptor "(J)V" = some ⟨[.long], none⟩ := by decide +kernel
theorem rm21 (l : Launch) (Z : State) (a0 : Array Value) (hw : ∀ d ∈ tables_1, d.before a0 Z = true) (ws : List Jvm.Cond) (r_ : Addr) (bu nl : Addr) (po li mi il : Int32) (h0 : Heap) (n0 : Nat) (Z0 : n0 ≤ h0.size) (Q : own_rd Z h0 r_ [(.ref bu), (.int po), (.int li), (.int mi), (.int (0 : Int32)), (.ref nl), (.int il)]) (g_r_ : n0 ≤ r_) (hq : ¬ il.toInt64 < (1 : Int64)) :
    Met1 l (⟨"com/example/ariel/ariel/cbor/CborReader", "takeItem", "()V"⟩ : MethodName) prog_30_method_21_code 1 none ws ({ frames := 1, cells := 0, slots := 0, locals := 18 } : Room) #[(.ref r_)] Z h0 (RN fun h L => Keep h0 h [r_] ∧ own_rd Z h r_ [(.ref bu), (.int po), (.int li), (.int mi), (.int (0 : Int32)), (.ref nl), (.int (il - (1 : Int32)))] ∧ Fr n0 L) := by
  refine met_of (plainFor_of_name pn_com_example_ariel_ariel_cbor_CborReader) ?_
  intro p e s m below meth c T0 X0 hx hby hml hZ hown hnm hret hlk e0 es
  have N0 := Fr.nil n0
  refine Gd.cast (ef_21 m r_) ?_
  have K0 : Keep h0 h0 [r_] := Keep.refl _ _
  refine g_aloadN X0 hx hby i21_0 rfl rfl ?_
  refine g_lconst X0 hx hby i21_1 (z := (1 : Int64)) (by decide) ?_
  refine g_callPriv X0 hx hby hZ (y := (⟨"com/example/ariel/ariel/cbor/CborReader", "checkRoomFor", "(J)V"⟩ : MethodName)) (argsL := [(.long (1 : Int64))]) (rest := []) hown (wd_ hw 156 rfl) (wd_ hw 157 rfl) (wd_ hw 114 rfl) (wd_ hw 158 rfl) (wd_ hw 40 rfl) (wd_ hw 159 rfl) (by decide) (a := r_) Q.1 (rm22 l Z a0 hw [] r_ (1 : Int64)  bu nl po li mi il h0 n0 Z0 Q hq) e0 (by rw [hml]; rfl) pd_15 rfl rfl i21_2 (by decide) 0 rfl (by decide) (by decide) (by decide) fun T1 v1 L1 X1 q1 => ?_
  obtain ⟨rfl, e1, N1⟩ := q1
  have N0 := Fr.app N0 N1
  show Gd p e below _ T1 (mkF m 5 #[.val (.ref r_)] [])
  refine g_aloadN X1 hx hby i21_5 rfl rfl ?_
  refine g_dup X1 hx hby i21_6 rfl ?_
  refine g_getfield X1 hx hby hZ hown (host := "") (Or.inl (wd_ hw 145 rfl)) Via.refl e1 (own_rat Q 6 (by decide) (v := (.int il)) rfl) i21_7 fun T2 X2 e2 => ?_
  refine g_iconst X2 hx hby i21_10 (z := (1 : Int32)) (by decide) ?_
  refine g_isub X2 hx hby i21_11 ?_
  refine g_putfield X2 hx hby hZ hown (host := "") (Or.inl (wd_ hw 145 rfl)) Via.refl e2 (own_rat Q 6 (by decide) (v := (.int il)) rfl) Q.1 (Or.inl (wd_ hw 146 rfl)) (wd_ hw 114 rfl) (ty := .int) (by decide) rfl rfl i21_12 fun T3 h3 X3 e3 W3 => ?_
  have Q : own_rd Z h3 r_ [(.ref bu), (.int po), (.int li), (.int mi), (.int (0 : Int32)), (.ref nl), (.int (il - (1 : Int32)))] := Q.put hw (i := 6) (by decide) W3
  have Z0 : n0 ≤ h3.size := Nat.le_trans Z0 (Nat.le_of_eq W3.size.symm)
  have N0 := Fr.snoc X3 N0 g_r_
  have K0 := K0.wr W3 (Or.inl (by simp))
  refine g_return X3 hx hby hret hlk i21_15 (by decide) (by decide) ?_
  rw [e3]
  exact ⟨rfl, K0, Q, N0⟩
theorem i23_0 : Ins1 prog_30_method_30_code 0 (.iload_n 1) 1 1 := ⟨by decide +kernel, rfl⟩
theorem i23_1 : Ins1 prog_30_method_30_code 1 (.bipush 24) 2 3 := ⟨by decide +kernel, rfl⟩
theorem i23_3 : InsB prog_30_method_30_code 3 (.if_icmp .ge 6) 6 6 9 := ⟨by decide +kernel, rfl, by decide, by decide⟩
theorem i23_6 : Ins1 prog_30_method_30_code 6 (.iload_n 1) 1 7 := ⟨by decide +kernel, rfl⟩
theorem i23_7 : Ins1 prog_30_method_30_code 7 (.i2l) 1 8 := ⟨by decide +kernel, rfl⟩
theorem i23_8 : Ins1 prog_30_method_30_code 8 (.lreturn) 1 9 := ⟨by decide +kernel, rfl⟩
theorem ef_23 (m : MethodId) (r_ : Addr) (p1 : Int32) : entryFrame m #[(.ref r_), (.int p1)] 5 = mkF m 0 #[.val (.ref r_), .val (.int p1), .unset, .unset, .unset] [] := by first | (simp [entryFrame, mkF, argsToLocals, Value.category]; done) | rfl
theorem rm23 (l : Launch) (Z : State) (a0 : Array Value) (hw : ∀ d ∈ tables_1, d.before a0 Z = true) (ws : List Jvm.Cond) (r_ : Addr) (p1 : Int32) (N_ : Nat) (h0 : Heap) (n0 : Nat) (Z0 : n0 ≤ h0.size) (hp1 : p1 = own_i N_) (hN : N_ < 24) :
    Met1 l (⟨"com/example/ariel/ariel/cbor/CborReader", "argument", "(I)J"⟩ : MethodName) prog_30_method_30_code 5 (some .long) ws ({ frames := 0, cells := 0, slots := 0, locals := 0 } : Room) #[(.ref r_), (.int p1)] Z h0 (RV fun vv h L => vv = .long (own_l N_) ∧ h = h0 ∧ Fr n0 L) := by
  refine met_of (plainFor_of_name pn_com_example_ariel_ariel_cbor_CborReader) ?_
  intro p e s m below meth c T0 X0 hx hby hml hZ hown hnm hret hlk e0 es
  have N0 := Fr.nil n0
  refine Gd.cast (ef_23 m r_ p1) ?_
  subst hp1
  refine g_iloadN X0 hx hby i23_0 rfl ?_
  refine g_bipush X0 hx hby i23_1 (z := (24 : Int32)) (by decide) ?_
  refine g_icmp_ge X0 hx hby i23_3 (fun c3_1 => False.elim (c3_1 (own_by1 hN).2.2.2.2.1)) fun c3_1 => ?_
  refine g_iloadN X0 hx hby i23_6 rfl ?_
  refine g_i2l X0 hx hby i23_7 ?_
  rw [own_i2l (by omega)]
  refine g_lreturn X0 hx hby hret hlk i23_8 (by decide) (by decide) ?_
  exact ⟨_, rfl, rfl, e0, N0⟩
theorem i24_0 : Ins1 prog_30_method_15_code 0 (.aload_n 0) 1 1 := ⟨by decide +kernel, rfl⟩
theorem i24_1 : Ins1 prog_30_method_15_code 1 (.getfield 42) 3 4 := ⟨by decide +kernel, rfl⟩
theorem i24_4 : InsB prog_30_method_15_code 4 (.ifCond .eq 11) 11 7 15 := ⟨by decide +kernel, rfl, by decide, by decide⟩
theorem i24_15 : Ins1 prog_30_method_15_code 15 (.lload_n 1) 1 16 := ⟨by decide +kernel, rfl⟩
theorem i24_16 : Ins1 prog_30_method_15_code 16 (.lreturn) 1 17 := ⟨by decide +kernel, rfl⟩
theorem ef_24 (m : MethodId) (r_ : Addr) (q1 : Int64) (p3 : Int32) : entryFrame m #[(.ref r_), (.long q1), (.int p3)] 4 = mkF m 0 #[.val (.ref r_), .val (.long q1), .second, .val (.int p3)] [] := by first | (simp [entryFrame, mkF, argsToLocals, Value.category]; done) | rfl
theorem rm24 (l : Launch) (Z : State) (a0 : Array Value) (hw : ∀ d ∈ tables_1, d.before a0 Z = true) (ws : List Jvm.Cond) (r_ : Addr) (q1 : Int64) (p3 : Int32) (bu nl : Addr) (po li mi il : Int32) (h0 : Heap) (n0 : Nat) (Z0 : n0 ≤ h0.size) (Q : own_rd Z h0 r_ [(.ref bu), (.int po), (.int li), (.int mi), (.int (0 : Int32)), (.ref nl), (.int il)]) :
    Met1 l (⟨"com/example/ariel/ariel/cbor/CborReader", "present", "(JI)J"⟩ : MethodName) prog_30_method_15_code 4 (some .long) ws ({ frames := 0, cells := 0, slots := 0, locals := 0 } : Room) #[(.ref r_), (.long q1), (.int p3)] Z h0 (RV fun vv h L => vv = .long q1 ∧ h = h0 ∧ Fr n0 L) := by
  refine met_of (plainFor_of_name pn_com_example_ariel_ariel_cbor_CborReader) ?_
  intro p e s m below meth c T0 X0 hx hby hml hZ hown hnm hret hlk e0 es
  have N0 := Fr.nil n0
  refine Gd.cast (ef_24 m r_ q1 p3) ?_
  refine g_aloadN X0 hx hby i24_0 rfl rfl ?_
  refine g_getfield X0 hx hby hZ hown (host := "") (Or.inl (wd_ hw 136 rfl)) Via.refl e0 (own_rat Q 4 (by decide) (v := (.int (0 : Int32))) rfl) i24_1 fun T1 X1 e1 => ?_
  refine g_if_eq X1 hx hby i24_4 (fun c4_2 => ?_) (fun c4_2 => False.elim (absurd c4_2 (by decide)))
  refine g_lloadN X1 hx hby i24_15 rfl ?_
  refine g_lreturn X1 hx hby hret hlk i24_16 (by decide) (by decide) ?_
  exact ⟨_, rfl, rfl, e1, N0⟩
theorem i30_0 : Ins1 jdk_65_method_131_code 0 (.iload_n 1) 1 1 := ⟨by decide +kernel, rfl⟩
theorem i30_1 : Ins1 jdk_65_method_131_code 1 (.iload_n 0) 1 2 := ⟨by decide +kernel, rfl⟩
theorem i30_2 : InsB jdk_65_method_131_code 2 (.if_icmp .ge 35) 35 5 37 := ⟨by decide +kernel, rfl, by decide, by decide⟩
theorem i30_37 : Ins1 jdk_65_method_131_code 37 (.return_) 1 38 := ⟨by decide +kernel, rfl⟩
theorem ef_30 (m : MethodId) (p0 : Int32) (p1 : Int32) : entryFrame m #[(.int p0), (.int p1)] 2 = mkF m 0 #[.val (.int p0), .val (.int p1)] [] := by first | (simp [entryFrame, mkF, argsToLocals, Value.category]; done) | rfl
theorem rm30 (l : Launch) (Z : State) (a0 : Array Value) (hw : ∀ d ∈ tables_1, d.before a0 Z = true) (ws : List Jvm.Cond) (p0 : Int32) (p1 : Int32)  (h0 : Heap) (n0 : Nat) (Z0 : n0 ≤ h0.size) (hp : ¬ p1 < p0) :
    Met1 l (⟨"java/util/Arrays", "checkLength", "(II)V"⟩ : MethodName) jdk_65_method_131_code 2 none ws ({ frames := 0, cells := 0, slots := 0, locals := 0 } : Room) #[(.int p0), (.int p1)] Z h0 (RN fun h L => h = h0 ∧ Fr n0 L) := by
  refine met_of (plainFor_of_name pn_java_util_Arrays) ?_
  intro p e s m below meth c T0 X0 hx hby hml hZ hown hnm hret hlk e0 es
  have N0 := Fr.nil n0
  refine Gd.cast (ef_30 m p0 p1) ?_
  refine g_iloadN X0 hx hby i30_0 rfl ?_
  refine g_iloadN X0 hx hby i30_1 rfl ?_
  refine g_icmp_ge X0 hx hby i30_2 (fun c2_1 => ?_) (fun c2_1 => False.elim (hp c2_1))
  refine g_return X0 hx hby hret hlk i30_37 (by decide) (by decide) ?_
  exact ⟨rfl, e0, N0⟩
theorem i29_0 : Ins1 jdk_65_method_133_code 0 (.iload_n 1) 1 1 := ⟨by decide +kernel, rfl⟩
theorem i29_1 : Ins1 jdk_65_method_133_code 1 (.iload_n 2) 1 2 := ⟨by decide +kernel, rfl⟩
theorem i29_2 : Ins1 jdk_65_method_133_code 2 (.invokestatic 343) 3 5 := ⟨by decide +kernel, rfl⟩
theorem i29_5 : Ins1 jdk_65_method_133_code 5 (.iload_n 2) 1 6 := ⟨by decide +kernel, rfl⟩
theorem i29_6 : Ins1 jdk_65_method_133_code 6 (.iload_n 1) 1 7 := ⟨by decide +kernel, rfl⟩
theorem i29_7 : Ins1 jdk_65_method_133_code 7 (.isub) 1 8 := ⟨by decide +kernel, rfl⟩
theorem i29_8 : Ins1 jdk_65_method_133_code 8 (.istore_n 3) 1 9 := ⟨by decide +kernel, rfl⟩
theorem i29_9 : Ins1 jdk_65_method_133_code 9 (.iload_n 3) 1 10 := ⟨by decide +kernel, rfl⟩
theorem i29_10 : Ins1 jdk_65_method_133_code 10 (.newarray .byte) 2 12 := ⟨by decide +kernel, rfl⟩
theorem i29_12 : Ins1 jdk_65_method_133_code 12 (.astore 4) 2 14 := ⟨by decide +kernel, rfl⟩
theorem i29_14 : Ins1 jdk_65_method_133_code 14 (.aload_n 0) 1 15 := ⟨by decide +kernel, rfl⟩
theorem i29_15 : Ins1 jdk_65_method_133_code 15 (.iload_n 1) 1 16 := ⟨by decide +kernel, rfl⟩
theorem i29_16 : Ins1 jdk_65_method_133_code 16 (.aload 4) 2 18 := ⟨by decide +kernel, rfl⟩
theorem i29_18 : Ins1 jdk_65_method_133_code 18 (.iconst 0) 1 19 := ⟨by decide +kernel, rfl⟩
theorem i29_19 : Ins1 jdk_65_method_133_code 19 (.aload_n 0) 1 20 := ⟨by decide +kernel, rfl⟩
theorem i29_20 : Ins1 jdk_65_method_133_code 20 (.arraylength) 1 21 := ⟨by decide +kernel, rfl⟩
theorem i29_21 : Ins1 jdk_65_method_133_code 21 (.iload_n 1) 1 22 := ⟨by decide +kernel, rfl⟩
theorem i29_22 : Ins1 jdk_65_method_133_code 22 (.isub) 1 23 := ⟨by decide +kernel, rfl⟩
theorem i29_23 : Ins1 jdk_65_method_133_code 23 (.iload_n 3) 1 24 := ⟨by decide +kernel, rfl⟩
theorem i29_24 : Ins1 jdk_65_method_133_code 24 (.invokestatic 304) 3 27 := ⟨by decide +kernel, rfl⟩
theorem i29_27 : Ins1 jdk_65_method_133_code 27 (.invokestatic 150) 3 30 := ⟨by decide +kernel, rfl⟩
theorem i29_30 : Ins1 jdk_65_method_133_code 30 (.aload 4) 2 32 := ⟨by decide +kernel, rfl⟩
theorem i29_32 : Ins1 jdk_65_method_133_code 32 (.areturn) 1 33 := ⟨by decide +kernel, rfl⟩
theorem ef_29 (m : MethodId) (b_ : Addr) (p1 : Int32) (p2 : Int32) : entryFrame m #[(.ref b_), (.int p1), (.int p2)] 5 = mkF m 0 #[.val (.ref b_), .val (.int p1), .val (.int p2), .unset, .unset] [] := by first | (simp [entryFrame, mkF, argsToLocals, Value.category]; done) | rfl
theorem pd_16 : parseMethodDescriptor "(II)V" = some ⟨[.int, .int], none⟩ := by decide +kernel
theorem rm29 (l : Launch) (Z : State) (a0 : Array Value) (hw : ∀ d ∈ tables_1, d.before a0 Z = true) (ws : List Jvm.Cond) (b_ : Addr) (p1 : Int32) (p2 : Int32) (kc : ClassId) (vs : List Value) (N_ : Nat) (h0 : Heap) (n0 : Nat) (Z0 : n0 ≤ h0.size) (V : Arv Z h0 b_ kc .byte (41 : Int32) vs (.int (0 : Int32))) (hp1 : p1 = own_i 18) (hp2 : p2 = own_i (18 + N_)) (hN : N_ < 24) :
    Met1 l (⟨"java/util/Arrays", "copyOfRangeByte", "([BII)[B"⟩ : MethodName) jdk_65_method_133_code 5 (some (.array .byte)) ws ({ frames := 1, cells := 1, slots := 24, locals := 24 } : Room) #[(.ref b_), (.int p1), (.int p2)] Z h0 (RV fun z h L => ∃ t kt vt, z = .ref t ∧ Keep h0 h [] ∧ Arv Z h t kt .byte (own_i N_) vt (.int (0 : Int32)) ∧ n0 ≤ t ∧ h0.size ≤ t ∧ Fr n0 L) := by
  refine met_of (plainFor_of_name pn_java_util_Arrays) ?_
  intro p e s m below meth c T0 X0 hx hby hml hZ hown hnm hret hlk e0 es
  have N0 := Fr.nil n0
  refine Gd.cast (ef_29 m b_ p1 p2) ?_
  subst hp1
  subst hp2
  have K0 : Keep h0 h0 [] := Keep.refl _ _
  refine g_iloadN X0 hx hby i29_0 rfl ?_
  refine g_iloadN X0 hx hby i29_1 rfl ?_
  refine g_callS0 X0 hx hby hZ (y := (⟨"java/util/Arrays", "checkLength", "(II)V"⟩ : MethodName)) (argsL := [(.int (own_i 18)), (.int (own_i (18 + N_)))]) (rest := []) hown (wd_ hw 187 rfl) (wd_ hw 188 rfl) (wd_ hw 182 rfl) (wd_ hw 189 rfl) (by decide) (rm30 l Z a0 hw [] (own_i 18) (own_i (18 + N_)) h0 n0 Z0 (fun q => absurd ((own_ilt (by omega) (by omega)).mp q) (by omega))) e0 (by rw [hml]; rfl) pd_16 rfl rfl i29_2 (by decide) 0 rfl (by decide) (by decide) (by decide) fun T1 v1 L1 X1 q1 => ?_
  obtain ⟨rfl, e1, N1⟩ := q1
  have N0 := Fr.app N0 N1
  show Gd p e below _ T1 (mkF m 5 #[.val (.ref b_), .val (.int (own_i 18)), .val (.int (own_i (18 + N_))), .unset, .unset] [])
  refine g_iloadN X1 hx hby i29_5 rfl ?_
  refine g_iloadN X1 hx hby i29_6 rfl ?_
  refine g_isub X1 hx hby i29_7 ?_
  rw [own_isub 18 N_]
  refine g_istoreN X1 hx hby i29_8 (l' := #[.val (.ref b_), .val (.int (own_i 18)), .val (.int (own_i (18 + N_))), .val (.int (own_i N_)), .unset]) rfl ?_
  refine g_iloadN X1 hx hby i29_9 rfl ?_
  refine g_newarray X1 hx hby hZ (ty := .byte) rfl (wd_ hw 1 rfl) e1 i29_10 (own_nn (by omega)) 24 (by rw [own_tc (by omega)]; omega) (by decide) (by decide) (by decide) fun T2 h2 b2 k2 X2 e2 E2 hb2 V2 => ?_
  have ne_b__b2 : b_ ≠ b2 := Nat.ne_of_lt (Nat.lt_of_lt_of_le V.lt (Nat.le_of_eq hb2.symm))
  have g_b2 : n0 ≤ b2 := Nat.le_trans Z0 (Nat.le_of_eq hb2.symm)
  have V := V.ext E2
  have sz_b2 : h0.size ≤ b2 := Nat.le_trans K0.1 (Nat.le_of_eq hb2.symm)
  have K0 := K0.ext E2
  have Z0 : n0 ≤ h2.size := Nat.le_trans Z0 E2.1
  have V2 : Arv Z h2 b2 k2 .byte (own_i N_) [] (.int (0 : Int32)) := V2
  have V2 := V2.pad (pad_rep _ _ N_)
  refine g_astore X2 hx hby i29_12 rfl (l' := #[.val (.ref b_), .val (.int (own_i 18)), .val (.int (own_i (18 + N_))), .val (.int (own_i N_)), .val (.ref b2)]) rfl ?_
  refine g_aloadN X2 hx hby i29_14 rfl rfl ?_
  refine g_iloadN X2 hx hby i29_15 rfl ?_
  refine g_aload X2 hx hby i29_16 rfl rfl ?_
  refine g_iconst X2 hx hby i29_18 (z := (0 : Int32)) (by decide) ?_
  refine g_aloadN X2 hx hby i29_19 rfl rfl ?_
  refine g_arraylength X2 hx hby hZ e2 V i29_20 ?_
  refine g_iloadN X2 hx hby i29_21 rfl ?_
  refine g_isub X2 hx hby i29_22 ?_
  rw [show ((41 : Int32) - own_i 18) = own_i 23 from by decide]
  refine g_iloadN X2 hx hby i29_23 rfl ?_
  refine g_callS0 X2 hx hby hZ (y := (⟨"java/lang/Math", "min", "(II)I"⟩ : MethodName)) (argsL := [(.int (own_i 23)), (.int (own_i N_))]) (rest := [(.int (0 : Int32)), (.ref b2), (.int (own_i 18)), (.ref b_)]) hown (wd_ hw 190 rfl) (wd_ hw 191 rfl) (wd_ hw 7 rfl) (wd_ hw 192 rfl) (by decide) (rm31_r l Z a0 hw [] (own_i 23) (own_i N_) h2 n0 Z0 (fun q => absurd ((own_ilt (by omega) (by omega)).mp q) (by omega))) e2 (by rw [hml]; rfl) pd_4 rfl rfl i29_24 (by decide) 4 rfl (by decide) (by decide) (by decide) fun T3 v3 L3 X3 q3 => ?_
  obtain ⟨_, rfl, rfl, e3, N3⟩ := q3
  have N0 := Fr.app N0 N3
  show Gd p e below _ T3 (mkF m 27 #[.val (.ref b_), .val (.int (own_i 18)), .val (.int (own_i (18 + N_))), .val (.int (own_i N_)), .val (.ref b2)] [(.int (own_i N_)), (.int (0 : Int32)), (.ref b2), (.int (own_i 18)), (.ref b_)])
  refine g_arraycopy X3 hx hby hZ hown (wd_ hw 193 rfl) (wd_ hw 196 rfl) (wd_ hw 194 rfl) (wd_ hw 195 rfl) e3 V V2 rfl (by decide) (by decide) (own_nn (by omega)) (by rw [own_tc (n := 18) (by omega), own_tc (n := N_) (by omega)]; show 18 + N_ ≤ 41; omega) (by rw [own_z0, own_tc (n := N_) (by omega)]; omega) (us := _) rfl (by rw [own_z0, own_tc (n := N_) (by omega), Nat.zero_add]; exact own_padl _ _ _) N0 g_b2 (by rw [hml]; rfl) i29_27 (by decide) 0 rfl (by decide) fun T4 h4 L4 X4 e4 N0 K4 V4 => ?_
  have K0 := K0.trans K4 (fun x hx => by simp at hx; subst hx; exact Or.inr sz_b2)
  have V := V.keep K4 (ninS ne_b__b2 nin0)
  have Z0 : n0 ≤ h4.size := Nat.le_trans Z0 K4.1
  show Gd p e below _ T4 (mkF m 30 #[.val (.ref b_), .val (.int (own_i 18)), .val (.int (own_i (18 + N_))), .val (.int (own_i N_)), .val (.ref b2)] [])
  refine g_aload X4 hx hby i29_30 rfl rfl ?_
  refine g_areturn X4 hx hby hret rfl (fun _ => rfl) hlk rfl i29_32 (by decide) (by decide) ?_
  rw [e4]
  exact ⟨_, rfl, b2, _, _, rfl, K0, V4, g_b2, sz_b2, N0⟩
theorem i28_0 : Ins1 jdk_65_method_132_code 0 (.iload_n 1) 1 1 := ⟨by decide +kernel, rfl⟩
theorem i28_1 : InsB jdk_65_method_132_code 1 (.ifCond .ne 9) 9 4 10 := ⟨by decide +kernel, rfl, by decide, by decide⟩
theorem i28_10 : Ins1 jdk_65_method_132_code 10 (.aload_n 0) 1 11 := ⟨by decide +kernel, rfl⟩
theorem i28_11 : Ins1 jdk_65_method_132_code 11 (.iload_n 1) 1 12 := ⟨by decide +kernel, rfl⟩
theorem i28_12 : Ins1 jdk_65_method_132_code 12 (.iload_n 2) 1 13 := ⟨by decide +kernel, rfl⟩
theorem i28_13 : Ins1 jdk_65_method_132_code 13 (.invokestatic 339) 3 16 := ⟨by decide +kernel, rfl⟩
theorem i28_16 : Ins1 jdk_65_method_132_code 16 (.areturn) 1 17 := ⟨by decide +kernel, rfl⟩
theorem ef_28 (m : MethodId) (b_ : Addr) (p1 : Int32) (p2 : Int32) : entryFrame m #[(.ref b_), (.int p1), (.int p2)] 3 = mkF m 0 #[.val (.ref b_), .val (.int p1), .val (.int p2)] [] := by first | (simp [entryFrame, mkF, argsToLocals, Value.category]; done) | rfl
theorem pd_17 : parseMethodDescriptor "([BII)[B" = some ⟨[(.array .byte), .int, .int], some (.array .byte)⟩ := by decide +kernel
theorem rm28 (l : Launch) (Z : State) (a0 : Array Value) (hw : ∀ d ∈ tables_1, d.before a0 Z = true) (ws : List Jvm.Cond) (b_ : Addr) (p1 : Int32) (p2 : Int32) (kc : ClassId) (vs : List Value) (N_ : Nat) (h0 : Heap) (n0 : Nat) (Z0 : n0 ≤ h0.size) (V : Arv Z h0 b_ kc .byte (41 : Int32) vs (.int (0 : Int32))) (hp1 : p1 = own_i 18) (hp2 : p2 = own_i (18 + N_)) (hN : N_ < 24) :
    Met1 l (⟨"java/util/Arrays", "copyOfRange", "([BII)[B"⟩ : MethodName) jdk_65_method_132_code 3 (some (.array .byte)) ws ({ frames := 2, cells := 1, slots := 24, locals := 42 } : Room) #[(.ref b_), (.int p1), (.int p2)] Z h0 (RV fun z h L => ∃ t kt vt, z = .ref t ∧ Keep h0 h [] ∧ Arv Z h t kt .byte (own_i N_) vt (.int (0 : Int32)) ∧ n0 ≤ t ∧ h0.size ≤ t ∧ Fr n0 L) := by
  refine met_of (plainFor_of_name pn_java_util_Arrays) ?_
  intro p e s m below meth c T0 X0 hx hby hml hZ hown hnm hret hlk e0 es
  have N0 := Fr.nil n0
  refine Gd.cast (ef_28 m b_ p1 p2) ?_
  subst hp1
  subst hp2
  have K0 : Keep h0 h0 [] := Keep.refl _ _
  refine g_iloadN X0 hx hby i28_0 rfl ?_
  refine g_if_ne X0 hx hby i28_1 (fun c1_1 => ?_) (fun c1_1 => False.elim (absurd c1_1 (by decide)))
  refine g_aloadN X0 hx hby i28_10 rfl rfl ?_
  refine g_iloadN X0 hx hby i28_11 rfl ?_
  refine g_iloadN X0 hx hby i28_12 rfl ?_
  refine g_callS0 X0 hx hby hZ (y := (⟨"java/util/Arrays", "copyOfRangeByte", "([BII)[B"⟩ : MethodName)) (argsL := [(.ref b_), (.int (own_i 18)), (.int (own_i (18 + N_)))]) (rest := []) hown (wd_ hw 184 rfl) (wd_ hw 185 rfl) (wd_ hw 182 rfl) (wd_ hw 186 rfl) (by decide) (rm29 l Z a0 hw [] b_ (own_i 18) (own_i (18 + N_)) kc _ N_ h0 n0 Z0 V rfl rfl hN) e0 (by rw [hml]; rfl) pd_17 rfl rfl i28_13 (by decide) 0 rfl (by decide) (by decide) (by decide) fun T2 v2 L2 X2 q2 => ?_
  obtain ⟨_, rfl, t2, kt2, vt2, rfl, K2, V2, g_t2, s2, N2⟩ := q2
  have N0 := Fr.app N0 N2
  have ne_b__t2 : b_ ≠ t2 := Nat.ne_of_lt (Nat.lt_of_lt_of_le V.lt s2)
  have sz_t2 : h0.size ≤ t2 := Nat.le_trans K0.1 s2
  have K0 := K0.trans K2 (fun x hx => nomatch hx)
  have V := V.keep K2 nin0
  have Z0 : n0 ≤ T2.heap.size := Nat.le_trans Z0 K2.1
  show Gd p e below _ T2 (mkF m 16 #[.val (.ref b_), .val (.int (own_i 18)), .val (.int (own_i (18 + N_)))] [(.ref t2)])
  refine g_areturn X2 hx hby hret rfl (fun _ => rfl) hlk rfl i28_16 (by decide) (by decide) ?_
  exact ⟨_, rfl, t2, _, _, rfl, K0, V2, g_t2, sz_t2, N0⟩
theorem i25_0 : Ins1 prog_30_method_32_code 0 (.lload_n 1) 1 1 := ⟨by decide +kernel, rfl⟩
theorem i25_1 : Ins1 prog_30_method_32_code 1 (.aload_n 0) 1 2 := ⟨by decide +kernel, rfl⟩
theorem i25_2 : Ins1 prog_30_method_32_code 2 (.getfield 36) 3 5 := ⟨by decide +kernel, rfl⟩
theorem i25_5 : Ins1 prog_30_method_32_code 5 (.aload_n 0) 1 6 := ⟨by decide +kernel, rfl⟩
theorem i25_6 : Ins1 prog_30_method_32_code 6 (.getfield 32) 3 9 := ⟨by decide +kernel, rfl⟩
theorem i25_9 : Ins1 prog_30_method_32_code 9 (.isub) 1 10 := ⟨by decide +kernel, rfl⟩
theorem i25_10 : Ins1 prog_30_method_32_code 10 (.i2l) 1 11 := ⟨by decide +kernel, rfl⟩
theorem i25_11 : Ins1 prog_30_method_32_code 11 (.invokestatic 259) 3 14 := ⟨by decide +kernel, rfl⟩
theorem i25_14 : InsB prog_30_method_32_code 14 (.ifCond .le 7) 7 17 21 := ⟨by decide +kernel, rfl, by decide, by decide⟩
theorem i25_21 : Ins1 prog_30_method_32_code 21 (.aload_n 0) 1 22 := ⟨by decide +kernel, rfl⟩
theorem i25_22 : Ins1 prog_30_method_32_code 22 (.getfield 28) 3 25 := ⟨by decide +kernel, rfl⟩
theorem i25_25 : Ins1 prog_30_method_32_code 25 (.aload_n 0) 1 26 := ⟨by decide +kernel, rfl⟩
theorem i25_26 : Ins1 prog_30_method_32_code 26 (.getfield 32) 3 29 := ⟨by decide +kernel, rfl⟩
theorem i25_29 : Ins1 prog_30_method_32_code 29 (.aload_n 0) 1 30 := ⟨by decide +kernel, rfl⟩
theorem i25_30 : Ins1 prog_30_method_32_code 30 (.getfield 32) 3 33 := ⟨by decide +kernel, rfl⟩
theorem i25_33 : Ins1 prog_30_method_32_code 33 (.lload_n 1) 1 34 := ⟨by decide +kernel, rfl⟩
theorem i25_34 : Ins1 prog_30_method_32_code 34 (.l2i) 1 35 := ⟨by decide +kernel, rfl⟩
theorem i25_35 : Ins1 prog_30_method_32_code 35 (.iadd) 1 36 := ⟨by decide +kernel, rfl⟩
theorem i25_36 : Ins1 prog_30_method_32_code 36 (.invokestatic 331) 3 39 := ⟨by decide +kernel, rfl⟩
theorem i25_39 : Ins1 prog_30_method_32_code 39 (.astore_n 3) 1 40 := ⟨by decide +kernel, rfl⟩
theorem i25_40 : Ins1 prog_30_method_32_code 40 (.aload_n 0) 1 41 := ⟨by decide +kernel, rfl⟩
theorem i25_41 : Ins1 prog_30_method_32_code 41 (.dup) 1 42 := ⟨by decide +kernel, rfl⟩
theorem i25_42 : Ins1 prog_30_method_32_code 42 (.getfield 32) 3 45 := ⟨by decide +kernel, rfl⟩
theorem i25_45 : Ins1 prog_30_method_32_code 45 (.lload_n 1) 1 46 := ⟨by decide +kernel, rfl⟩
theorem i25_46 : Ins1 prog_30_method_32_code 46 (.l2i) 1 47 := ⟨by decide +kernel, rfl⟩
theorem i25_47 : Ins1 prog_30_method_32_code 47 (.iadd) 1 48 := ⟨by decide +kernel, rfl⟩
theorem i25_48 : Ins1 prog_30_method_32_code 48 (.putfield 32) 3 51 := ⟨by decide +kernel, rfl⟩
theorem i25_51 : Ins1 prog_30_method_32_code 51 (.aload_n 3) 1 52 := ⟨by decide +kernel, rfl⟩
theorem i25_52 : Ins1 prog_30_method_32_code 52 (.areturn) 1 53 := ⟨by decide +kernel, rfl⟩
theorem ef_25 (m : MethodId) (r_ : Addr) (q1 : Int64) : entryFrame m #[(.ref r_), (.long q1)] 4 = mkF m 0 #[.val (.ref r_), .val (.long q1), .second, .unset] [] := by first | (simp [entryFrame, mkF, argsToLocals, Value.category]; done) | rfl
theorem rm25 (l : Launch) (Z : State) (a0 : Array Value) (hw : ∀ d ∈ tables_1, d.before a0 Z = true) (ws : List Jvm.Cond) (r_ : Addr) (q1 : Int64) (bu nl : Addr) (mi : Int32) (N_ : Nat) (kb : ClassId) (vb : List Value) (il : Int32) (h0 : Heap) (n0 : Nat) (Z0 : n0 ≤ h0.size) (Q : own_rd Z h0 r_ [(.ref bu), (.int (own_i 18)), (.int (own_i (17 + (0 + 1 + N_)))), (.int mi), (.int (0 : Int32)), (.ref nl), (.int il)]) (g_r_ : n0 ≤ r_) (Vb : Arv Z h0 bu kb .byte (41 : Int32) vb (.int (0 : Int32))) (hrb : r_ ≠ bu) (hq1 : q1 = own_l N_) (hN : N_ < 24) :
    Met1 l (⟨"com/example/ariel/ariel/cbor/CborReader", "take", "(J)[B"⟩ : MethodName) prog_30_method_32_code 4 (some (.array .byte)) ws ({ frames := 3, cells := 1, slots := 24, locals := 64 } : Room) #[(.ref r_), (.long q1)] Z h0 (RV fun z h L => ∃ t kt vt, z = .ref t ∧ Keep h0 h [r_] ∧ Arv Z h t kt .byte (own_i N_) vt (.int (0 : Int32)) ∧ n0 ≤ t ∧ h0.size ≤ t ∧ Fr n0 L) := by
  refine met_of (plainFor_of_name pn_com_example_ariel_ariel_cbor_CborReader) ?_
  intro p e s m below meth c T0 X0 hx hby hml hZ hown hnm hret hlk e0 es
  have N0 := Fr.nil n0
  refine Gd.cast (ef_25 m r_ q1) ?_
  subst hq1
  have K0 : Keep h0 h0 [r_] := Keep.refl _ _
  refine g_lloadN X0 hx hby i25_0 rfl ?_
  refine g_aloadN X0 hx hby i25_1 rfl rfl ?_
  refine g_getfield X0 hx hby hZ hown (host := "") (Or.inl (wd_ hw 132 rfl)) Via.refl e0 (own_rat Q 2 (by decide) (v := (.int (own_i (17 + (0 + 1 + N_))))) rfl) i25_2 fun T1 X1 e1 => ?_
  refine g_aloadN X1 hx hby i25_5 rfl rfl ?_
  refine g_getfield X1 hx hby hZ hown (host := "") (Or.inl (wd_ hw 130 rfl)) Via.refl e1 (own_rat Q 1 (by decide) (v := (.int (own_i 18))) rfl) i25_6 fun T2 X2 e2 => ?_
  refine g_isub X2 hx hby i25_9 ?_
  rw [own_isubL (a := 18) (b := (17 + (0 + 1 + N_))) (by omega), show (17 + (0 + 1 + N_)) - 18 = N_ from by omega]
  refine g_i2l X2 hx hby i25_10 ?_
  rw [own_i2l (by omega)]
  refine g_callS0 X2 hx hby hZ (y := (⟨"java/lang/Long", "compareUnsigned", "(JJ)I"⟩ : MethodName)) (argsL := [(.long (own_l N_)), (.long (own_l N_))]) (rest := []) hown (wd_ hw 172 rfl) (wd_ hw 173 rfl) (wd_ hw 174 rfl) (wd_ hw 175 rfl) (by decide) (rm26 l Z a0 hw [] (own_l N_) (own_l N_) N_ N_ h0 n0 Z0 rfl rfl (by omega) (by omega)) e2 (by rw [hml]; rfl) pd_7 rfl rfl i25_11 (by decide) 0 rfl (by decide) (by decide) (by decide) fun T3 v3 L3 X3 q3 => ?_
  obtain ⟨_, rfl, rfl, e3, N3⟩ := q3
  have N0 := Fr.app N0 N3
  show Gd p e below _ T3 (mkF m 14 #[.val (.ref r_), .val (.long (own_l N_)), .second, .unset] [(.int (own_c N_ N_))])
  refine g_if_le X3 hx hby i25_14 (fun c14_4 => ?_) (fun c14_4 => False.elim (own_cle (Nat.le_refl _) c14_4))
  refine g_aloadN X3 hx hby i25_21 rfl rfl ?_
  refine g_getfield X3 hx hby hZ hown (host := "") (Or.inl (wd_ hw 128 rfl)) Via.refl e3 (own_rat Q 0 (by decide) (v := (.ref bu)) rfl) i25_22 fun T5 X5 e5 => ?_
  refine g_aloadN X5 hx hby i25_25 rfl rfl ?_
  refine g_getfield X5 hx hby hZ hown (host := "") (Or.inl (wd_ hw 130 rfl)) Via.refl e5 (own_rat Q 1 (by decide) (v := (.int (own_i 18))) rfl) i25_26 fun T6 X6 e6 => ?_
  refine g_aloadN X6 hx hby i25_29 rfl rfl ?_
  refine g_getfield X6 hx hby hZ hown (host := "") (Or.inl (wd_ hw 130 rfl)) Via.refl e6 (own_rat Q 1 (by decide) (v := (.int (own_i 18))) rfl) i25_30 fun T7 X7 e7 => ?_
  refine g_lloadN X7 hx hby i25_33 rfl ?_
  refine g_l2i X7 hx hby i25_34 ?_
  rw [own_l2i (by omega)]
  refine g_iadd X7 hx hby i25_35 ?_
  rw [own_iadd]
  refine g_callS0 X7 hx hby hZ (y := (⟨"java/util/Arrays", "copyOfRange", "([BII)[B"⟩ : MethodName)) (argsL := [(.ref bu), (.int (own_i 18)), (.int (own_i (18 + N_)))]) (rest := []) hown (wd_ hw 180 rfl) (wd_ hw 181 rfl) (wd_ hw 182 rfl) (wd_ hw 183 rfl) (by decide) (rm28 l Z a0 hw [] bu (own_i 18) (own_i (18 + N_)) kb _ N_ h0 n0 Z0 Vb rfl rfl hN) e7 (by rw [hml]; rfl) pd_17 rfl rfl i25_36 (by decide) 0 rfl (by decide) (by decide) (by decide) fun T8 v8 L8 X8 q8 => ?_
  obtain ⟨_, rfl, t8, kt8, vt8, rfl, K8, V8, g_t8, s8, N8⟩ := q8
  have N0 := Fr.app N0 N8
  have ne_r__t8 : r_ ≠ t8 := Nat.ne_of_lt (Nat.lt_of_lt_of_le Q.lt s8)
  have ne_bu_t8 : bu ≠ t8 := Nat.ne_of_lt (Nat.lt_of_lt_of_le Vb.lt s8)
  have sz_t8 : h0.size ≤ t8 := Nat.le_trans K0.1 s8
  have K0 := K0.trans K8 (fun x hx => nomatch hx)
  have Q := Q.keep K8 nin0
  have Vb := Vb.keep K8 nin0
  have Z0 : n0 ≤ T8.heap.size := Nat.le_trans Z0 K8.1
  show Gd p e below _ T8 (mkF m 39 #[.val (.ref r_), .val (.long (own_l N_)), .second, .unset] [(.ref t8)])
  refine g_astoreN X8 hx hby i25_39 rfl (l' := #[.val (.ref r_), .val (.long (own_l N_)), .second, .val (.ref t8)]) rfl ?_
  refine g_aloadN X8 hx hby i25_40 rfl rfl ?_
  refine g_dup X8 hx hby i25_41 rfl ?_
  refine g_getfield X8 hx hby hZ hown (host := "") (Or.inl (wd_ hw 130 rfl)) Via.refl rfl (own_rat Q 1 (by decide) (v := (.int (own_i 18))) rfl) i25_42 fun T9 X9 e9 => ?_
  refine g_lloadN X9 hx hby i25_45 rfl ?_
  refine g_l2i X9 hx hby i25_46 ?_
  rw [own_l2i (by omega)]
  refine g_iadd X9 hx hby i25_47 ?_
  rw [own_iadd]
  refine g_putfield X9 hx hby hZ hown (host := "") (Or.inl (wd_ hw 130 rfl)) Via.refl e9 (own_rat Q 1 (by decide) (v := (.int (own_i 18))) rfl) Q.1 (Or.inl (wd_ hw 131 rfl)) (wd_ hw 114 rfl) (ty := .int) (by decide) rfl rfl i25_48 fun T10 h10 X10 e10 W10 => ?_
  have Q : own_rd Z h10 r_ [(.ref bu), (.int (own_i (18 + N_))), (.int (own_i (17 + (0 + 1 + N_)))), (.int mi), (.int (0 : Int32)), (.ref nl), (.int il)] := Q.put hw (i := 1) (by decide) W10
  have Vb := Vb.other W10 (Ne.symm hrb)
  have V8 := V8.other W10 (Ne.symm ne_r__t8)
  have Z0 : n0 ≤ h10.size := Nat.le_trans Z0 (Nat.le_of_eq W10.size.symm)
  have N0 := Fr.snoc X10 N0 g_r_
  have K0 := K0.wr W10 (Or.inl (by simp))
  refine g_aloadN X10 hx hby i25_51 rfl rfl ?_
  refine g_areturn X10 hx hby hret rfl (fun _ => rfl) hlk rfl i25_52 (by decide) (by decide) ?_
  rw [e10]
  exact ⟨_, rfl, t8, _, _, rfl, K0, V8, g_t8, sz_t8, N0⟩
theorem i34_0 : Ins1 jdk_30_method_1_code 0 (.aload_n 0) 1 1 := ⟨by decide +kernel, rfl⟩
theorem i34_1 : Ins1 jdk_30_method_1_code 1 (.invokespecial 1) 3 4 := ⟨by decide +kernel, rfl⟩
theorem i34_4 : Ins1 jdk_30_method_1_code 4 (.return_) 1 5 := ⟨by decide +kernel, rfl⟩
theorem pn_java_lang_Record : plainName "java/lang/Record" = true := by first | (simp [plainName, overriddenIn]; done) | decide +kernel
theorem ef_34 (m : MethodId) (b_ : Addr) : entryFrame m #[(.ref b_)] 1 = mkF m 0 #[.val (.ref b_)] [] := by first | (simp [entryFrame, mkF, argsToLocals, Value.category]; done) | rfl
theorem rm34 (l : Launch) (Z : State) (a0 : Array Value) (hw : ∀ d ∈ tables_1, d.before a0 Z = true) (ws : List Jvm.Cond) (b_ : Addr)  (h0 : Heap) (n0 : Nat) (Z0 : n0 ≤ h0.size)  :
    Met1 l (⟨"java/lang/Record", "<init>", "()V"⟩ : MethodName) jdk_30_method_1_code 1 none ws ({ frames := 1, cells := 0, slots := 0, locals := 14 } : Room) #[(.ref b_)] Z h0 (RN fun h L => h = h0 ∧ Fr n0 L) := by
  refine met_of (plainFor_of_name pn_java_lang_Record) ?_
  intro p e s m below meth c T0 X0 hx hby hml hZ hown hnm hret hlk e0 es
  have N0 := Fr.nil n0
  refine Gd.cast (ef_34 m b_) ?_
  refine g_aloadN X0 hx hby i34_0 rfl rfl ?_
  refine g_objInit X0 hx hby hZ hown (wd_ hw 211 rfl) (wd_ hw 16 rfl) (wd_ hw 17 rfl) e0 (by rw [hml]; rfl) i34_1 0 rfl (by decide) (by decide) fun T1 X1 e1 => ?_
  refine g_return X1 hx hby hret hlk i34_4 (by decide) (by decide) ?_
  exact ⟨rfl, e1, N0⟩
theorem i33_0 : Ins1 prog_23_method_1_code 0 (.aload_n 0) 1 1 := ⟨by decide +kernel, rfl⟩
theorem i33_1 : Ins1 prog_23_method_1_code 1 (.invokespecial 1) 3 4 := ⟨by decide +kernel, rfl⟩
theorem i33_4 : Ins1 prog_23_method_1_code 4 (.aload_n 0) 1 5 := ⟨by decide +kernel, rfl⟩
theorem i33_5 : Ins1 prog_23_method_1_code 5 (.aload_n 1) 1 6 := ⟨by decide +kernel, rfl⟩
theorem i33_6 : Ins1 prog_23_method_1_code 6 (.putfield 7) 3 9 := ⟨by decide +kernel, rfl⟩
theorem i33_9 : Ins1 prog_23_method_1_code 9 (.return_) 1 10 := ⟨by decide +kernel, rfl⟩
theorem pn_com_example_ariel_ariel_cbor_CborBytes : plainName "com/example/ariel/ariel/cbor/CborBytes" = true := by first | (simp [plainName, overriddenIn]; done) | decide +kernel
theorem ef_33 (m : MethodId) (r_ : Addr) (b_ : Addr) : entryFrame m #[(.ref r_), (.ref b_)] 2 = mkF m 0 #[.val (.ref r_), .val (.ref b_)] [] := by first | (simp [entryFrame, mkF, argsToLocals, Value.category]; done) | rfl
theorem rm33 (l : Launch) (Z : State) (a0 : Array Value) (hw : ∀ d ∈ tables_1, d.before a0 Z = true) (ws : List Jvm.Cond) (r_ : Addr) (b_ : Addr)  (h0 : Heap) (n0 : Nat) (Z0 : n0 ≤ h0.size) (E_ : Exa Z h0 r_ "com/example/ariel/ariel/cbor/CborBytes") (F_ : Fld Z h0 r_ "com/example/ariel/ariel/cbor/CborBytes" "bytes" "[B" .null) (g_r_ : n0 ≤ r_) :
    Met1 l (⟨"com/example/ariel/ariel/cbor/CborBytes", "<init>", "([B)V"⟩ : MethodName) prog_23_method_1_code 2 none ws ({ frames := 2, cells := 0, slots := 0, locals := 28 } : Room) #[(.ref r_), (.ref b_)] Z h0 (RN fun h L => Keep h0 h [r_] ∧ Fr n0 L) := by
  refine met_of (plainFor_of_name pn_com_example_ariel_ariel_cbor_CborBytes) ?_
  intro p e s m below meth c T0 X0 hx hby hml hZ hown hnm hret hlk e0 es
  have N0 := Fr.nil n0
  refine Gd.cast (ef_33 m r_ b_) ?_
  have K0 : Keep h0 h0 [r_] := Keep.refl _ _
  refine g_aloadN X0 hx hby i33_0 rfl rfl ?_
  refine g_callInit0 X0 hx hby hZ (y := (⟨"java/lang/Record", "<init>", "()V"⟩ : MethodName)) (argsL := []) (rest := []) rfl hown (wd_ hw 206 rfl) (wd_ hw 207 rfl) (wd_ hw 209 rfl) (wd_ hw 210 rfl) (by decide) (a := r_) (rm34 l Z a0 hw [] r_ h0 n0 Z0) e0 (by rw [hml]; rfl) pd_1 rfl rfl i33_1 (by decide) 0 rfl (by decide) (by decide) (by decide) fun T1 v1 L1 X1 q1 => ?_
  obtain ⟨rfl, e1, N1⟩ := q1
  have N0 := Fr.app N0 N1
  show Gd p e below _ T1 (mkF m 4 #[.val (.ref r_), .val (.ref b_)] [])
  refine g_aloadN X1 hx hby i33_4 rfl rfl ?_
  refine g_aloadN X1 hx hby i33_5 rfl rfl ?_
  refine g_putfield X1 hx hby hZ hown (host := "") (Or.inl (wd_ hw 212 rfl)) Via.refl e1 F_ E_ (Or.inr ⟨(wd_ hw 213 rfl), rfl, hnm⟩) (wd_ hw 201 rfl) (ty := (.array .byte)) (by decide) rfl rfl i33_6 fun T2 h2 X2 e2 W2 => ?_
  have F_ := F_.same W2
  have E_ := E_.wr W2
  have Z0 : n0 ≤ h2.size := Nat.le_trans Z0 (Nat.le_of_eq W2.size.symm)
  have N0 := Fr.snoc X2 N0 g_r_
  have K0 := K0.wr W2 (Or.inl (by simp))
  refine g_return X2 hx hby hret hlk i33_9 (by decide) (by decide) ?_
  rw [e2]
  exact ⟨rfl, K0, N0⟩
theorem i32_0 : Ins1 prog_30_method_18_code 0 (.aload_n 0) 1 1 := ⟨by decide +kernel, rfl⟩
theorem i32_1 : Ins1 prog_30_method_18_code 1 (.arraylength) 1 2 := ⟨by decide +kernel, rfl⟩
theorem i32_2 : Ins1 prog_30_method_18_code 2 (.i2l) 1 3 := ⟨by decide +kernel, rfl⟩
theorem i32_3 : Ins1 prog_30_method_18_code 3 (.lload_n 1) 1 4 := ⟨by decide +kernel, rfl⟩
theorem i32_4 : Ins1 prog_30_method_18_code 4 (.lcmp) 1 5 := ⟨by decide +kernel, rfl⟩
theorem i32_5 : InsB prog_30_method_18_code 5 (.ifCond .ne 14) 14 8 19 := ⟨by decide +kernel, rfl, by decide, by decide⟩
theorem i32_8 : Ins1 prog_30_method_18_code 8 (.new 265) 3 11 := ⟨by decide +kernel, rfl⟩
theorem i32_11 : Ins1 prog_30_method_18_code 11 (.dup) 1 12 := ⟨by decide +kernel, rfl⟩
theorem i32_12 : Ins1 prog_30_method_18_code 12 (.aload_n 0) 1 13 := ⟨by decide +kernel, rfl⟩
theorem i32_13 : Ins1 prog_30_method_18_code 13 (.invokespecial 267) 3 16 := ⟨by decide +kernel, rfl⟩
theorem i32_16 : InsB prog_30_method_18_code 16 (.goto 12) 12 19 28 := ⟨by decide +kernel, rfl, by decide, by decide⟩
theorem i32_28 : Ins1 prog_30_method_18_code 28 (.areturn) 1 29 := ⟨by decide +kernel, rfl⟩
theorem ef_32 (m : MethodId) (b_ : Addr) (q1 : Int64) : entryFrame m #[(.ref b_), (.long q1)] 3 = mkF m 0 #[.val (.ref b_), .val (.long q1), .second] [] := by first | (simp [entryFrame, mkF, argsToLocals, Value.category]; done) | rfl
theorem rm32 (l : Launch) (Z : State) (a0 : Array Value) (hw : ∀ d ∈ tables_1, d.before a0 Z = true) (ws : List Jvm.Cond) (b_ : Addr) (q1 : Int64) (kc : ClassId) (vs : List Value) (N_ : Nat) (h0 : Heap) (n0 : Nat) (Z0 : n0 ≤ h0.size) (V : Arv Z h0 b_ kc .byte (own_i N_) vs (.int (0 : Int32))) (hq1 : q1 = own_l N_) (hN : N_ < 24) :
    Met1 l (⟨"com/example/ariel/ariel/cbor/CborReader", "byteString", "([BJ)Lcom/example/ariel/ariel/cbor/CborValue;"⟩ : MethodName) prog_30_method_18_code 3 (some (.object "com/example/ariel/ariel/cbor/CborValue")) ws ({ frames := 3, cells := 1, slots := 8, locals := 46 } : Room) #[(.ref b_), (.long q1)] Z h0 (RV fun z h L => ∃ t, z = .ref t ∧ Keep h0 h [] ∧ Fr n0 L) := by
  refine met_of (plainFor_of_name pn_com_example_ariel_ariel_cbor_CborReader) ?_
  intro p e s m below meth c T0 X0 hx hby hml hZ hown hnm hret hlk e0 es
  have N0 := Fr.nil n0
  refine Gd.cast (ef_32 m b_ q1) ?_
  subst hq1
  have K0 : Keep h0 h0 [] := Keep.refl _ _
  refine g_aloadN X0 hx hby i32_0 rfl rfl ?_
  refine g_arraylength X0 hx hby hZ e0 V i32_1 ?_
  refine g_i2l X0 hx hby i32_2 ?_
  rw [own_i2l (by omega)]
  refine g_lloadN X0 hx hby i32_3 rfl ?_
  refine g_lcmp_ne X0 hx hby i32_4 i32_5 (fun c4_1 => False.elim (c4_1 rfl)) fun c4_1 => ?_
  refine g_new X0 hx hby hZ hown (wd_ hw 200 rfl) (wd_ hw 201 rfl) (wd_ hw 202 rfl) e0 i32_8 (by decide) (by decide) fun T2 h2 b2 X2 e2 E2 hb2 A2 D2 => ?_
  have ne_b__b2 : b_ ≠ b2 := Nat.ne_of_lt (Nat.lt_of_lt_of_le V.lt (Nat.le_of_eq hb2.symm))
  have g_b2 : n0 ≤ b2 := Nat.le_trans Z0 (Nat.le_of_eq hb2.symm)
  have V := V.ext E2
  have sz_b2 : h0.size ≤ b2 := Nat.le_trans K0.1 (Nat.le_of_eq hb2.symm)
  have K0 := K0.ext E2
  have Z0 : n0 ≤ h2.size := Nat.le_trans Z0 E2.1
  have F2_bytes : Fld Z h2 b2 "com/example/ariel/ariel/cbor/CborBytes" "bytes" "[B" .null := D2 (Or.inr (wd_ hw 213 rfl)) (ty := (.array .byte)) (by decide)
  refine g_dup X2 hx hby i32_11 rfl ?_
  refine g_aloadN X2 hx hby i32_12 rfl rfl ?_
  refine g_callInit0 X2 hx hby hZ (y := (⟨"com/example/ariel/ariel/cbor/CborBytes", "<init>", "([B)V"⟩ : MethodName)) (argsL := [(.ref b_)]) (rest := [(.ref b2)]) rfl hown (wd_ hw 203 rfl) (wd_ hw 204 rfl) (wd_ hw 202 rfl) (wd_ hw 205 rfl) (by decide) (a := b2) (rm33 l Z a0 hw [] b2 b_ h2 n0 Z0 A2 F2_bytes g_b2) e2 (by rw [hml]; rfl) pd_3 rfl rfl i32_13 (by decide) 1 rfl (by decide) (by decide) (by decide) fun T3 v3 L3 X3 q3 => ?_
  obtain ⟨rfl, K3, N3⟩ := q3
  have N0 := Fr.app N0 N3
  have K0 := K0.trans K3 (fun x hx => by simp at hx; subst hx; exact Or.inr sz_b2)
  have V := V.keep K3 (ninS ne_b__b2 nin0)
  have A2 := A2.keep K3
  have Z0 : n0 ≤ T3.heap.size := Nat.le_trans Z0 K3.1
  show Gd p e below _ T3 (mkF m 16 #[.val (.ref b_), .val (.long (own_l N_)), .second] [(.ref b2)])
  refine g_goto X3 hx hby i32_16 ?_
  refine g_areturn X3 hx hby hret rfl (fun _ => rfl) hlk rfl i32_28 (by decide) (by decide) ?_
  exact ⟨_, rfl, b2, rfl, K0, N0⟩
theorem i20_0 : Ins1 prog_30_method_9_code 0 (.aload_n 0) 1 1 := ⟨by decide +kernel, rfl⟩
theorem i20_1 : Ins1 prog_30_method_9_code 1 (.getfield 32) 3 4 := ⟨by decide +kernel, rfl⟩
theorem i20_4 : Ins1 prog_30_method_9_code 4 (.aload_n 0) 1 5 := ⟨by decide +kernel, rfl⟩
theorem i20_5 : Ins1 prog_30_method_9_code 5 (.getfield 36) 3 8 := ⟨by decide +kernel, rfl⟩
theorem i20_8 : InsB prog_30_method_9_code 8 (.if_icmp .ne 7) 7 11 15 := ⟨by decide +kernel, rfl, by decide, by decide⟩
theorem i20_15 : Ins1 prog_30_method_9_code 15 (.aload_n 0) 1 16 := ⟨by decide +kernel, rfl⟩
theorem i20_16 : Ins1 prog_30_method_9_code 16 (.getfield 28) 3 19 := ⟨by decide +kernel, rfl⟩
theorem i20_19 : Ins1 prog_30_method_9_code 19 (.aload_n 0) 1 20 := ⟨by decide +kernel, rfl⟩
theorem i20_20 : Ins1 prog_30_method_9_code 20 (.dup) 1 21 := ⟨by decide +kernel, rfl⟩
theorem i20_21 : Ins1 prog_30_method_9_code 21 (.getfield 32) 3 24 := ⟨by decide +kernel, rfl⟩
theorem i20_24 : Ins1 prog_30_method_9_code 24 (.dup_x1) 1 25 := ⟨by decide +kernel, rfl⟩
theorem i20_25 : Ins1 prog_30_method_9_code 25 (.iconst 1) 1 26 := ⟨by decide +kernel, rfl⟩
theorem i20_26 : Ins1 prog_30_method_9_code 26 (.iadd) 1 27 := ⟨by decide +kernel, rfl⟩
theorem i20_27 : Ins1 prog_30_method_9_code 27 (.putfield 32) 3 30 := ⟨by decide +kernel, rfl⟩
theorem i20_30 : Ins1 prog_30_method_9_code 30 (.baload) 1 31 := ⟨by decide +kernel, rfl⟩
theorem i20_31 : Ins1 prog_30_method_9_code 31 (.sipush 255) 3 34 := ⟨by decide +kernel, rfl⟩
theorem i20_34 : Ins1 prog_30_method_9_code 34 (.iand) 1 35 := ⟨by decide +kernel, rfl⟩
theorem i20_35 : Ins1 prog_30_method_9_code 35 (.istore_n 2) 1 36 := ⟨by decide +kernel, rfl⟩
theorem i20_36 : Ins1 prog_30_method_9_code 36 (.iload_n 2) 1 37 := ⟨by decide +kernel, rfl⟩
theorem i20_37 : Ins1 prog_30_method_9_code 37 (.invokestatic 90) 3 40 := ⟨by decide +kernel, rfl⟩
theorem i20_40 : Ins1 prog_30_method_9_code 40 (.aload_n 0) 1 41 := ⟨by decide +kernel, rfl⟩
theorem i20_41 : Ins1 prog_30_method_9_code 41 (.invokevirtual 93) 3 44 := ⟨by decide +kernel, rfl⟩
theorem i20_44 : Ins1 prog_30_method_9_code 44 (.iload_n 2) 1 45 := ⟨by decide +kernel, rfl⟩
theorem i20_45 : Ins1 prog_30_method_9_code 45 (.bipush 31) 2 47 := ⟨by decide +kernel, rfl⟩
theorem i20_47 : Ins1 prog_30_method_9_code 47 (.iand) 1 48 := ⟨by decide +kernel, rfl⟩
theorem i20_48 : Ins1 prog_30_method_9_code 48 (.istore_n 3) 1 49 := ⟨by decide +kernel, rfl⟩
theorem i20_49 : Ins1 prog_30_method_9_code 49 (.iload_n 3) 1 50 := ⟨by decide +kernel, rfl⟩
theorem i20_50 : Ins1 prog_30_method_9_code 50 (.bipush 31) 2 52 := ⟨by decide +kernel, rfl⟩
theorem i20_52 : InsB prog_30_method_9_code 52 (.if_icmp .ne 12) 12 55 64 := ⟨by decide +kernel, rfl, by decide, by decide⟩
theorem i20_64 : Ins1 prog_30_method_9_code 64 (.aload_n 0) 1 65 := ⟨by decide +kernel, rfl⟩
theorem i20_65 : Ins1 prog_30_method_9_code 65 (.iload_n 3) 1 66 := ⟨by decide +kernel, rfl⟩
theorem i20_66 : Ins1 prog_30_method_9_code 66 (.invokevirtual 100) 3 69 := ⟨by decide +kernel, rfl⟩
theorem i20_69 : Ins1 prog_30_method_9_code 69 (.lstore 4) 2 71 := ⟨by decide +kernel, rfl⟩
theorem i20_71 : Ins1 prog_30_method_9_code 71 (.iload_n 2) 1 72 := ⟨by decide +kernel, rfl⟩
theorem i20_72 : Ins1 prog_30_method_9_code 72 (.iconst 5) 1 73 := ⟨by decide +kernel, rfl⟩
theorem i20_73 : Ins1 prog_30_method_9_code 73 (.iushr) 1 74 := ⟨by decide +kernel, rfl⟩
theorem i20_74 : decode prog_30_method_9_code 74 = .ok (.tableswitch 151 0 6 #[42, 55, 77, 94, 104, 117, 130], 42) := by decide +kernel
theorem i20_151 : Ins1 prog_30_method_9_code 151 (.aload_n 0) 1 152 := ⟨by decide +kernel, rfl⟩
theorem i20_152 : Ins1 prog_30_method_9_code 152 (.aload_n 0) 1 153 := ⟨by decide +kernel, rfl⟩
theorem i20_153 : Ins1 prog_30_method_9_code 153 (.lload 4) 2 155 := ⟨by decide +kernel, rfl⟩
theorem i20_155 : Ins1 prog_30_method_9_code 155 (.iconst 0) 1 156 := ⟨by decide +kernel, rfl⟩
theorem i20_156 : Ins1 prog_30_method_9_code 156 (.invokevirtual 127) 3 159 := ⟨by decide +kernel, rfl⟩
theorem i20_159 : Ins1 prog_30_method_9_code 159 (.invokevirtual 131) 3 162 := ⟨by decide +kernel, rfl⟩
theorem i20_162 : Ins1 prog_30_method_9_code 162 (.lload 4) 2 164 := ⟨by decide +kernel, rfl⟩
theorem i20_164 : Ins1 prog_30_method_9_code 164 (.invokestatic 135) 3 167 := ⟨by decide +kernel, rfl⟩
theorem i20_167 : Ins1 prog_30_method_9_code 167 (.areturn) 1 168 := ⟨by decide +kernel, rfl⟩
theorem ef_20 (m : MethodId) (r_ : Addr) (p1 : Int32) : entryFrame m #[(.ref r_), (.int p1)] 6 = mkF m 0 #[.val (.ref r_), .val (.int p1), .unset, .unset, .unset, .unset] [] := by first | (simp [entryFrame, mkF, argsToLocals, Value.category]; done) | rfl
theorem pd_18 : parseMethodDescriptor "(I)J" = some ⟨[.int], some .long⟩ := by decide +kernel
theorem pd_19 : parseMethodDescriptor "(JI)J" = some ⟨[.long, .int], some .long⟩ := by decide +kernel
theorem pd_20 : parseMethodDescriptor "(J)[B" = some ⟨[.long], some (.array .byte)⟩ := by decide +kernel
theorem pd_21 : parseMethodDescriptor "([BJ)Lcom/example/ariel/ariel/cbor/CborValue;" = some ⟨[(.array .byte), .long], some (.object "com/example/ariel/ariel/cbor/CborValue")⟩ := by decide +kernel
theorem rm20 (l : Launch) (Z : State) (a0 : Array Value) (hw : ∀ d ∈ tables_1, d.before a0 Z = true) (ws : List Jvm.Cond) (r_ : Addr) (p1 : Int32) (bu nl : Addr) (mi : Int32) (N_ : Nat) (kb : ClassId) (vb : List Value) (h0 : Heap) (n0 : Nat) (Z0 : n0 ≤ h0.size) (Q : own_rd Z h0 r_ [(.ref bu), (.int (own_i 17)), (.int (own_i (17 + (0 + 1 + N_)))), (.int mi), (.int (0 : Int32)), (.ref nl), (.int mi)]) (g_r_ : n0 ≤ r_) (Vb : Arv Z h0 bu kb .byte (41 : Int32) vb (.int (0 : Int32))) (hrb : r_ ≠ bu) (hb17 : vb.getD 17 (.int (0 : Int32)) = .int (own_i (64 + N_))) (hmi : ¬ mi < (1 : Int32)) (hN : N_ < 24) :
    Met1 l (⟨"com/example/ariel/ariel/cbor/CborReader", "item", "(I)Lcom/example/ariel/ariel/cbor/CborValue;"⟩ : MethodName) prog_30_method_9_code 6 (some (.object "com/example/ariel/ariel/cbor/CborValue")) ws ({ frames := 4, cells := 2, slots := 32, locals := 96 } : Room) #[(.ref r_), (.int p1)] Z h0 (RV fun z h L => ∃ t, z = .ref t ∧ Keep h0 h [r_] ∧ Fr n0 L) := by
  refine met_of (plainFor_of_name pn_com_example_ariel_ariel_cbor_CborReader) ?_
  intro p e s m below meth c T0 X0 hx hby hml hZ hown hnm hret hlk e0 es
  have N0 := Fr.nil n0
  refine Gd.cast (ef_20 m r_ p1) ?_
  have K0 : Keep h0 h0 [r_] := Keep.refl _ _
  refine g_aloadN X0 hx hby i20_0 rfl rfl ?_
  refine g_getfield X0 hx hby hZ hown (host := "") (Or.inl (wd_ hw 130 rfl)) Via.refl e0 (own_rat Q 1 (by decide) (v := (.int (own_i 17))) rfl) i20_1 fun T1 X1 e1 => ?_
  refine g_aloadN X1 hx hby i20_4 rfl rfl ?_
  refine g_getfield X1 hx hby hZ hown (host := "") (Or.inl (wd_ hw 132 rfl)) Via.refl e1 (own_rat Q 2 (by decide) (v := (.int (own_i (17 + (0 + 1 + N_))))) rfl) i20_5 fun T2 X2 e2 => ?_
  refine g_icmp_ne X2 hx hby i20_8 (fun c8_3 => ?_) (fun c8_3 => False.elim (absurd ((own_ieq (by omega) (by omega)).mp c8_3) (by omega)))
  refine g_aloadN X2 hx hby i20_15 rfl rfl ?_
  refine g_getfield X2 hx hby hZ hown (host := "") (Or.inl (wd_ hw 128 rfl)) Via.refl e2 (own_rat Q 0 (by decide) (v := (.ref bu)) rfl) i20_16 fun T4 X4 e4 => ?_
  refine g_aloadN X4 hx hby i20_19 rfl rfl ?_
  refine g_dup X4 hx hby i20_20 rfl ?_
  refine g_getfield X4 hx hby hZ hown (host := "") (Or.inl (wd_ hw 130 rfl)) Via.refl e4 (own_rat Q 1 (by decide) (v := (.int (own_i 17))) rfl) i20_21 fun T5 X5 e5 => ?_
  refine g_dup_x1 X5 hx hby i20_24 rfl rfl ?_
  refine g_iconst X5 hx hby i20_25 (z := (1 : Int32)) (by decide) ?_
  refine g_iadd X5 hx hby i20_26 ?_
  rw [show own_i 17 + (1 : Int32) = own_i 18 from by decide]
  refine g_putfield X5 hx hby hZ hown (host := "") (Or.inl (wd_ hw 130 rfl)) Via.refl e5 (own_rat Q 1 (by decide) (v := (.int (own_i 17))) rfl) Q.1 (Or.inl (wd_ hw 131 rfl)) (wd_ hw 114 rfl) (ty := .int) (by decide) rfl rfl i20_27 fun T6 h6 X6 e6 W6 => ?_
  have Q : own_rd Z h6 r_ [(.ref bu), (.int (own_i 18)), (.int (own_i (17 + (0 + 1 + N_)))), (.int mi), (.int (0 : Int32)), (.ref nl), (.int mi)] := Q.put hw (i := 1) (by decide) W6
  have Vb := Vb.other W6 (Ne.symm hrb)
  have Z0 : n0 ≤ h6.size := Nat.le_trans Z0 (Nat.le_of_eq W6.size.symm)
  have N0 := Fr.snoc X6 N0 g_r_
  have K0 := K0.wr W6 (Or.inl (by simp))
  refine g_baload X6 hx hby hZ e6 Vb (i := 17) (by decide) (by decide) (own_tc (by omega)) hb17 i20_30 ?_
  refine g_sipush X6 hx hby i20_31 (z := (255 : Int32)) (by decide) ?_
  refine g_iand X6 hx hby i20_34 ?_
  rw [(own_by1 hN).1]
  refine g_istoreN X6 hx hby i20_35 (l' := #[.val (.ref r_), .val (.int p1), .val (.int (own_i (64 + N_))), .unset, .unset, .unset]) rfl ?_
  refine g_iloadN X6 hx hby i20_36 rfl ?_
  refine g_callS0 X6 hx hby hZ (y := (⟨"com/example/ariel/ariel/cbor/CborReader", "checkInitialByte", "(I)V"⟩ : MethodName)) (argsL := [(.int (own_i (64 + N_)))]) (rest := []) hown (wd_ hw 151 rfl) (wd_ hw 92 rfl) (wd_ hw 40 rfl) (wd_ hw 93 rfl) (by decide) (rm12_s l Z a0 hw [] (own_i (64 + N_)) h6 n0 Z0 (own_by1 hN).2.2.2.1 (by rw [(own_by1 hN).2.1]; exact (own_by1 hN).2.2.2.2.1)) e6 (by rw [hml]; rfl) pd_8 rfl rfl i20_37 (by decide) 0 rfl (by decide) (by decide) (by decide) fun T7 v7 L7 X7 q7 => ?_
  obtain ⟨rfl, e7, N7⟩ := q7
  have N0 := Fr.app N0 N7
  show Gd p e below _ T7 (mkF m 40 #[.val (.ref r_), .val (.int p1), .val (.int (own_i (64 + N_))), .unset, .unset, .unset] [])
  refine g_aloadN X7 hx hby i20_40 rfl rfl ?_
  refine g_callPriv X7 hx hby hZ (y := (⟨"com/example/ariel/ariel/cbor/CborReader", "takeItem", "()V"⟩ : MethodName)) (argsL := []) (rest := []) hown (wd_ hw 152 rfl) (wd_ hw 153 rfl) (wd_ hw 114 rfl) (wd_ hw 154 rfl) (wd_ hw 40 rfl) (wd_ hw 155 rfl) (by decide) (a := r_) Q.1 (rm21 l Z a0 hw [] r_ bu nl (own_i 18) (own_i (17 + (0 + 1 + N_))) mi mi h6 n0 Z0 Q g_r_ (own_mi1 hmi)) e7 (by rw [hml]; rfl) pd_1 rfl rfl i20_41 (by decide) 0 rfl (by decide) (by decide) (by decide) fun T8 v8 L8 X8 q8 => ?_
  obtain ⟨rfl, K8, Q8, N8⟩ := q8
  have N0 := Fr.app N0 N8
  have K0 := K0.trans K8 (fun x hx => Or.inl hx)
  have Vb := Vb.keep K8 (ninS (Ne.symm hrb) nin0)
  have Z0 : n0 ≤ T8.heap.size := Nat.le_trans Z0 K8.1
  show Gd p e below _ T8 (mkF m 44 #[.val (.ref r_), .val (.int p1), .val (.int (own_i (64 + N_))), .unset, .unset, .unset] [])
  refine g_iloadN X8 hx hby i20_44 rfl ?_
  refine g_bipush X8 hx hby i20_45 (z := (31 : Int32)) (by decide) ?_
  refine g_iand X8 hx hby i20_47 ?_
  rw [(own_by1 hN).2.1]
  refine g_istoreN X8 hx hby i20_48 (l' := #[.val (.ref r_), .val (.int p1), .val (.int (own_i (64 + N_))), .val (.int (own_i N_)), .unset, .unset]) rfl ?_
  refine g_iloadN X8 hx hby i20_49 rfl ?_
  refine g_bipush X8 hx hby i20_50 (z := (31 : Int32)) (by decide) ?_
  refine g_icmp_ne X8 hx hby i20_52 (fun c52_9 => ?_) (fun c52_9 => False.elim ((own_by1 hN).2.2.2.2.2 c52_9))
  refine g_aloadN X8 hx hby i20_64 rfl rfl ?_
  refine g_iloadN X8 hx hby i20_65 rfl ?_
  refine g_callPriv X8 hx hby hZ (y := (⟨"com/example/ariel/ariel/cbor/CborReader", "argument", "(I)J"⟩ : MethodName)) (argsL := [(.int (own_i N_))]) (rest := []) hown (wd_ hw 160 rfl) (wd_ hw 161 rfl) (wd_ hw 114 rfl) (wd_ hw 162 rfl) (wd_ hw 40 rfl) (wd_ hw 163 rfl) (by decide) (a := r_) Q8.1 (rm23 l Z a0 hw [] r_ (own_i N_)  N_ T8.heap n0 Z0 rfl hN) rfl (by rw [hml]; rfl) pd_18 rfl rfl i20_66 (by decide) 0 rfl (by decide) (by decide) (by decide) fun T10 v10 L10 X10 q10 => ?_
  obtain ⟨_, rfl, rfl, e10, N10⟩ := q10
  have N0 := Fr.app N0 N10
  show Gd p e below _ T10 (mkF m 69 #[.val (.ref r_), .val (.int p1), .val (.int (own_i (64 + N_))), .val (.int (own_i N_)), .unset, .unset] [(.long (own_l N_))])
  refine g_lstore X10 hx hby i20_69 (l' := #[.val (.ref r_), .val (.int p1), .val (.int (own_i (64 + N_))), .val (.int (own_i N_)), .val (.long (own_l N_)), .second]) rfl ?_
  refine g_iloadN X10 hx hby i20_71 rfl ?_
  refine g_iconst X10 hx hby i20_72 (z := (5 : Int32)) (by decide) ?_
  refine g_iushr X10 hx hby i20_73 ?_
  rw [(own_by1 hN).2.2.1]
  refine g_tableswitch X10 hx hby i20_74 (k := (2 : Int32)) (by decide) (off := 77) (by decide) (by decide) (pt := 151) (by decide) ?_
  refine g_aloadN X10 hx hby i20_151 rfl rfl ?_
  refine g_aloadN X10 hx hby i20_152 rfl rfl ?_
  refine g_lload X10 hx hby i20_153 rfl ?_
  refine g_iconst X10 hx hby i20_155 (z := (0 : Int32)) (by decide) ?_
  refine g_callPriv X10 hx hby hZ (y := (⟨"com/example/ariel/ariel/cbor/CborReader", "present", "(JI)J"⟩ : MethodName)) (argsL := [(.long (own_l N_)), (.int (0 : Int32))]) (rest := [(.ref r_)]) hown (wd_ hw 164 rfl) (wd_ hw 165 rfl) (wd_ hw 114 rfl) (wd_ hw 166 rfl) (wd_ hw 40 rfl) (wd_ hw 167 rfl) (by decide) (a := r_) Q8.1 (rm24 l Z a0 hw [] r_ (own_l N_) (0 : Int32)  bu nl (own_i 18) (own_i (17 + (0 + 1 + N_))) mi (mi - (1 : Int32)) T8.heap n0 Z0 Q8) e10 (by rw [hml]; rfl) pd_19 rfl rfl i20_156 (by decide) 1 rfl (by decide) (by decide) (by decide) fun T11 v11 L11 X11 q11 => ?_
  obtain ⟨_, rfl, rfl, e11, N11⟩ := q11
  have N0 := Fr.app N0 N11
  show Gd p e below _ T11 (mkF m 159 #[.val (.ref r_), .val (.int p1), .val (.int (own_i (64 + N_))), .val (.int (own_i N_)), .val (.long (own_l N_)), .second] [(.long (own_l N_)), (.ref r_)])
  refine g_callPriv X11 hx hby hZ (y := (⟨"com/example/ariel/ariel/cbor/CborReader", "take", "(J)[B"⟩ : MethodName)) (argsL := [(.long (own_l N_))]) (rest := []) hown (wd_ hw 168 rfl) (wd_ hw 169 rfl) (wd_ hw 114 rfl) (wd_ hw 170 rfl) (wd_ hw 40 rfl) (wd_ hw 171 rfl) (by decide) (a := r_) Q8.1 (rm25 l Z a0 hw [] r_ (own_l N_) bu nl mi N_ kb _ (mi - (1 : Int32)) T8.heap n0 Z0 Q8 g_r_ Vb hrb rfl hN) e11 (by rw [hml]; rfl) pd_20 rfl rfl i20_159 (by decide) 0 rfl (by decide) (by decide) (by decide) fun T12 v12 L12 X12 q12 => ?_
  obtain ⟨_, rfl, t12, kt12, vt12, rfl, K12, V12, g_t12, s12, N12⟩ := q12
  have N0 := Fr.app N0 N12
  have ne_bu_t12 : bu ≠ t12 := Nat.ne_of_lt (Nat.lt_of_lt_of_le Vb.lt s12)
  have ne_r__t12 : r_ ≠ t12 := Nat.ne_of_lt (Nat.lt_of_lt_of_le Q8.lt s12)
  have sz_t12 : h0.size ≤ t12 := Nat.le_trans K0.1 s12
  have K0 := K0.trans K12 (fun x hx => Or.inl hx)
  have Vb := Vb.keep K12 (ninS (Ne.symm hrb) nin0)
  have Z0 : n0 ≤ T12.heap.size := Nat.le_trans Z0 K12.1
  show Gd p e below _ T12 (mkF m 162 #[.val (.ref r_), .val (.int p1), .val (.int (own_i (64 + N_))), .val (.int (own_i N_)), .val (.long (own_l N_)), .second] [(.ref t12)])
  refine g_lload X12 hx hby i20_162 rfl ?_
  refine g_callS0 X12 hx hby hZ (y := (⟨"com/example/ariel/ariel/cbor/CborReader", "byteString", "([BJ)Lcom/example/ariel/ariel/cbor/CborValue;"⟩ : MethodName)) (argsL := [(.ref t12), (.long (own_l N_))]) (rest := []) hown (wd_ hw 197 rfl) (wd_ hw 198 rfl) (wd_ hw 40 rfl) (wd_ hw 199 rfl) (by decide) (rm32 l Z a0 hw [] t12 (own_l N_) kt12 _ N_ T12.heap n0 Z0 V12 rfl hN) rfl (by rw [hml]; rfl) pd_21 rfl rfl i20_164 (by decide) 0 rfl (by decide) (by decide) (by decide) fun T13 v13 L13 X13 q13 => ?_
  obtain ⟨_, rfl, t13, rfl, K13, N13⟩ := q13
  have N0 := Fr.app N0 N13
  have K0 := K0.trans K13 (fun x hx => nomatch hx)
  have Vb := Vb.keep K13 nin0
  have V12 := V12.keep K13 nin0
  have Z0 : n0 ≤ T13.heap.size := Nat.le_trans Z0 K13.1
  show Gd p e below _ T13 (mkF m 167 #[.val (.ref r_), .val (.int p1), .val (.int (own_i (64 + N_))), .val (.int (own_i N_)), .val (.long (own_l N_)), .second] [(.ref t13)])
  refine g_areturn X13 hx hby hret rfl (fun _ => rfl) hlk rfl i20_167 (by decide) (by decide) ?_
  exact ⟨_, rfl, t13, rfl, K0, N0⟩
theorem i19_0 : Ins1 prog_30_method_8_code 0 (.aload_n 0) 1 1 := ⟨by decide +kernel, rfl⟩
theorem i19_1 : Ins1 prog_30_method_8_code 1 (.getfield 32) 3 4 := ⟨by decide +kernel, rfl⟩
theorem i19_4 : Ins1 prog_30_method_8_code 4 (.istore_n 1) 1 5 := ⟨by decide +kernel, rfl⟩
theorem i19_5 : Ins1 prog_30_method_8_code 5 (.aload_n 0) 1 6 := ⟨by decide +kernel, rfl⟩
theorem i19_6 : Ins1 prog_30_method_8_code 6 (.aload_n 0) 1 7 := ⟨by decide +kernel, rfl⟩
theorem i19_7 : Ins1 prog_30_method_8_code 7 (.getfield 39) 3 10 := ⟨by decide +kernel, rfl⟩
theorem i19_10 : Ins1 prog_30_method_8_code 10 (.putfield 77) 3 13 := ⟨by decide +kernel, rfl⟩
theorem i19_13 : Ins1 prog_30_method_8_code 13 (.aload_n 0) 1 14 := ⟨by decide +kernel, rfl⟩
theorem i19_14 : Ins1 prog_30_method_8_code 14 (.iconst 0) 1 15 := ⟨by decide +kernel, rfl⟩
theorem i19_15 : Ins1 prog_30_method_8_code 15 (.invokevirtual 80) 3 18 := ⟨by decide +kernel, rfl⟩
theorem i19_18 : Ins1 prog_30_method_8_code 18 (.areturn) 1 19 := ⟨by decide +kernel, rfl⟩
theorem ef_19 (m : MethodId) (r_ : Addr) : entryFrame m #[(.ref r_)] 3 = mkF m 0 #[.val (.ref r_), .unset, .unset] [] := by first | (simp [entryFrame, mkF, argsToLocals, Value.category]; done) | rfl
theorem pd_22 : parseMethodDescriptor "(I)Lcom/example/ariel/ariel/cbor/CborValue;" = some ⟨[.int], some (.object "com/example/ariel/ariel/cbor/CborValue")⟩ := by decide +kernel
theorem rm19 (l : Launch) (Z : State) (a0 : Array Value) (hw : ∀ d ∈ tables_1, d.before a0 Z = true) (ws : List Jvm.Cond) (r_ : Addr) (bu nl : Addr) (mi : Int32) (N_ : Nat) (kb : ClassId) (vb : List Value) (il : Int32) (h0 : Heap) (n0 : Nat) (Z0 : n0 ≤ h0.size) (Q : own_rd Z h0 r_ [(.ref bu), (.int (own_i 17)), (.int (own_i (17 + (0 + 1 + N_)))), (.int mi), (.int (0 : Int32)), (.ref nl), (.int il)]) (g_r_ : n0 ≤ r_) (Vb : Arv Z h0 bu kb .byte (41 : Int32) vb (.int (0 : Int32))) (hrb : r_ ≠ bu) (hb17 : vb.getD 17 (.int (0 : Int32)) = .int (own_i (64 + N_))) (hmi : ¬ mi < (1 : Int32)) (hN : N_ < 24) :
    Met1H l (⟨"com/example/ariel/ariel/cbor/CborReader", "read", "()Lcom/example/ariel/ariel/cbor/CborValue;"⟩ : MethodName) prog_30_method_8_code 3 (some (.object "com/example/ariel/ariel/cbor/CborValue")) [(13, 18, 19, 84)] ws ({ frames := 5, cells := 2, slots := 32, locals := 116 } : Room) #[(.ref r_)] Z h0 (RV fun z h L => ∃ t, z = .ref t ∧ Keep h0 h [r_] ∧ Fr n0 L) := by
  refine met_ofH (plainFor_of_name pn_com_example_ariel_ariel_cbor_CborReader) ?_
  intro p e s m below meth c T0 X0 hx hby hml hZ hown hnm hret hlk e0 es
  have N0 := Fr.nil n0
  refine Gd.cast (ef_19 m r_) ?_
  have K0 : Keep h0 h0 [r_] := Keep.refl _ _
  refine g_aloadN X0 hx hby i19_0 rfl rfl ?_
  refine g_getfield X0 hx hby hZ hown (host := "") (Or.inl (wd_ hw 130 rfl)) Via.refl e0 (own_rat Q 1 (by decide) (v := (.int (own_i 17))) rfl) i19_1 fun T1 X1 e1 => ?_
  refine g_istoreN X1 hx hby i19_4 (l' := #[.val (.ref r_), .val (.int (own_i 17)), .unset]) rfl ?_
  refine g_aloadN X1 hx hby i19_5 rfl rfl ?_
  refine g_aloadN X1 hx hby i19_6 rfl rfl ?_
  refine g_getfield X1 hx hby hZ hown (host := "") (Or.inl (wd_ hw 134 rfl)) Via.refl e1 (own_rat Q 3 (by decide) (v := (.int mi)) rfl) i19_7 fun T2 X2 e2 => ?_
  refine g_putfield X2 hx hby hZ hown (host := "") (Or.inl (wd_ hw 145 rfl)) Via.refl e2 (own_rat Q 6 (by decide) (v := (.int il)) rfl) Q.1 (Or.inl (wd_ hw 146 rfl)) (wd_ hw 114 rfl) (ty := .int) (by decide) rfl rfl i19_10 fun T3 h3 X3 e3 W3 => ?_
  have Q : own_rd Z h3 r_ [(.ref bu), (.int (own_i 17)), (.int (own_i (17 + (0 + 1 + N_)))), (.int mi), (.int (0 : Int32)), (.ref nl), (.int mi)] := Q.put hw (i := 6) (by decide) W3
  have Vb := Vb.other W3 (Ne.symm hrb)
  have Z0 : n0 ≤ h3.size := Nat.le_trans Z0 (Nat.le_of_eq W3.size.symm)
  have N0 := Fr.snoc X3 N0 g_r_
  have K0 := K0.wr W3 (Or.inl (by simp))
  refine g_aloadN X3 hx hby i19_13 rfl rfl ?_
  refine g_iconst X3 hx hby i19_14 (z := (0 : Int32)) (by decide) ?_
  refine g_callPriv X3 hx hby hZ (y := (⟨"com/example/ariel/ariel/cbor/CborReader", "item", "(I)Lcom/example/ariel/ariel/cbor/CborValue;"⟩ : MethodName)) (argsL := [(.int (0 : Int32))]) (rest := []) hown (wd_ hw 147 rfl) (wd_ hw 148 rfl) (wd_ hw 114 rfl) (wd_ hw 149 rfl) (wd_ hw 40 rfl) (wd_ hw 150 rfl) (by decide) (a := r_) Q.1 (rm20 l Z a0 hw [] r_ (0 : Int32) bu nl mi N_ kb _  h3 n0 Z0 Q g_r_ Vb hrb hb17 hmi hN) e3 (by rw [hml]; rfl) pd_22 rfl rfl i19_15 (by decide) 0 rfl (by decide) (by decide) (by decide) fun T4 v4 L4 X4 q4 => ?_
  obtain ⟨_, rfl, t4, rfl, K4, N4⟩ := q4
  have N0 := Fr.app N0 N4
  have K0 := K0.trans K4 (fun x hx => Or.inl hx)
  have Vb := Vb.keep K4 (ninS (Ne.symm hrb) nin0)
  have Z0 : n0 ≤ T4.heap.size := Nat.le_trans Z0 K4.1
  show Gd p e below _ T4 (mkF m 18 #[.val (.ref r_), .val (.int (own_i 17)), .unset] [(.ref t4)])
  refine g_areturn X4 hx hby hret rfl (fun _ => rfl) hlk rfl i19_18 (by decide) (by decide) ?_
  exact ⟨_, rfl, t4, rfl, K0, N0⟩
theorem i9_0 : Ins1 prog_32_method_14_code 0 (.aload_n 0) 1 1 := ⟨by decide +kernel, rfl⟩
theorem i9_1 : Ins1 prog_32_method_14_code 1 (.invokevirtual 166) 3 4 := ⟨by decide +kernel, rfl⟩
theorem i9_4 : Ins1 prog_32_method_14_code 4 (.istore_n 1) 1 5 := ⟨by decide +kernel, rfl⟩
theorem i9_5 : Ins1 prog_32_method_14_code 5 (.aload_n 0) 1 6 := ⟨by decide +kernel, rfl⟩
theorem i9_6 : Ins1 prog_32_method_14_code 6 (.iload_n 1) 1 7 := ⟨by decide +kernel, rfl⟩
theorem i9_7 : InsB prog_32_method_14_code 7 (.ifCond .eq 10) 10 10 17 := ⟨by decide +kernel, rfl, by decide, by decide⟩
theorem i9_10 : Ins1 prog_32_method_14_code 10 (.aload_n 0) 1 11 := ⟨by decide +kernel, rfl⟩
theorem i9_11 : Ins1 prog_32_method_14_code 11 (.getfield 122) 3 14 := ⟨by decide +kernel, rfl⟩
theorem i9_14 : InsB prog_32_method_14_code 14 (.goto 12) 12 17 26 := ⟨by decide +kernel, rfl, by decide, by decide⟩
theorem i9_17 : Ins1 prog_32_method_14_code 17 (.aload_n 0) 1 18 := ⟨by decide +kernel, rfl⟩
theorem i9_18 : Ins1 prog_32_method_14_code 18 (.getfield 80) 3 21 := ⟨by decide +kernel, rfl⟩
theorem i9_21 : Ins1 prog_32_method_14_code 21 (.aload_n 0) 1 22 := ⟨by decide +kernel, rfl⟩
theorem i9_22 : Ins1 prog_32_method_14_code 22 (.getfield 83) 3 25 := ⟨by decide +kernel, rfl⟩
theorem i9_25 : Ins1 prog_32_method_14_code 25 (.isub) 1 26 := ⟨by decide +kernel, rfl⟩
theorem i9_26 : Ins1 prog_32_method_14_code 26 (.aload_n 0) 1 27 := ⟨by decide +kernel, rfl⟩
theorem i9_27 : Ins1 prog_32_method_14_code 27 (.getfield 86) 3 30 := ⟨by decide +kernel, rfl⟩
theorem i9_30 : Ins1 prog_32_method_14_code 30 (.isub) 1 31 := ⟨by decide +kernel, rfl⟩
theorem i9_31 : Ins1 prog_32_method_14_code 31 (.invokevirtual 169) 3 34 := ⟨by decide +kernel, rfl⟩
theorem i9_34 : Ins1 prog_32_method_14_code 34 (.iload_n 1) 1 35 := ⟨by decide +kernel, rfl⟩
theorem i9_35 : InsB prog_32_method_14_code 35 (.ifCond .ne 5) 5 38 40 := ⟨by decide +kernel, rfl, by decide, by decide⟩
theorem i9_38 : Ins1 prog_32_method_14_code 38 (.aconst_null) 1 39 := ⟨by decide +kernel, rfl⟩
theorem i9_39 : Ins1 prog_32_method_14_code 39 (.areturn) 1 40 := ⟨by decide +kernel, rfl⟩
theorem i9_40 : Ins1 prog_32_method_14_code 40 (.aload_n 0) 1 41 := ⟨by decide +kernel, rfl⟩
theorem i9_41 : Ins1 prog_32_method_14_code 41 (.getfield 25) 3 44 := ⟨by decide +kernel, rfl⟩
theorem i9_44 : Ins1 prog_32_method_14_code 44 (.astore_n 2) 1 45 := ⟨by decide +kernel, rfl⟩
theorem i9_45 : Ins1 prog_32_method_14_code 45 (.aload_n 0) 1 46 := ⟨by decide +kernel, rfl⟩
theorem i9_46 : Ins1 prog_32_method_14_code 46 (.getfield 83) 3 49 := ⟨by decide +kernel, rfl⟩
theorem i9_49 : Ins1 prog_32_method_14_code 49 (.istore_n 3) 1 50 := ⟨by decide +kernel, rfl⟩
theorem i9_50 : Ins1 prog_32_method_14_code 50 (.aload_n 0) 1 51 := ⟨by decide +kernel, rfl⟩
theorem i9_51 : Ins1 prog_32_method_14_code 51 (.getfield 122) 3 54 := ⟨by decide +kernel, rfl⟩
theorem i9_54 : Ins1 prog_32_method_14_code 54 (.istore 4) 2 56 := ⟨by decide +kernel, rfl⟩
theorem i9_56 : Ins1 prog_32_method_14_code 56 (.aload_n 0) 1 57 := ⟨by decide +kernel, rfl⟩
theorem i9_57 : Ins1 prog_32_method_14_code 57 (.getfield 172) 3 60 := ⟨by decide +kernel, rfl⟩
theorem i9_60 : InsB prog_32_method_14_code 60 (.ifCond .le 37) 37 63 97 := ⟨by decide +kernel, rfl, by decide, by decide⟩
theorem i9_97 : Ins1 prog_32_method_14_code 97 (.new 61) 3 100 := ⟨by decide +kernel, rfl⟩
theorem i9_100 : Ins1 prog_32_method_14_code 100 (.dup) 1 101 := ⟨by decide +kernel, rfl⟩
theorem i9_101 : Ins1 prog_32_method_14_code 101 (.aload_n 2) 1 102 := ⟨by decide +kernel, rfl⟩
theorem i9_102 : Ins1 prog_32_method_14_code 102 (.iload_n 3) 1 103 := ⟨by decide +kernel, rfl⟩
theorem i9_103 : Ins1 prog_32_method_14_code 103 (.iload 4) 2 105 := ⟨by decide +kernel, rfl⟩
theorem i9_105 : Ins1 prog_32_method_14_code 105 (.aload_n 0) 1 106 := ⟨by decide +kernel, rfl⟩
theorem i9_106 : Ins1 prog_32_method_14_code 106 (.getfield 69) 3 109 := ⟨by decide +kernel, rfl⟩
theorem i9_109 : Ins1 prog_32_method_14_code 109 (.aload_n 0) 1 110 := ⟨by decide +kernel, rfl⟩
theorem i9_110 : Ins1 prog_32_method_14_code 110 (.getfield 72) 3 113 := ⟨by decide +kernel, rfl⟩
theorem i9_113 : Ins1 prog_32_method_14_code 113 (.aload_n 0) 1 114 := ⟨by decide +kernel, rfl⟩
theorem i9_114 : Ins1 prog_32_method_14_code 114 (.getfield 42) 3 117 := ⟨by decide +kernel, rfl⟩
theorem i9_117 : Ins1 prog_32_method_14_code 117 (.invokespecial 182) 3 120 := ⟨by decide +kernel, rfl⟩
theorem i9_120 : Ins1 prog_32_method_14_code 120 (.invokevirtual 185) 3 123 := ⟨by decide +kernel, rfl⟩
theorem i9_123 : Ins1 prog_32_method_14_code 123 (.astore 5) 2 125 := ⟨by decide +kernel, rfl⟩
theorem i9_125 : Ins1 prog_32_method_14_code 125 (.aload_n 0) 1 126 := ⟨by decide +kernel, rfl⟩
theorem i9_126 : Ins1 prog_32_method_14_code 126 (.getstatic 39) 3 129 := ⟨by decide +kernel, rfl⟩
theorem i9_129 : Ins1 prog_32_method_14_code 129 (.putfield 42) 3 132 := ⟨by decide +kernel, rfl⟩
theorem i9_132 : Ins1 prog_32_method_14_code 132 (.aload_n 0) 1 133 := ⟨by decide +kernel, rfl⟩
theorem i9_133 : Ins1 prog_32_method_14_code 133 (.iconst 0) 1 134 := ⟨by decide +kernel, rfl⟩
theorem i9_134 : Ins1 prog_32_method_14_code 134 (.putfield 188) 3 137 := ⟨by decide +kernel, rfl⟩
theorem i9_137 : Ins1 prog_32_method_14_code 137 (.aload_n 0) 1 138 := ⟨by decide +kernel, rfl⟩
theorem i9_138 : Ins1 prog_32_method_14_code 138 (.dup) 1 139 := ⟨by decide +kernel, rfl⟩
theorem i9_139 : Ins1 prog_32_method_14_code 139 (.getfield 83) 3 142 := ⟨by decide +kernel, rfl⟩
theorem i9_142 : Ins1 prog_32_method_14_code 142 (.aload_n 0) 1 143 := ⟨by decide +kernel, rfl⟩
theorem i9_143 : Ins1 prog_32_method_14_code 143 (.getfield 122) 3 146 := ⟨by decide +kernel, rfl⟩
theorem i9_146 : Ins1 prog_32_method_14_code 146 (.iadd) 1 147 := ⟨by decide +kernel, rfl⟩
theorem i9_147 : Ins1 prog_32_method_14_code 147 (.putfield 83) 3 150 := ⟨by decide +kernel, rfl⟩
theorem i9_150 : Ins1 prog_32_method_14_code 150 (.aload_n 0) 1 151 := ⟨by decide +kernel, rfl⟩
theorem i9_151 : Ins1 prog_32_method_14_code 151 (.iconst 0) 1 152 := ⟨by decide +kernel, rfl⟩
theorem i9_152 : Ins1 prog_32_method_14_code 152 (.putfield 122) 3 155 := ⟨by decide +kernel, rfl⟩
theorem i9_155 : Ins1 prog_32_method_14_code 155 (.aload_n 0) 1 156 := ⟨by decide +kernel, rfl⟩
theorem i9_156 : Ins1 prog_32_method_14_code 156 (.getfield 83) 3 159 := ⟨by decide +kernel, rfl⟩
theorem i9_159 : Ins1 prog_32_method_14_code 159 (.aload_n 0) 1 160 := ⟨by decide +kernel, rfl⟩
theorem i9_160 : Ins1 prog_32_method_14_code 160 (.getfield 80) 3 163 := ⟨by decide +kernel, rfl⟩
theorem i9_163 : InsB prog_32_method_14_code 163 (.if_icmp .ne 13) 13 166 176 := ⟨by decide +kernel, rfl, by decide, by decide⟩
theorem i9_166 : Ins1 prog_32_method_14_code 166 (.aload_n 0) 1 167 := ⟨by decide +kernel, rfl⟩
theorem i9_167 : Ins1 prog_32_method_14_code 167 (.iconst 0) 1 168 := ⟨by decide +kernel, rfl⟩
theorem i9_168 : Ins1 prog_32_method_14_code 168 (.putfield 83) 3 171 := ⟨by decide +kernel, rfl⟩
theorem i9_171 : Ins1 prog_32_method_14_code 171 (.aload_n 0) 1 172 := ⟨by decide +kernel, rfl⟩
theorem i9_172 : Ins1 prog_32_method_14_code 172 (.iconst 0) 1 173 := ⟨by decide +kernel, rfl⟩
theorem i9_173 : Ins1 prog_32_method_14_code 173 (.putfield 80) 3 176 := ⟨by decide +kernel, rfl⟩
theorem i9_176 : Ins1 prog_32_method_14_code 176 (.aload 5) 2 178 := ⟨by decide +kernel, rfl⟩
theorem i9_178 : Ins1 prog_32_method_14_code 178 (.areturn) 1 179 := ⟨by decide +kernel, rfl⟩
theorem ef_9_n (m : MethodId) (s_ : Addr) : entryFrame m #[(.ref s_)] 6 = mkF m 0 #[.val (.ref s_), .unset, .unset, .unset, .unset, .unset] [] := by first | (simp [entryFrame, mkF, argsToLocals, Value.category]; done) | rfl
theorem rm9_n (l : Launch) (Z : State) (a0 : Array Value) (hw : ∀ d ∈ tables_1, d.before a0 Z = true) (ws : List Jvm.Cond) (s_ : Addr) (no_ : Addr) (bu ow od ub nl nc : Addr) (sc dp sk mx mi : Int32) (sl kl cl : Int64) (kb kq ku : ClassId) (vb vq vu : List Value) (A_ K_ D_ N_ : Nat) (h0 : Heap) (n0 : Nat) (Z0 : n0 ≤ h0.size) (SA_ : Sta Z Z.heap "com/example/ariel/ariel/cbor/CborSequence" "NOTHING" "[B" (.ref no_)) (SB_ : Sta Z Z.heap "com/example/ariel/ariel/cbor/CborSequence" "NO_LENGTHS" "[J" (.ref nl)) (SC_ : Sta Z Z.heap "com/example/ariel/ariel/cbor/CborSequence" "NO_CUTS" "[I" (.ref nc)) (O : Old Z n0 h0) (Q : own_seq Z h0 s_ [(.ref bu), (.ref ow), (.int (own_i A_)), (.int (own_i (18 + K_))), (.int (own_i 0)), (.ref od), (.ref ub), (.int (own_i 0)), (.long (0 : Int64)), (.long kl), (.int sk), (.long cl), (.ref nl), (.int (0 : Int32)), (.ref nc), (.int (0 : Int32)), (.int (0 : Int32)), (.long (0 : Int64)), (.int (0 : Int32)), (.int mx), (.int mi), (.int (0 : Int32))]) (g_s_ : n0 ≤ s_) (Vb : Arv Z h0 bu kb .byte (41 : Int32) vb (.int (0 : Int32))) (Vq : Arv Z h0 od kq .long (own_i 8) vq (.long (0 : Int64))) (Vu : Arv Z h0 ub ku .int (own_i 8) vu (.int (0 : Int32))) (g_od : n0 ≤ od) (g_ub : n0 ≤ ub) (hsb : s_ ≠ bu) (hsq : s_ ≠ od) (hsu : s_ ≠ ub) (hqu : od ≠ ub) (hbq : bu ≠ od) (hbu : bu ≠ ub) (hbyte : ∀ j, j < 17 → vb.getD j (.int (0 : Int32)) = .int (-97 : Int32)) (hb17 : vb.getD 17 (.int (0 : Int32)) = .int (own_i (64 + N_))) (hA : A_ + D_ = 17) (hN : N_ < 24) (hK : K_ ≤ N_) (hmx : ¬ mx < (41 : Int32)) (hmi : ¬ mi < (1 : Int32)) (hnw : ¬ (D_ = 0 ∧ K_ = N_)) :
    Met1 l (⟨"com/example/ariel/ariel/cbor/CborSequence", "nextWhole", "()Lcom/example/ariel/ariel/cbor/CborValue;"⟩ : MethodName) prog_32_method_14_code 6 (some (.object "com/example/ariel/ariel/cbor/CborValue")) ws ({ frames := 6, cells := 7, slots := 168, locals := 140 } : Room) #[(.ref s_)] Z h0 (RV fun vv h L => ∃ od' ub' kq vq sc' dp' sl' kl' sk' cl', vv.isRef = true ∧ Keep h0 h [s_, od, ub] ∧ own_seq Z h s_ [(.ref bu), (.ref ow), (.int (own_i (own_pa A_ D_ K_ N_))), (.int (own_i (own_pa A_ D_ K_ N_ + own_pp D_ K_ N_))), (.int sc'), (.ref od'), (.ref ub'), (.int dp'), (.long sl'), (.long kl'), (.int sk'), (.long cl'), (.ref nl), (.int (0 : Int32)), (.ref nc), (.int (0 : Int32)), (.int (0 : Int32)), (.long (0 : Int64)), (.int (0 : Int32)), (.int mx), (.int mi), (.int (0 : Int32))] ∧ Arv Z h od' kq .long (own_i (8 + own_lev D_)) vq (.long (0 : Int64)) ∧ n0 ≤ od' ∧ (od' = od ∨ h0.size ≤ od') ∧ s_ ≠ od' ∧ Fr n0 L) := by
  refine met_of (plainFor_of_name pn_com_example_ariel_ariel_cbor_CborSequence) ?_
  intro p e s m below meth c T0 X0 hx hby hml hZ hown hnm hret hlk e0 es
  have N0 := Fr.nil n0
  refine Gd.cast (ef_9_n m s_) ?_
  have K0 : Keep h0 h0 [s_, od, ub] := Keep.refl _ _
  refine g_aloadN X0 hx hby i9_0 rfl rfl ?_
  refine g_callPriv X0 hx hby hZ (y := (⟨"com/example/ariel/ariel/cbor/CborSequence", "scan", "()Z"⟩ : MethodName)) (argsL := []) (rest := []) hown (wd_ hw 75 rfl) (wd_ hw 76 rfl) (wd_ hw 3 rfl) (wd_ hw 77 rfl) (wd_ hw 4 rfl) (wd_ hw 78 rfl) (by decide) (a := s_) Q.1 (rm10 l Z a0 hw [] s_ no_ bu ow od ub nl nc (own_i 0) (own_i 0) sk mx mi (0 : Int64) kl cl kb kq ku _ _ _ A_ K_ D_ N_ h0 n0 Z0 SA_ SB_ SC_ O Q g_s_ Vb Vq Vu g_od g_ub hsb hsq hsu hqu hbq hbu hbyte hb17 hA hN hK hmx) e0 (by rw [hml]; rfl) pd_12 rfl rfl i9_1 (by decide) 0 rfl (by decide) (by decide) (by decide) fun T1 v1 L1 X1 q1 => ?_
  obtain ⟨_, rfl, od1, ub1, kq1, vq1, sl1, kl1, rfl, K1, Q1, Vq1, g_od1, hod1, hsq1, N1⟩ := q1
  have N0 := Fr.app N0 N1
  rw [if_neg hnw]
  have K0 := K0.trans K1 (fun x hx => Or.inl hx)
  have Vb := Vb.keep K1 (ninS (Ne.symm hsb) (ninS hbq (ninS hbu nin0)))
  have O := O.keep K1 (allS g_s_ (allS g_od (allS g_ub all0)))
  have Z0 : n0 ≤ T1.heap.size := Nat.le_trans Z0 K1.1
  show Gd p e below _ T1 (mkF m 4 #[.val (.ref s_), .unset, .unset, .unset, .unset, .unset] [(.int (0 : Int32))])
  refine g_istoreN X1 hx hby i9_4 (l' := #[.val (.ref s_), .val (.int (0 : Int32)), .unset, .unset, .unset, .unset]) rfl ?_
  refine g_aloadN X1 hx hby i9_5 rfl rfl ?_
  refine g_iloadN X1 hx hby i9_6 rfl ?_
  refine g_if_eq X1 hx hby i9_7 (fun c7_2 => ?_) (fun c7_2 => False.elim (absurd c7_2 (by decide)))
  refine g_aloadN X1 hx hby i9_17 rfl rfl ?_
  refine g_getfield X1 hx hby hZ hown (host := "") (Or.inl (wd_ hw 53 rfl)) Via.refl rfl (own_at Q1 3 (by decide) (v := (.int (own_i (18 + K_)))) rfl) i9_18 fun T3 X3 e3 => ?_
  refine g_aloadN X3 hx hby i9_21 rfl rfl ?_
  refine g_getfield X3 hx hby hZ hown (host := "") (Or.inl (wd_ hw 55 rfl)) Via.refl e3 (own_at Q1 2 (by decide) (v := (.int (own_i A_))) rfl) i9_22 fun T4 X4 e4 => ?_
  refine g_isub X4 hx hby i9_25 ?_
  rw [own_isubL (a := A_) (b := 18 + K_) (by omega), show 18 + K_ - A_ = D_ + 1 + K_ from by omega]
  refine g_aloadN X4 hx hby i9_26 rfl rfl ?_
  refine g_getfield X4 hx hby hZ hown (host := "") (Or.inl (wd_ hw 81 rfl)) Via.refl e4 (own_at Q1 16 (by decide) (v := (.int (0 : Int32))) rfl) i9_27 fun T5 X5 e5 => ?_
  refine g_isub X5 hx hby i9_30 ?_
  rw [Int32.sub_zero]
  refine g_callPriv X5 hx hby hZ (y := (⟨"com/example/ariel/ariel/cbor/CborSequence", "checkHeld", "(I)V"⟩ : MethodName)) (argsL := [(.int (own_i (D_ + 1 + K_)))]) (rest := []) hown (wd_ hw 83 rfl) (wd_ hw 84 rfl) (wd_ hw 3 rfl) (wd_ hw 85 rfl) (wd_ hw 4 rfl) (wd_ hw 86 rfl) (by decide) (a := s_) Q1.1 (rm11 l Z a0 hw [] s_ (own_i (D_ + 1 + K_)) bu ow od1 ub1 nl nc (own_i A_) (own_i (18 + K_)) (own_i (D_ + 1 + K_)) (own_i D_) (0 : Int32) mx mi sl1 kl1 (0 : Int64) T1.heap n0 Z0 Q1 (own_41 hmx (by omega))) e5 (by rw [hml]; rfl) pd_8 rfl rfl i9_31 (by decide) 0 rfl (by decide) (by decide) (by decide) fun T6 v6 L6 X6 q6 => ?_
  obtain ⟨rfl, e6, N6⟩ := q6
  have N0 := Fr.app N0 N6
  show Gd p e below _ T6 (mkF m 34 #[.val (.ref s_), .val (.int (0 : Int32)), .unset, .unset, .unset, .unset] [])
  refine g_iloadN X6 hx hby i9_34 rfl ?_
  refine g_if_ne X6 hx hby i9_35 (fun c35_7 => False.elim (absurd c35_7 (by decide))) fun c35_7 => ?_
  refine g_aconst_null X6 hx hby i9_38 ?_
  refine g_areturn X6 hx hby hret rfl (fun _ => rfl) hlk rfl i9_39 (by decide) (by decide) ?_
  rw [e6]
  exact ⟨_, rfl, od1, _, _, _, _, _, _, _, _, _, rfl, K0, (by rw [own_paF hnw, own_ppF hnw, show A_ + (D_ + 1 + K_) = 18 + K_ from by omega]; exact Q1), Vq1, g_od1, hod1, hsq1, N0⟩
theorem pd_23 : parseMethodDescriptor "([BIIIZ[J)V" = some ⟨[(.array .byte), .int, .int, .int, .boolean, (.array .long)], none⟩ := by decide +kernel
theorem pd_24 : parseMethodDescriptor "()Lcom/example/ariel/ariel/cbor/CborValue;" = some ⟨[], some (.object "com/example/ariel/ariel/cbor/CborValue")⟩ := by decide +kernel
theorem rm9_w (l : Launch) (Z : State) (a0 : Array Value) (hw : ∀ d ∈ tables_1, d.before a0 Z = true) (ws : List Jvm.Cond) (s_ : Addr) (no_ : Addr) (bu ow od ub nl nc : Addr) (sc dp sk mx mi : Int32) (sl kl cl : Int64) (kb kq ku : ClassId) (vb vq vu : List Value) (N_ : Nat) (h0 : Heap) (n0 : Nat) (Z0 : n0 ≤ h0.size) (SA_ : Sta Z Z.heap "com/example/ariel/ariel/cbor/CborSequence" "NOTHING" "[B" (.ref no_)) (SB_ : Sta Z Z.heap "com/example/ariel/ariel/cbor/CborSequence" "NO_LENGTHS" "[J" (.ref nl)) (SC_ : Sta Z Z.heap "com/example/ariel/ariel/cbor/CborSequence" "NO_CUTS" "[I" (.ref nc)) (O : Old Z n0 h0) (Q : own_seq Z h0 s_ [(.ref bu), (.ref ow), (.int (own_i 17)), (.int (own_i (18 + N_))), (.int (own_i 0)), (.ref od), (.ref ub), (.int (own_i 0)), (.long (0 : Int64)), (.long kl), (.int sk), (.long cl), (.ref nl), (.int (0 : Int32)), (.ref nc), (.int (0 : Int32)), (.int (0 : Int32)), (.long (0 : Int64)), (.int (0 : Int32)), (.int mx), (.int mi), (.int (0 : Int32))]) (g_s_ : n0 ≤ s_) (Vb : Arv Z h0 bu kb .byte (41 : Int32) vb (.int (0 : Int32))) (Vq : Arv Z h0 od kq .long (own_i 8) vq (.long (0 : Int64))) (Vu : Arv Z h0 ub ku .int (own_i 8) vu (.int (0 : Int32))) (g_od : n0 ≤ od) (g_ub : n0 ≤ ub) (hsb : s_ ≠ bu) (hsq : s_ ≠ od) (hsu : s_ ≠ ub) (hqu : od ≠ ub) (hbq : bu ≠ od) (hbu : bu ≠ ub) (hbyte : ∀ j, j < 17 → vb.getD j (.int (0 : Int32)) = .int (-97 : Int32)) (hb17 : vb.getD 17 (.int (0 : Int32)) = .int (own_i (64 + N_))) (hA : 17 + 0 = 17) (hN : N_ < 24) (hK : N_ ≤ N_) (hmx : ¬ mx < (41 : Int32)) (hmi : ¬ mi < (1 : Int32)) :
    Met1 l (⟨"com/example/ariel/ariel/cbor/CborSequence", "nextWhole", "()Lcom/example/ariel/ariel/cbor/CborValue;"⟩ : MethodName) prog_32_method_14_code 6 (some (.object "com/example/ariel/ariel/cbor/CborValue")) ws ({ frames := 6, cells := 7, slots := 168, locals := 140 } : Room) #[(.ref s_)] Z h0 (RV fun vv h L => ∃ od' ub' kq vq sc' dp' sl' kl' sk' cl', vv.isRef = true ∧ Keep h0 h [s_, od, ub] ∧ own_seq Z h s_ [(.ref bu), (.ref ow), (.int (own_i (own_pa 17 0 N_ N_))), (.int (own_i (own_pa 17 0 N_ N_ + own_pp 0 N_ N_))), (.int sc'), (.ref od'), (.ref ub'), (.int dp'), (.long sl'), (.long kl'), (.int sk'), (.long cl'), (.ref nl), (.int (0 : Int32)), (.ref nc), (.int (0 : Int32)), (.int (0 : Int32)), (.long (0 : Int64)), (.int (0 : Int32)), (.int mx), (.int mi), (.int (0 : Int32))] ∧ Arv Z h od' kq .long (own_i (8 + own_lev 0)) vq (.long (0 : Int64)) ∧ n0 ≤ od' ∧ (od' = od ∨ h0.size ≤ od') ∧ s_ ≠ od' ∧ Fr n0 L) := by
  refine met_of (plainFor_of_name pn_com_example_ariel_ariel_cbor_CborSequence) ?_
  intro p e s m below meth c T0 X0 hx hby hml hZ hown hnm hret hlk e0 es
  have N0 := Fr.nil n0
  refine Gd.cast (ef_9_n m s_) ?_
  have K0 : Keep h0 h0 [s_, od, ub] := Keep.refl _ _
  refine g_aloadN X0 hx hby i9_0 rfl rfl ?_
  refine g_callPriv X0 hx hby hZ (y := (⟨"com/example/ariel/ariel/cbor/CborSequence", "scan", "()Z"⟩ : MethodName)) (argsL := []) (rest := []) hown (wd_ hw 75 rfl) (wd_ hw 76 rfl) (wd_ hw 3 rfl) (wd_ hw 77 rfl) (wd_ hw 4 rfl) (wd_ hw 78 rfl) (by decide) (a := s_) Q.1 (rm10 l Z a0 hw [] s_ no_ bu ow od ub nl nc (own_i 0) (own_i 0) sk mx mi (0 : Int64) kl cl kb kq ku _ _ _ 17 N_ 0 N_ h0 n0 Z0 SA_ SB_ SC_ O Q g_s_ Vb Vq Vu g_od g_ub hsb hsq hsu hqu hbq hbu hbyte hb17 hA hN hK hmx) e0 (by rw [hml]; rfl) pd_12 rfl rfl i9_1 (by decide) 0 rfl (by decide) (by decide) (by decide) fun T1 v1 L1 X1 q1 => ?_
  obtain ⟨_, rfl, od1, ub1, kq1, vq1, sl1, kl1, rfl, K1, Q1, Vq1, g_od1, hod1, hsq1, N1⟩ := q1
  have N0 := Fr.app N0 N1
  rw [if_pos ⟨rfl, rfl⟩]
  have K0 := K0.trans K1 (fun x hx => Or.inl hx)
  have Vb := Vb.keep K1 (ninS (Ne.symm hsb) (ninS hbq (ninS hbu nin0)))
  have O := O.keep K1 (allS g_s_ (allS g_od (allS g_ub all0)))
  have Z0 : n0 ≤ T1.heap.size := Nat.le_trans Z0 K1.1
  show Gd p e below _ T1 (mkF m 4 #[.val (.ref s_), .unset, .unset, .unset, .unset, .unset] [(.int (1 : Int32))])
  refine g_istoreN X1 hx hby i9_4 (l' := #[.val (.ref s_), .val (.int (1 : Int32)), .unset, .unset, .unset, .unset]) rfl ?_
  refine g_aloadN X1 hx hby i9_5 rfl rfl ?_
  refine g_iloadN X1 hx hby i9_6 rfl ?_
  refine g_if_eq X1 hx hby i9_7 (fun c7_2 => False.elim (absurd c7_2 (by decide))) fun c7_2 => ?_
  refine g_aloadN X1 hx hby i9_10 rfl rfl ?_
  refine g_getfield X1 hx hby hZ hown (host := "") (Or.inl (wd_ hw 79 rfl)) Via.refl rfl (own_at Q1 4 (by decide) (v := (.int (own_i (0 + 1 + N_)))) rfl) i9_11 fun T3 X3 e3 => ?_
  refine g_goto X3 hx hby i9_14 ?_
  refine g_aloadN X3 hx hby i9_26 rfl rfl ?_
  refine g_getfield X3 hx hby hZ hown (host := "") (Or.inl (wd_ hw 81 rfl)) Via.refl e3 (own_at Q1 16 (by decide) (v := (.int (0 : Int32))) rfl) i9_27 fun T4 X4 e4 => ?_
  refine g_isub X4 hx hby i9_30 ?_
  rw [Int32.sub_zero]
  refine g_callPriv X4 hx hby hZ (y := (⟨"com/example/ariel/ariel/cbor/CborSequence", "checkHeld", "(I)V"⟩ : MethodName)) (argsL := [(.int (own_i (0 + 1 + N_)))]) (rest := []) hown (wd_ hw 83 rfl) (wd_ hw 84 rfl) (wd_ hw 3 rfl) (wd_ hw 85 rfl) (wd_ hw 4 rfl) (wd_ hw 86 rfl) (by decide) (a := s_) Q1.1 (rm11 l Z a0 hw [] s_ (own_i (0 + 1 + N_)) bu ow od1 ub1 nl nc (own_i 17) (own_i (18 + N_)) (own_i (0 + 1 + N_)) (own_i 0) (0 : Int32) mx mi sl1 kl1 (0 : Int64) T1.heap n0 Z0 Q1 (own_41 hmx (by omega))) e4 (by rw [hml]; rfl) pd_8 rfl rfl i9_31 (by decide) 0 rfl (by decide) (by decide) (by decide) fun T5 v5 L5 X5 q5 => ?_
  obtain ⟨rfl, e5, N5⟩ := q5
  have N0 := Fr.app N0 N5
  show Gd p e below _ T5 (mkF m 34 #[.val (.ref s_), .val (.int (1 : Int32)), .unset, .unset, .unset, .unset] [])
  refine g_iloadN X5 hx hby i9_34 rfl ?_
  refine g_if_ne X5 hx hby i9_35 (fun c35_6 => ?_) (fun c35_6 => False.elim (absurd c35_6 (by decide)))
  refine g_aloadN X5 hx hby i9_40 rfl rfl ?_
  refine g_getfield X5 hx hby hZ hown (host := "") (Or.inl (wd_ hw 20 rfl)) Via.refl e5 (own_at Q1 0 (by decide) (v := (.ref bu)) rfl) i9_41 fun T7 X7 e7 => ?_
  refine g_astoreN X7 hx hby i9_44 rfl (l' := #[.val (.ref s_), .val (.int (1 : Int32)), .val (.ref bu), .unset, .unset, .unset]) rfl ?_
  refine g_aloadN X7 hx hby i9_45 rfl rfl ?_
  refine g_getfield X7 hx hby hZ hown (host := "") (Or.inl (wd_ hw 55 rfl)) Via.refl e7 (own_at Q1 2 (by decide) (v := (.int (own_i 17))) rfl) i9_46 fun T8 X8 e8 => ?_
  refine g_istoreN X8 hx hby i9_49 (l' := #[.val (.ref s_), .val (.int (1 : Int32)), .val (.ref bu), .val (.int (own_i 17)), .unset, .unset]) rfl ?_
  refine g_aloadN X8 hx hby i9_50 rfl rfl ?_
  refine g_getfield X8 hx hby hZ hown (host := "") (Or.inl (wd_ hw 79 rfl)) Via.refl e8 (own_at Q1 4 (by decide) (v := (.int (own_i (0 + 1 + N_)))) rfl) i9_51 fun T9 X9 e9 => ?_
  refine g_istore X9 hx hby i9_54 (l' := #[.val (.ref s_), .val (.int (1 : Int32)), .val (.ref bu), .val (.int (own_i 17)), .val (.int (own_i (0 + 1 + N_))), .unset]) rfl ?_
  refine g_aloadN X9 hx hby i9_56 rfl rfl ?_
  refine g_getfield X9 hx hby hZ hown (host := "") (Or.inl (wd_ hw 111 rfl)) Via.refl e9 (own_at Q1 15 (by decide) (v := (.int (0 : Int32))) rfl) i9_57 fun T10 X10 e10 => ?_
  refine g_if_le X10 hx hby i9_60 (fun c60_11 => ?_) (fun c60_11 => False.elim (absurd c60_11 (by decide)))
  refine g_new X10 hx hby hZ hown (wd_ hw 113 rfl) (wd_ hw 114 rfl) (wd_ hw 40 rfl) e10 i9_97 (by decide) (by decide) fun T12 h12 b12 X12 e12 E12 hb12 A12 D12 => ?_
  have ne_bu_b12 : bu ≠ b12 := Nat.ne_of_lt (Nat.lt_of_lt_of_le Vb.lt (Nat.le_of_eq hb12.symm))
  have ne_s__b12 : s_ ≠ b12 := Nat.ne_of_lt (Nat.lt_of_lt_of_le Q1.lt (Nat.le_of_eq hb12.symm))
  have ne_od1_b12 : od1 ≠ b12 := Nat.ne_of_lt (Nat.lt_of_lt_of_le Vq1.lt (Nat.le_of_eq hb12.symm))
  have g_b12 : n0 ≤ b12 := Nat.le_trans Z0 (Nat.le_of_eq hb12.symm)
  have Vb := Vb.ext E12
  have Q1 := Q1.ext E12
  have Vq1 := Vq1.ext E12
  have O := O.ext E12
  have sz_b12 : h0.size ≤ b12 := Nat.le_trans K0.1 (Nat.le_of_eq hb12.symm)
  have K0 := K0.ext E12
  have Z0 : n0 ≤ h12.size := Nat.le_trans Z0 E12.1
  have F12_source : Fld Z h12 b12 "com/example/ariel/ariel/cbor/CborReader" "source" "[B" .null := D12 (Or.inr (wd_ hw 129 rfl)) (ty := (.array .byte)) (by decide)
  have F12_position : Fld Z h12 b12 "com/example/ariel/ariel/cbor/CborReader" "position" "I" (.int (0 : Int32)) := D12 (Or.inl (wd_ hw 131 rfl)) (ty := .int) (by decide)
  have F12_limit : Fld Z h12 b12 "com/example/ariel/ariel/cbor/CborReader" "limit" "I" (.int (0 : Int32)) := D12 (Or.inr (wd_ hw 133 rfl)) (ty := .int) (by decide)
  have F12_maxItems : Fld Z h12 b12 "com/example/ariel/ariel/cbor/CborReader" "maxItems" "I" (.int (0 : Int32)) := D12 (Or.inr (wd_ hw 135 rfl)) (ty := .int) (by decide)
  have F12_abridged : Fld Z h12 b12 "com/example/ariel/ariel/cbor/CborReader" "abridged" "Z" (.int (0 : Int32)) := D12 (Or.inr (wd_ hw 137 rfl)) (ty := .boolean) (by decide)
  have F12_chunkedLengths : Fld Z h12 b12 "com/example/ariel/ariel/cbor/CborReader" "chunkedLengths" "[J" .null := D12 (Or.inr (wd_ hw 139 rfl)) (ty := (.array .long)) (by decide)
  have F12_itemsLeft : Fld Z h12 b12 "com/example/ariel/ariel/cbor/CborReader" "itemsLeft" "I" (.int (0 : Int32)) := D12 (Or.inl (wd_ hw 146 rfl)) (ty := .int) (by decide)
  have Qr : own_rd Z h12 b12 [.null, (.int (0 : Int32)), (.int (0 : Int32)), (.int (0 : Int32)), (.int (0 : Int32)), .null, (.int (0 : Int32))] := ⟨A12, rfl, fun i hi => match i, hi with | 0, _ => F12_source | 1, _ => F12_position | 2, _ => F12_limit | 3, _ => F12_maxItems | 4, _ => F12_abridged | 5, _ => F12_chunkedLengths | 6, _ => F12_itemsLeft | _ + 7, q => absurd q (by omega)⟩
  refine g_dup X12 hx hby i9_100 rfl ?_
  refine g_aloadN X12 hx hby i9_101 rfl rfl ?_
  refine g_iloadN X12 hx hby i9_102 rfl ?_
  refine g_iload X12 hx hby i9_103 rfl ?_
  refine g_aloadN X12 hx hby i9_105 rfl rfl ?_
  refine g_getfield X12 hx hby hZ hown (host := "") (Or.inl (wd_ hw 44 rfl)) Via.refl e12 (own_at Q1 20 (by decide) (v := (.int mi)) rfl) i9_106 fun T13 X13 e13 => ?_
  refine g_aloadN X13 hx hby i9_109 rfl rfl ?_
  refine g_getfield X13 hx hby hZ hown (host := "") (Or.inl (wd_ hw 46 rfl)) Via.refl e13 (own_at Q1 21 (by decide) (v := (.int (0 : Int32))) rfl) i9_110 fun T14 X14 e14 => ?_
  refine g_aloadN X14 hx hby i9_113 rfl rfl ?_
  refine g_getfield X14 hx hby hZ hown (host := "") (Or.inl (wd_ hw 32 rfl)) Via.refl e14 (own_at Q1 12 (by decide) (v := (.ref nl)) rfl) i9_114 fun T15 X15 e15 => ?_
  refine g_callInit0 X15 hx hby hZ (y := (⟨"com/example/ariel/ariel/cbor/CborReader", "<init>", "([BIIIZ[J)V"⟩ : MethodName)) (argsL := [(.ref bu), (.int (own_i 17)), (.int (own_i (0 + 1 + N_))), (.int mi), (.int (0 : Int32)), (.ref nl)]) (rest := [(.ref b12)]) rfl hown (wd_ hw 115 rfl) (wd_ hw 116 rfl) (wd_ hw 40 rfl) (wd_ hw 117 rfl) (by decide) (a := b12) (rm16 l Z a0 hw [] b12 bu (own_i 17) (own_i (0 + 1 + N_)) mi (0 : Int32) nl kb _ N_ h12 n0 Z0 Qr g_b12 Vb (Ne.symm ne_bu_b12) rfl rfl rfl hmi hN) e15 (by rw [hml]; rfl) pd_23 rfl rfl i9_117 (by decide) 1 rfl (by decide) (by decide) (by decide) fun T16 v16 L16 X16 q16 => ?_
  obtain ⟨rfl, K16, Q16, N16⟩ := q16
  have N0 := Fr.app N0 N16
  have K0 := K0.trans K16 (fun x hx => by simp at hx; subst hx; exact Or.inr sz_b12)
  have Vb := Vb.keep K16 (ninS ne_bu_b12 nin0)
  have Q1 := Q1.keep K16 (ninS ne_s__b12 nin0)
  have Vq1 := Vq1.keep K16 (ninS ne_od1_b12 nin0)
  have O := O.keep K16 (allS g_b12 all0)
  have Z0 : n0 ≤ T16.heap.size := Nat.le_trans Z0 K16.1
  show Gd p e below _ T16 (mkF m 120 #[.val (.ref s_), .val (.int (1 : Int32)), .val (.ref bu), .val (.int (own_i 17)), .val (.int (own_i (0 + 1 + N_))), .unset] [(.ref b12)])
  refine g_callVH X16 hx hby hZ (y0 := (⟨"com/example/ariel/ariel/cbor/CborReader", "read", "()Lcom/example/ariel/ariel/cbor/CborValue;"⟩ : MethodName)) (y := (⟨"com/example/ariel/ariel/cbor/CborReader", "read", "()Lcom/example/ariel/ariel/cbor/CborValue;"⟩ : MethodName)) (argsL := []) (rest := []) hown (wd_ hw 140 rfl) (wd_ hw 141 rfl) (notFace_of_selects (args := #[]) (mvT hZ (wd_ hw 143 rfl))) (wd_ hw 143 rfl) (wd_ hw 142 rfl) (wd_ hw 40 rfl) (wd_ hw 144 rfl) (by decide) (a := b12) Q16.1 (rm19 l Z a0 hw [] b12 bu nl mi N_ kb _ (0 : Int32) T16.heap n0 Z0 Q16 g_b12 Vb (Ne.symm ne_bu_b12) hb17 hmi hN) rfl (by rw [hml]; rfl) pd_24 rfl rfl i9_120 (by decide) 0 rfl (by decide) (by decide) (by decide) fun T17 v17 L17 X17 q17 => ?_
  obtain ⟨_, rfl, t17, rfl, K17, N17⟩ := q17
  have N0 := Fr.app N0 N17
  have K0 := K0.trans K17 (fun x hx => by simp at hx; subst hx; exact Or.inr sz_b12)
  have Vb := Vb.keep K17 (ninS ne_bu_b12 nin0)
  have Q1 := Q1.keep K17 (ninS ne_s__b12 nin0)
  have Vq1 := Vq1.keep K17 (ninS ne_od1_b12 nin0)
  have O := O.keep K17 (allS g_b12 all0)
  have Z0 : n0 ≤ T17.heap.size := Nat.le_trans Z0 K17.1
  show Gd p e below _ T17 (mkF m 123 #[.val (.ref s_), .val (.int (1 : Int32)), .val (.ref bu), .val (.int (own_i 17)), .val (.int (own_i (0 + 1 + N_))), .unset] [(.ref t17)])
  refine g_astore X17 hx hby i9_123 rfl (l' := #[.val (.ref s_), .val (.int (1 : Int32)), .val (.ref bu), .val (.int (own_i 17)), .val (.int (own_i (0 + 1 + N_))), .val (.ref t17)]) rfl ?_
  refine g_aloadN X17 hx hby i9_125 rfl rfl ?_
  refine g_getstatic X17 hx hby hZ hown (host := "") (Or.inl (wd_ hw 30 rfl)) Via.refl rfl (SB_.ext O.2) i9_126 fun T18 X18 e18 => ?_
  refine g_putfield X18 hx hby hZ hown (host := "") (Or.inl (wd_ hw 32 rfl)) Via.refl e18 (own_at Q1 12 (by decide) (v := (.ref nl)) rfl) Q1.1 (Or.inl (wd_ hw 33 rfl)) (wd_ hw 3 rfl) (ty := (.array .long)) (by decide) rfl rfl i9_129 fun T19 h19 X19 e19 W19 => ?_
  have Q1 : own_seq Z h19 s_ [(.ref bu), (.ref ow), (.int (own_i 17)), (.int (own_i (18 + N_))), (.int (own_i (0 + 1 + N_))), (.ref od1), (.ref ub1), (.int (own_i 0)), (.long sl1), (.long kl1), (.int (0 : Int32)), (.long (0 : Int64)), (.ref nl), (.int (0 : Int32)), (.ref nc), (.int (0 : Int32)), (.int (0 : Int32)), (.long (0 : Int64)), (.int (0 : Int32)), (.int mx), (.int mi), (.int (0 : Int32))] := Q1.put hw (i := 12) (by decide) W19
  have Vb := Vb.other W19 (Ne.symm hsb)
  have Vq1 := Vq1.other W19 (Ne.symm hsq1)
  have O := O.wr W19 g_s_
  have Z0 : n0 ≤ h19.size := Nat.le_trans Z0 (Nat.le_of_eq W19.size.symm)
  have N0 := Fr.snoc X19 N0 g_s_
  have K0 := K0.wr W19 (Or.inl (by simp))
  refine g_aloadN X19 hx hby i9_132 rfl rfl ?_
  refine g_iconst X19 hx hby i9_133 (z := (0 : Int32)) (by decide) ?_
  refine g_putfield X19 hx hby hZ hown (host := "") (Or.inl (wd_ hw 214 rfl)) Via.refl e19 (own_at Q1 13 (by decide) (v := (.int (0 : Int32))) rfl) Q1.1 (Or.inl (wd_ hw 215 rfl)) (wd_ hw 3 rfl) (ty := .int) (by decide) rfl rfl i9_134 fun T20 h20 X20 e20 W20 => ?_
  have Q1 : own_seq Z h20 s_ [(.ref bu), (.ref ow), (.int (own_i 17)), (.int (own_i (18 + N_))), (.int (own_i (0 + 1 + N_))), (.ref od1), (.ref ub1), (.int (own_i 0)), (.long sl1), (.long kl1), (.int (0 : Int32)), (.long (0 : Int64)), (.ref nl), (.int (0 : Int32)), (.ref nc), (.int (0 : Int32)), (.int (0 : Int32)), (.long (0 : Int64)), (.int (0 : Int32)), (.int mx), (.int mi), (.int (0 : Int32))] := Q1.put hw (i := 13) (by decide) W20
  have Vb := Vb.other W20 (Ne.symm hsb)
  have Vq1 := Vq1.other W20 (Ne.symm hsq1)
  have O := O.wr W20 g_s_
  have Z0 : n0 ≤ h20.size := Nat.le_trans Z0 (Nat.le_of_eq W20.size.symm)
  have N0 := Fr.snoc X20 N0 g_s_
  have K0 := K0.wr W20 (Or.inl (by simp))
  refine g_aloadN X20 hx hby i9_137 rfl rfl ?_
  refine g_dup X20 hx hby i9_138 rfl ?_
  refine g_getfield X20 hx hby hZ hown (host := "") (Or.inl (wd_ hw 55 rfl)) Via.refl e20 (own_at Q1 2 (by decide) (v := (.int (own_i 17))) rfl) i9_139 fun T21 X21 e21 => ?_
  refine g_aloadN X21 hx hby i9_142 rfl rfl ?_
  refine g_getfield X21 hx hby hZ hown (host := "") (Or.inl (wd_ hw 79 rfl)) Via.refl e21 (own_at Q1 4 (by decide) (v := (.int (own_i (0 + 1 + N_)))) rfl) i9_143 fun T22 X22 e22 => ?_
  refine g_iadd X22 hx hby i9_146 ?_
  rw [own_iadd]
  refine g_putfield X22 hx hby hZ hown (host := "") (Or.inl (wd_ hw 55 rfl)) Via.refl e22 (own_at Q1 2 (by decide) (v := (.int (own_i 17))) rfl) Q1.1 (Or.inl (wd_ hw 56 rfl)) (wd_ hw 3 rfl) (ty := .int) (by decide) rfl rfl i9_147 fun T23 h23 X23 e23 W23 => ?_
  have Q1 : own_seq Z h23 s_ [(.ref bu), (.ref ow), (.int (own_i (17 + (0 + 1 + N_)))), (.int (own_i (18 + N_))), (.int (own_i (0 + 1 + N_))), (.ref od1), (.ref ub1), (.int (own_i 0)), (.long sl1), (.long kl1), (.int (0 : Int32)), (.long (0 : Int64)), (.ref nl), (.int (0 : Int32)), (.ref nc), (.int (0 : Int32)), (.int (0 : Int32)), (.long (0 : Int64)), (.int (0 : Int32)), (.int mx), (.int mi), (.int (0 : Int32))] := Q1.put hw (i := 2) (by decide) W23
  have Vb := Vb.other W23 (Ne.symm hsb)
  have Vq1 := Vq1.other W23 (Ne.symm hsq1)
  have O := O.wr W23 g_s_
  have Z0 : n0 ≤ h23.size := Nat.le_trans Z0 (Nat.le_of_eq W23.size.symm)
  have N0 := Fr.snoc X23 N0 g_s_
  have K0 := K0.wr W23 (Or.inl (by simp))
  refine g_aloadN X23 hx hby i9_150 rfl rfl ?_
  refine g_iconst X23 hx hby i9_151 (z := (0 : Int32)) (by decide) ?_
  refine g_putfield X23 hx hby hZ hown (host := "") (Or.inl (wd_ hw 79 rfl)) Via.refl e23 (own_at Q1 4 (by decide) (v := (.int (own_i (0 + 1 + N_)))) rfl) Q1.1 (Or.inl (wd_ hw 80 rfl)) (wd_ hw 3 rfl) (ty := .int) (by decide) rfl rfl i9_152 fun T24 h24 X24 e24 W24 => ?_
  have Q1 : own_seq Z h24 s_ [(.ref bu), (.ref ow), (.int (own_i (17 + (0 + 1 + N_)))), (.int (own_i (18 + N_))), (.int (0 : Int32)), (.ref od1), (.ref ub1), (.int (own_i 0)), (.long sl1), (.long kl1), (.int (0 : Int32)), (.long (0 : Int64)), (.ref nl), (.int (0 : Int32)), (.ref nc), (.int (0 : Int32)), (.int (0 : Int32)), (.long (0 : Int64)), (.int (0 : Int32)), (.int mx), (.int mi), (.int (0 : Int32))] := Q1.put hw (i := 4) (by decide) W24
  have Vb := Vb.other W24 (Ne.symm hsb)
  have Vq1 := Vq1.other W24 (Ne.symm hsq1)
  have O := O.wr W24 g_s_
  have Z0 : n0 ≤ h24.size := Nat.le_trans Z0 (Nat.le_of_eq W24.size.symm)
  have N0 := Fr.snoc X24 N0 g_s_
  have K0 := K0.wr W24 (Or.inl (by simp))
  refine g_aloadN X24 hx hby i9_155 rfl rfl ?_
  refine g_getfield X24 hx hby hZ hown (host := "") (Or.inl (wd_ hw 55 rfl)) Via.refl e24 (own_at Q1 2 (by decide) (v := (.int (own_i (17 + (0 + 1 + N_))))) rfl) i9_156 fun T25 X25 e25 => ?_
  refine g_aloadN X25 hx hby i9_159 rfl rfl ?_
  refine g_getfield X25 hx hby hZ hown (host := "") (Or.inl (wd_ hw 53 rfl)) Via.refl e25 (own_at Q1 3 (by decide) (v := (.int (own_i (18 + N_)))) rfl) i9_160 fun T26 X26 e26 => ?_
  refine g_icmp_ne X26 hx hby i9_163 (fun c163_27 => False.elim (c163_27 (congrArg own_i (by omega)))) fun c163_27 => ?_
  refine g_aloadN X26 hx hby i9_166 rfl rfl ?_
  refine g_iconst X26 hx hby i9_167 (z := (0 : Int32)) (by decide) ?_
  refine g_putfield X26 hx hby hZ hown (host := "") (Or.inl (wd_ hw 55 rfl)) Via.refl e26 (own_at Q1 2 (by decide) (v := (.int (own_i (17 + (0 + 1 + N_))))) rfl) Q1.1 (Or.inl (wd_ hw 56 rfl)) (wd_ hw 3 rfl) (ty := .int) (by decide) rfl rfl i9_168 fun T28 h28 X28 e28 W28 => ?_
  have Q1 : own_seq Z h28 s_ [(.ref bu), (.ref ow), (.int (0 : Int32)), (.int (own_i (18 + N_))), (.int (0 : Int32)), (.ref od1), (.ref ub1), (.int (own_i 0)), (.long sl1), (.long kl1), (.int (0 : Int32)), (.long (0 : Int64)), (.ref nl), (.int (0 : Int32)), (.ref nc), (.int (0 : Int32)), (.int (0 : Int32)), (.long (0 : Int64)), (.int (0 : Int32)), (.int mx), (.int mi), (.int (0 : Int32))] := Q1.put hw (i := 2) (by decide) W28
  have Vb := Vb.other W28 (Ne.symm hsb)
  have Vq1 := Vq1.other W28 (Ne.symm hsq1)
  have O := O.wr W28 g_s_
  have Z0 : n0 ≤ h28.size := Nat.le_trans Z0 (Nat.le_of_eq W28.size.symm)
  have N0 := Fr.snoc X28 N0 g_s_
  have K0 := K0.wr W28 (Or.inl (by simp))
  refine g_aloadN X28 hx hby i9_171 rfl rfl ?_
  refine g_iconst X28 hx hby i9_172 (z := (0 : Int32)) (by decide) ?_
  refine g_putfield X28 hx hby hZ hown (host := "") (Or.inl (wd_ hw 53 rfl)) Via.refl e28 (own_at Q1 3 (by decide) (v := (.int (own_i (18 + N_)))) rfl) Q1.1 (Or.inl (wd_ hw 54 rfl)) (wd_ hw 3 rfl) (ty := .int) (by decide) rfl rfl i9_173 fun T29 h29 X29 e29 W29 => ?_
  have Q1 : own_seq Z h29 s_ [(.ref bu), (.ref ow), (.int (0 : Int32)), (.int (0 : Int32)), (.int (0 : Int32)), (.ref od1), (.ref ub1), (.int (own_i 0)), (.long sl1), (.long kl1), (.int (0 : Int32)), (.long (0 : Int64)), (.ref nl), (.int (0 : Int32)), (.ref nc), (.int (0 : Int32)), (.int (0 : Int32)), (.long (0 : Int64)), (.int (0 : Int32)), (.int mx), (.int mi), (.int (0 : Int32))] := Q1.put hw (i := 3) (by decide) W29
  have Vb := Vb.other W29 (Ne.symm hsb)
  have Vq1 := Vq1.other W29 (Ne.symm hsq1)
  have O := O.wr W29 g_s_
  have Z0 : n0 ≤ h29.size := Nat.le_trans Z0 (Nat.le_of_eq W29.size.symm)
  have N0 := Fr.snoc X29 N0 g_s_
  have K0 := K0.wr W29 (Or.inl (by simp))
  refine g_aload X29 hx hby i9_176 rfl rfl ?_
  refine g_areturn X29 hx hby hret rfl (fun _ => rfl) hlk rfl i9_178 (by decide) (by decide) ?_
  rw [e29]
  exact ⟨_, rfl, od1, _, _, _, _, _, _, _, _, _, rfl, K0, (by rw [own_paT ⟨rfl, rfl⟩, own_ppT ⟨rfl, rfl⟩]; exact Q1), Vq1, g_od1, hod1, hsq1, N0⟩
theorem rm9_u (l : Launch) (Z : State) (a0 : Array Value) (hw : ∀ d ∈ tables_1, d.before a0 Z = true) (ws : List Jvm.Cond) (s_ : Addr) (no_ : Addr) (bu ow od ub nl nc : Addr) (sc dp sk mx mi : Int32) (sl kl cl : Int64) (kb kq ku : ClassId) (vb vq vu : List Value) (A_ K_ D_ N_ : Nat) (h0 : Heap) (n0 : Nat) (Z0 : n0 ≤ h0.size) (SA_ : Sta Z Z.heap "com/example/ariel/ariel/cbor/CborSequence" "NOTHING" "[B" (.ref no_)) (SB_ : Sta Z Z.heap "com/example/ariel/ariel/cbor/CborSequence" "NO_LENGTHS" "[J" (.ref nl)) (SC_ : Sta Z Z.heap "com/example/ariel/ariel/cbor/CborSequence" "NO_CUTS" "[I" (.ref nc)) (O : Old Z n0 h0) (Q : own_seq Z h0 s_ [(.ref bu), (.ref ow), (.int (own_i A_)), (.int (own_i (18 + K_))), (.int (own_i 0)), (.ref od), (.ref ub), (.int (own_i 0)), (.long (0 : Int64)), (.long kl), (.int sk), (.long cl), (.ref nl), (.int (0 : Int32)), (.ref nc), (.int (0 : Int32)), (.int (0 : Int32)), (.long (0 : Int64)), (.int (0 : Int32)), (.int mx), (.int mi), (.int (0 : Int32))]) (g_s_ : n0 ≤ s_) (Vb : Arv Z h0 bu kb .byte (41 : Int32) vb (.int (0 : Int32))) (Vq : Arv Z h0 od kq .long (own_i 8) vq (.long (0 : Int64))) (Vu : Arv Z h0 ub ku .int (own_i 8) vu (.int (0 : Int32))) (g_od : n0 ≤ od) (g_ub : n0 ≤ ub) (hsb : s_ ≠ bu) (hsq : s_ ≠ od) (hsu : s_ ≠ ub) (hqu : od ≠ ub) (hbq : bu ≠ od) (hbu : bu ≠ ub) (hbyte : ∀ j, j < 17 → vb.getD j (.int (0 : Int32)) = .int (-97 : Int32)) (hb17 : vb.getD 17 (.int (0 : Int32)) = .int (own_i (64 + N_))) (hA : A_ + D_ = 17) (hN : N_ < 24) (hK : K_ ≤ N_) (hmx : ¬ mx < (41 : Int32)) (hmi : ¬ mi < (1 : Int32)) :
    Met1 l (⟨"com/example/ariel/ariel/cbor/CborSequence", "nextWhole", "()Lcom/example/ariel/ariel/cbor/CborValue;"⟩ : MethodName) prog_32_method_14_code 6 (some (.object "com/example/ariel/ariel/cbor/CborValue")) ws ({ frames := 6, cells := 7, slots := 168, locals := 140 } : Room) #[(.ref s_)] Z h0 (RV fun vv h L => ∃ od' ub' kq vq sc' dp' sl' kl' sk' cl', vv.isRef = true ∧ Keep h0 h [s_, od, ub] ∧ own_seq Z h s_ [(.ref bu), (.ref ow), (.int (own_i (own_pa A_ D_ K_ N_))), (.int (own_i (own_pa A_ D_ K_ N_ + own_pp D_ K_ N_))), (.int sc'), (.ref od'), (.ref ub'), (.int dp'), (.long sl'), (.long kl'), (.int sk'), (.long cl'), (.ref nl), (.int (0 : Int32)), (.ref nc), (.int (0 : Int32)), (.int (0 : Int32)), (.long (0 : Int64)), (.int (0 : Int32)), (.int mx), (.int mi), (.int (0 : Int32))] ∧ Arv Z h od' kq .long (own_i (8 + own_lev D_)) vq (.long (0 : Int64)) ∧ n0 ≤ od' ∧ (od' = od ∨ h0.size ≤ od') ∧ s_ ≠ od' ∧ Fr n0 L) := by
  by_cases hnw : D_ = 0 ∧ K_ = N_
  · obtain ⟨rfl, rfl⟩ := hnw
    obtain rfl : A_ = 17 := by omega
    exact rm9_w l Z a0 hw ws s_ no_ bu ow od ub nl nc sc dp sk mx mi sl kl cl kb kq ku vb vq vu K_ h0 n0 Z0 SA_ SB_ SC_ O Q g_s_ Vb Vq Vu g_od g_ub hsb hsq hsu hqu hbq hbu hbyte hb17 hA hN hK hmx hmi
  · exact rm9_n l Z a0 hw ws s_ no_ bu ow od ub nl nc sc dp sk mx mi sl kl cl kb kq ku vb vq vu A_ K_ D_ N_ h0 n0 Z0 SA_ SB_ SC_ O Q g_s_ Vb Vq Vu g_od g_ub hsb hsq hsu hqu hbq hbu hbyte hb17 hA hN hK hmx hmi hnw
theorem i7_0 : Ins1 prog_32_method_9_code 0 (.aload_n 0) 1 1 := ⟨by decide +kernel, rfl⟩
theorem i7_1 : Ins1 prog_32_method_9_code 1 (.invokevirtual 109) 3 4 := ⟨by decide +kernel, rfl⟩
theorem i7_4 : InsB prog_32_method_9_code 4 (.ifCond .eq 13) 13 7 17 := ⟨by decide +kernel, rfl, by decide, by decide⟩
theorem i7_17 : Ins1 prog_32_method_9_code 17 (.aload_n 0) 1 18 := ⟨by decide +kernel, rfl⟩
theorem i7_18 : Ins1 prog_32_method_9_code 18 (.invokevirtual 118) 3 21 := ⟨by decide +kernel, rfl⟩
theorem i7_21 : Ins1 prog_32_method_9_code 21 (.areturn) 1 22 := ⟨by decide +kernel, rfl⟩
theorem ef_7 (m : MethodId) (s_ : Addr) : entryFrame m #[(.ref s_)] 1 = mkF m 0 #[.val (.ref s_)] [] := by first | (simp [entryFrame, mkF, argsToLocals, Value.category]; done) | rfl
theorem rm7 (l : Launch) (Z : State) (a0 : Array Value) (hw : ∀ d ∈ tables_1, d.before a0 Z = true) (ws : List Jvm.Cond) (s_ : Addr) (no_ : Addr) (bu ow od ub nl nc : Addr) (sc dp sk mx mi : Int32) (sl kl cl : Int64) (kb kq ku : ClassId) (vb vq vu : List Value) (A_ K_ D_ N_ : Nat) (h0 : Heap) (n0 : Nat) (Z0 : n0 ≤ h0.size) (SA_ : Sta Z Z.heap "com/example/ariel/ariel/cbor/CborSequence" "NOTHING" "[B" (.ref no_)) (SB_ : Sta Z Z.heap "com/example/ariel/ariel/cbor/CborSequence" "NO_LENGTHS" "[J" (.ref nl)) (SC_ : Sta Z Z.heap "com/example/ariel/ariel/cbor/CborSequence" "NO_CUTS" "[I" (.ref nc)) (O : Old Z n0 h0) (Q : own_seq Z h0 s_ [(.ref bu), (.ref ow), (.int (own_i A_)), (.int (own_i (18 + K_))), (.int (own_i 0)), (.ref od), (.ref ub), (.int (own_i 0)), (.long (0 : Int64)), (.long kl), (.int sk), (.long cl), (.ref nl), (.int (0 : Int32)), (.ref nc), (.int (0 : Int32)), (.int (0 : Int32)), (.long (0 : Int64)), (.int (0 : Int32)), (.int mx), (.int mi), (.int (0 : Int32))]) (g_s_ : n0 ≤ s_) (Vb : Arv Z h0 bu kb .byte (41 : Int32) vb (.int (0 : Int32))) (Vq : Arv Z h0 od kq .long (own_i 8) vq (.long (0 : Int64))) (Vu : Arv Z h0 ub ku .int (own_i 8) vu (.int (0 : Int32))) (g_od : n0 ≤ od) (g_ub : n0 ≤ ub) (hsb : s_ ≠ bu) (hsq : s_ ≠ od) (hsu : s_ ≠ ub) (hqu : od ≠ ub) (hbq : bu ≠ od) (hbu : bu ≠ ub) (hbyte : ∀ j, j < 17 → vb.getD j (.int (0 : Int32)) = .int (-97 : Int32)) (hb17 : vb.getD 17 (.int (0 : Int32)) = .int (own_i (64 + N_))) (hA : A_ + D_ = 17) (hN : N_ < 24) (hK : K_ ≤ N_) (hmx : ¬ mx < (41 : Int32)) (hmi : ¬ mi < (1 : Int32)) :
    Met1 l (⟨"com/example/ariel/ariel/cbor/CborSequence", "next", "()Lcom/example/ariel/ariel/cbor/CborValue;"⟩ : MethodName) prog_32_method_9_code 1 (some (.object "com/example/ariel/ariel/cbor/CborValue")) ws ({ frames := 7, cells := 7, slots := 168, locals := 160 } : Room) #[(.ref s_)] Z h0 (RV fun vv h L => ∃ od' ub' kq vq sc' dp' sl' kl' sk' cl', vv.isRef = true ∧ Keep h0 h [s_, od, ub] ∧ own_seq Z h s_ [(.ref bu), (.ref ow), (.int (own_i (own_pa A_ D_ K_ N_))), (.int (own_i (own_pa A_ D_ K_ N_ + own_pp D_ K_ N_))), (.int sc'), (.ref od'), (.ref ub'), (.int dp'), (.long sl'), (.long kl'), (.int sk'), (.long cl'), (.ref nl), (.int (0 : Int32)), (.ref nc), (.int (0 : Int32)), (.int (0 : Int32)), (.long (0 : Int64)), (.int (0 : Int32)), (.int mx), (.int mi), (.int (0 : Int32))] ∧ Arv Z h od' kq .long (own_i (8 + own_lev D_)) vq (.long (0 : Int64)) ∧ n0 ≤ od' ∧ (od' = od ∨ h0.size ≤ od') ∧ s_ ≠ od' ∧ Fr n0 L) := by
  refine met_of (plainFor_of_name pn_com_example_ariel_ariel_cbor_CborSequence) ?_
  intro p e s m below meth c T0 X0 hx hby hml hZ hown hnm hret hlk e0 es
  have N0 := Fr.nil n0
  refine Gd.cast (ef_7 m s_) ?_
  refine g_aloadN X0 hx hby i7_0 rfl rfl ?_
  refine g_callV0 X0 hx hby hZ (y0 := (⟨"com/example/ariel/ariel/cbor/CborSequence", "inByteString", "()Z"⟩ : MethodName)) (y := (⟨"com/example/ariel/ariel/cbor/CborSequence", "inByteString", "()Z"⟩ : MethodName)) (argsL := []) (rest := []) hown (wd_ hw 62 rfl) (wd_ hw 63 rfl) (notFace_of_selects (args := #[]) (mvT hZ (wd_ hw 65 rfl))) (wd_ hw 65 rfl) (wd_ hw 64 rfl) (wd_ hw 4 rfl) (wd_ hw 66 rfl) (by decide) (a := s_) Q.1 (rm8 l Z a0 hw [] s_ bu ow od ub nl nc (own_i A_) (own_i (18 + K_)) (own_i 0) (own_i 0) sk mx mi (0 : Int64) kl cl h0 n0 Z0 Q) e0 (by rw [hml]; rfl) pd_12 rfl rfl i7_1 (by decide) 0 rfl (by decide) (by decide) (by decide) fun T1 v1 L1 X1 q1 => ?_
  obtain ⟨_, rfl, rfl, e1, N1⟩ := q1
  have N0 := Fr.app N0 N1
  show Gd p e below _ T1 (mkF m 4 #[.val (.ref s_)] [(.int (0 : Int32))])
  refine g_if_eq X1 hx hby i7_4 (fun c4_2 => ?_) (fun c4_2 => False.elim (absurd c4_2 (by decide)))
  refine g_aloadN X1 hx hby i7_17 rfl rfl ?_
  refine g_callPriv X1 hx hby hZ (y := (⟨"com/example/ariel/ariel/cbor/CborSequence", "nextWhole", "()Lcom/example/ariel/ariel/cbor/CborValue;"⟩ : MethodName)) (argsL := []) (rest := []) hown (wd_ hw 71 rfl) (wd_ hw 72 rfl) (wd_ hw 3 rfl) (wd_ hw 73 rfl) (wd_ hw 4 rfl) (wd_ hw 74 rfl) (by decide) (a := s_) Q.1 (rm9_u l Z a0 hw [] s_ no_ bu ow od ub nl nc (own_i 0) (own_i 0) sk mx mi (0 : Int64) kl cl kb kq ku _ _ _ A_ K_ D_ N_ h0 n0 Z0 SA_ SB_ SC_ O Q g_s_ Vb Vq Vu g_od g_ub hsb hsq hsu hqu hbq hbu hbyte hb17 hA hN hK hmx hmi) e1 (by rw [hml]; rfl) pd_24 rfl rfl i7_18 (by decide) 0 rfl (by decide) (by decide) (by decide) fun T3 v3 L3 X3 q3 => ?_
  obtain ⟨vv3, rfl, od3, ub3, kq3, vq3, sc3, dp3, sl3, kl3, sk3, cl3, hvv3, K3, Q3, Vq3, g_od3, hod3, hsq3, N3⟩ := q3
  have N0 := Fr.app N0 N3
  show Gd p e below _ T3 (mkF m 21 #[.val (.ref s_)] [vv3])
  refine g_areturn X3 hx hby hret rfl (fun _ => rfl) hlk hvv3 i7_21 (by decide) (by decide) ?_
  exact ⟨_, rfl, od3, ub3, _, _, _, _, _, _, _, _, hvv3, K3, Q3, Vq3, g_od3, hod3, hsq3, N0⟩
theorem i3_0 : Ins1 prog_32_method_4_code 0 (.aload_n 0) 1 1 := ⟨by decide +kernel, rfl⟩
theorem i3_1 : Ins1 prog_32_method_4_code 1 (.invokespecial 16) 3 4 := ⟨by decide +kernel, rfl⟩
theorem i3_4 : Ins1 prog_32_method_4_code 4 (.aload_n 0) 1 5 := ⟨by decide +kernel, rfl⟩
theorem i3_5 : Ins1 prog_32_method_4_code 5 (.getstatic 21) 3 8 := ⟨by decide +kernel, rfl⟩
theorem i3_8 : Ins1 prog_32_method_4_code 8 (.putfield 25) 3 11 := ⟨by decide +kernel, rfl⟩
theorem i3_11 : Ins1 prog_32_method_4_code 11 (.aload_n 0) 1 12 := ⟨by decide +kernel, rfl⟩
theorem i3_12 : Ins1 prog_32_method_4_code 12 (.getstatic 21) 3 15 := ⟨by decide +kernel, rfl⟩
theorem i3_15 : Ins1 prog_32_method_4_code 15 (.putfield 28) 3 18 := ⟨by decide +kernel, rfl⟩
theorem i3_18 : Ins1 prog_32_method_4_code 18 (.aload_n 0) 1 19 := ⟨by decide +kernel, rfl⟩
theorem i3_19 : Ins1 prog_32_method_4_code 19 (.bipush 8) 2 21 := ⟨by decide +kernel, rfl⟩
theorem i3_21 : Ins1 prog_32_method_4_code 21 (.newarray .long) 2 23 := ⟨by decide +kernel, rfl⟩
theorem i3_23 : Ins1 prog_32_method_4_code 23 (.putfield 31) 3 26 := ⟨by decide +kernel, rfl⟩
theorem i3_26 : Ins1 prog_32_method_4_code 26 (.aload_n 0) 1 27 := ⟨by decide +kernel, rfl⟩
theorem i3_27 : Ins1 prog_32_method_4_code 27 (.bipush 8) 2 29 := ⟨by decide +kernel, rfl⟩
theorem i3_29 : Ins1 prog_32_method_4_code 29 (.newarray .int) 2 31 := ⟨by decide +kernel, rfl⟩
theorem i3_31 : Ins1 prog_32_method_4_code 31 (.putfield 35) 3 34 := ⟨by decide +kernel, rfl⟩
theorem i3_34 : Ins1 prog_32_method_4_code 34 (.aload_n 0) 1 35 := ⟨by decide +kernel, rfl⟩
theorem i3_35 : Ins1 prog_32_method_4_code 35 (.getstatic 39) 3 38 := ⟨by decide +kernel, rfl⟩
theorem i3_38 : Ins1 prog_32_method_4_code 38 (.putfield 42) 3 41 := ⟨by decide +kernel, rfl⟩
theorem i3_41 : Ins1 prog_32_method_4_code 41 (.aload_n 0) 1 42 := ⟨by decide +kernel, rfl⟩
theorem i3_42 : Ins1 prog_32_method_4_code 42 (.getstatic 45) 3 45 := ⟨by decide +kernel, rfl⟩
theorem i3_45 : Ins1 prog_32_method_4_code 45 (.putfield 48) 3 48 := ⟨by decide +kernel, rfl⟩
theorem i3_48 : Ins1 prog_32_method_4_code 48 (.iload_n 1) 1 49 := ⟨by decide +kernel, rfl⟩
theorem i3_49 : Ins1 prog_32_method_4_code 49 (.iconst 1) 1 50 := ⟨by decide +kernel, rfl⟩
theorem i3_50 : InsB prog_32_method_4_code 50 (.if_icmp .ge 17) 17 53 67 := ⟨by decide +kernel, rfl, by decide, by decide⟩
theorem i3_67 : Ins1 prog_32_method_4_code 67 (.iload_n 2) 1 68 := ⟨by decide +kernel, rfl⟩
theorem i3_68 : Ins1 prog_32_method_4_code 68 (.invokestatic 60) 3 71 := ⟨by decide +kernel, rfl⟩
theorem i3_71 : Ins1 prog_32_method_4_code 71 (.aload_n 0) 1 72 := ⟨by decide +kernel, rfl⟩
theorem i3_72 : Ins1 prog_32_method_4_code 72 (.iload_n 1) 1 73 := ⟨by decide +kernel, rfl⟩
theorem i3_73 : Ins1 prog_32_method_4_code 73 (.putfield 65) 3 76 := ⟨by decide +kernel, rfl⟩
theorem i3_76 : Ins1 prog_32_method_4_code 76 (.aload_n 0) 1 77 := ⟨by decide +kernel, rfl⟩
theorem i3_77 : Ins1 prog_32_method_4_code 77 (.iload_n 2) 1 78 := ⟨by decide +kernel, rfl⟩
theorem i3_78 : Ins1 prog_32_method_4_code 78 (.putfield 69) 3 81 := ⟨by decide +kernel, rfl⟩
theorem i3_81 : Ins1 prog_32_method_4_code 81 (.aload_n 0) 1 82 := ⟨by decide +kernel, rfl⟩
theorem i3_82 : Ins1 prog_32_method_4_code 82 (.iload_n 3) 1 83 := ⟨by decide +kernel, rfl⟩
theorem i3_83 : Ins1 prog_32_method_4_code 83 (.putfield 72) 3 86 := ⟨by decide +kernel, rfl⟩
theorem i3_86 : Ins1 prog_32_method_4_code 86 (.return_) 1 87 := ⟨by decide +kernel, rfl⟩
theorem ef_3 (m : MethodId) (s_ : Addr) (p1 : Int32) (p2 : Int32) (p3 : Int32) : entryFrame m #[(.ref s_), (.int p1), (.int p2), (.int p3)] 4 = mkF m 0 #[.val (.ref s_), .val (.int p1), .val (.int p2), .val (.int p3)] [] := by first | (simp [entryFrame, mkF, argsToLocals, Value.category]; done) | rfl
theorem rm3 (l : Launch) (Z : State) (a0 : Array Value) (hw : ∀ d ∈ tables_1, d.before a0 Z = true) (ws : List Jvm.Cond) (s_ : Addr) (p1 : Int32) (p2 : Int32) (p3 : Int32) (no_ : Addr) (nl nc : Addr)  (h0 : Heap) (n0 : Nat) (Z0 : n0 ≤ h0.size) (SA_ : Sta Z Z.heap "com/example/ariel/ariel/cbor/CborSequence" "NOTHING" "[B" (.ref no_)) (SB_ : Sta Z Z.heap "com/example/ariel/ariel/cbor/CborSequence" "NO_LENGTHS" "[J" (.ref nl)) (SC_ : Sta Z Z.heap "com/example/ariel/ariel/cbor/CborSequence" "NO_CUTS" "[I" (.ref nc)) (O : Old Z n0 h0) (Q : own_seq Z h0 s_ [.null, .null, (.int (0 : Int32)), (.int (0 : Int32)), (.int (0 : Int32)), .null, .null, (.int (0 : Int32)), (.long (0 : Int64)), (.long (0 : Int64)), (.int (0 : Int32)), (.long (0 : Int64)), .null, (.int (0 : Int32)), .null, (.int (0 : Int32)), (.int (0 : Int32)), (.long (0 : Int64)), (.int (0 : Int32)), (.int (0 : Int32)), (.int (0 : Int32)), (.int (0 : Int32))]) (g_s_ : n0 ≤ s_) (h1 : ¬ p1 < (1 : Int32)) (h2 : ¬ p2 < (1 : Int32)) (hp3 : p3 = (0 : Int32)) :
    Met1 l (⟨"com/example/ariel/ariel/cbor/CborSequence", "<init>", "(IIZ)V"⟩ : MethodName) prog_32_method_4_code 4 none ws ({ frames := 1, cells := 2, slots := 16, locals := 16 } : Room) #[(.ref s_), (.int p1), (.int p2), (.int p3)] Z h0 (RN fun h L => (∃ od ub kq ku vq vu, Keep h0 h [s_] ∧ own_seq Z h s_ [(.ref no_), (.ref no_), (.int (0 : Int32)), (.int (0 : Int32)), (.int (0 : Int32)), (.ref od), (.ref ub), (.int (0 : Int32)), (.long (0 : Int64)), (.long (0 : Int64)), (.int (0 : Int32)), (.long (0 : Int64)), (.ref nl), (.int (0 : Int32)), (.ref nc), (.int (0 : Int32)), (.int (0 : Int32)), (.long (0 : Int64)), (.int (0 : Int32)), (.int p1), (.int p2), (.int (0 : Int32))] ∧ Arv Z h od kq .long (own_i 8) vq (.long (0 : Int64)) ∧ Arv Z h ub ku .int (own_i 8) vu (.int (0 : Int32)) ∧ n0 ≤ od ∧ n0 ≤ ub ∧ h0.size ≤ od ∧ h0.size ≤ ub ∧ od ≠ ub) ∧ Fr n0 L) := by
  refine met_of (plainFor_of_name pn_com_example_ariel_ariel_cbor_CborSequence) ?_
  intro p e s m below meth c T0 X0 hx hby hml hZ hown hnm hret hlk e0 es
  have N0 := Fr.nil n0
  refine Gd.cast (ef_3 m s_ p1 p2 p3) ?_
  subst hp3
  have K0 : Keep h0 h0 [s_] := Keep.refl _ _
  refine g_aloadN X0 hx hby i3_0 rfl rfl ?_
  refine g_objInit X0 hx hby hZ hown (wd_ hw 15 rfl) (wd_ hw 16 rfl) (wd_ hw 17 rfl) e0 (by rw [hml]; rfl) i3_1 0 rfl (by decide) (by decide) fun T1 X1 e1 => ?_
  refine g_aloadN X1 hx hby i3_4 rfl rfl ?_
  refine g_getstatic X1 hx hby hZ hown (host := "") (Or.inl (wd_ hw 18 rfl)) Via.refl e1 (SA_.ext O.2) i3_5 fun T2 X2 e2 => ?_
  refine g_putfield X2 hx hby hZ hown (host := "") (Or.inl (wd_ hw 20 rfl)) Via.refl e2 (own_at Q 0 (by decide) (v := .null) rfl) Q.1 (Or.inl (wd_ hw 21 rfl)) (wd_ hw 3 rfl) (ty := (.array .byte)) (by decide) rfl rfl i3_8 fun T3 h3 X3 e3 W3 => ?_
  have Q : own_seq Z h3 s_ [(.ref no_), .null, (.int (0 : Int32)), (.int (0 : Int32)), (.int (0 : Int32)), .null, .null, (.int (0 : Int32)), (.long (0 : Int64)), (.long (0 : Int64)), (.int (0 : Int32)), (.long (0 : Int64)), .null, (.int (0 : Int32)), .null, (.int (0 : Int32)), (.int (0 : Int32)), (.long (0 : Int64)), (.int (0 : Int32)), (.int (0 : Int32)), (.int (0 : Int32)), (.int (0 : Int32))] := Q.put hw (i := 0) (by decide) W3
  have O := O.wr W3 g_s_
  have Z0 : n0 ≤ h3.size := Nat.le_trans Z0 (Nat.le_of_eq W3.size.symm)
  have N0 := Fr.snoc X3 N0 g_s_
  have K0 := K0.wr W3 (Or.inl (by simp))
  refine g_aloadN X3 hx hby i3_11 rfl rfl ?_
  refine g_getstatic X3 hx hby hZ hown (host := "") (Or.inl (wd_ hw 18 rfl)) Via.refl e3 (SA_.ext O.2) i3_12 fun T4 X4 e4 => ?_
  refine g_putfield X4 hx hby hZ hown (host := "") (Or.inl (wd_ hw 22 rfl)) Via.refl e4 (own_at Q 1 (by decide) (v := .null) rfl) Q.1 (Or.inl (wd_ hw 23 rfl)) (wd_ hw 3 rfl) (ty := (.array .byte)) (by decide) rfl rfl i3_15 fun T5 h5 X5 e5 W5 => ?_
  have Q : own_seq Z h5 s_ [(.ref no_), (.ref no_), (.int (0 : Int32)), (.int (0 : Int32)), (.int (0 : Int32)), .null, .null, (.int (0 : Int32)), (.long (0 : Int64)), (.long (0 : Int64)), (.int (0 : Int32)), (.long (0 : Int64)), .null, (.int (0 : Int32)), .null, (.int (0 : Int32)), (.int (0 : Int32)), (.long (0 : Int64)), (.int (0 : Int32)), (.int (0 : Int32)), (.int (0 : Int32)), (.int (0 : Int32))] := Q.put hw (i := 1) (by decide) W5
  have O := O.wr W5 g_s_
  have Z0 : n0 ≤ h5.size := Nat.le_trans Z0 (Nat.le_of_eq W5.size.symm)
  have N0 := Fr.snoc X5 N0 g_s_
  have K0 := K0.wr W5 (Or.inl (by simp))
  refine g_aloadN X5 hx hby i3_18 rfl rfl ?_
  refine g_bipush X5 hx hby i3_19 (z := (8 : Int32)) (by decide) ?_
  refine g_newarray X5 hx hby hZ (ty := .long) rfl (wd_ hw 24 rfl) e5 i3_21 (by decide) 8 (by decide) (by decide) (by decide) (by decide) fun T6 h6 b6 k6 X6 e6 E6 hb6 V6 => ?_
  have ne_s__b6 : s_ ≠ b6 := Nat.ne_of_lt (Nat.lt_of_lt_of_le Q.lt (Nat.le_of_eq hb6.symm))
  have g_b6 : n0 ≤ b6 := Nat.le_trans Z0 (Nat.le_of_eq hb6.symm)
  have Q := Q.ext E6
  have O := O.ext E6
  have sz_b6 : h0.size ≤ b6 := Nat.le_trans K0.1 (Nat.le_of_eq hb6.symm)
  have K0 := K0.ext E6
  have Z0 : n0 ≤ h6.size := Nat.le_trans Z0 E6.1
  have V6 : Arv Z h6 b6 k6 .long (8 : Int32) [(.long (0 : Int64)), (.long (0 : Int64)), (.long (0 : Int64)), (.long (0 : Int64)), (.long (0 : Int64)), (.long (0 : Int64)), (.long (0 : Int64)), (.long (0 : Int64))] (.long (0 : Int64)) := V6.pad (pad_rep [] _ 8)
  refine g_putfield X6 hx hby hZ hown (host := "") (Or.inl (wd_ hw 25 rfl)) Via.refl e6 (own_at Q 5 (by decide) (v := .null) rfl) Q.1 (Or.inl (wd_ hw 26 rfl)) (wd_ hw 3 rfl) (ty := (.array .long)) (by decide) rfl rfl i3_23 fun T7 h7 X7 e7 W7 => ?_
  have Q : own_seq Z h7 s_ [(.ref no_), (.ref no_), (.int (0 : Int32)), (.int (0 : Int32)), (.int (0 : Int32)), (.ref b6), .null, (.int (0 : Int32)), (.long (0 : Int64)), (.long (0 : Int64)), (.int (0 : Int32)), (.long (0 : Int64)), .null, (.int (0 : Int32)), .null, (.int (0 : Int32)), (.int (0 : Int32)), (.long (0 : Int64)), (.int (0 : Int32)), (.int (0 : Int32)), (.int (0 : Int32)), (.int (0 : Int32))] := Q.put hw (i := 5) (by decide) W7
  have V6 := V6.other W7 (Ne.symm ne_s__b6)
  have O := O.wr W7 g_s_
  have Z0 : n0 ≤ h7.size := Nat.le_trans Z0 (Nat.le_of_eq W7.size.symm)
  have N0 := Fr.snoc X7 N0 g_s_
  have K0 := K0.wr W7 (Or.inl (by simp))
  refine g_aloadN X7 hx hby i3_26 rfl rfl ?_
  refine g_bipush X7 hx hby i3_27 (z := (8 : Int32)) (by decide) ?_
  refine g_newarray X7 hx hby hZ (ty := .int) rfl (wd_ hw 27 rfl) e7 i3_29 (by decide) 8 (by decide) (by decide) (by decide) (by decide) fun T8 h8 b8 k8 X8 e8 E8 hb8 V8 => ?_
  have ne_s__b8 : s_ ≠ b8 := Nat.ne_of_lt (Nat.lt_of_lt_of_le Q.lt (Nat.le_of_eq hb8.symm))
  have ne_b6_b8 : b6 ≠ b8 := Nat.ne_of_lt (Nat.lt_of_lt_of_le V6.lt (Nat.le_of_eq hb8.symm))
  have g_b8 : n0 ≤ b8 := Nat.le_trans Z0 (Nat.le_of_eq hb8.symm)
  have Q := Q.ext E8
  have V6 := V6.ext E8
  have O := O.ext E8
  have sz_b8 : h0.size ≤ b8 := Nat.le_trans K0.1 (Nat.le_of_eq hb8.symm)
  have K0 := K0.ext E8
  have Z0 : n0 ≤ h8.size := Nat.le_trans Z0 E8.1
  have V8 : Arv Z h8 b8 k8 .int (8 : Int32) [(.int (0 : Int32)), (.int (0 : Int32)), (.int (0 : Int32)), (.int (0 : Int32)), (.int (0 : Int32)), (.int (0 : Int32)), (.int (0 : Int32)), (.int (0 : Int32))] (.int (0 : Int32)) := V8.pad (pad_rep [] _ 8)
  refine g_putfield X8 hx hby hZ hown (host := "") (Or.inl (wd_ hw 28 rfl)) Via.refl e8 (own_at Q 6 (by decide) (v := .null) rfl) Q.1 (Or.inl (wd_ hw 29 rfl)) (wd_ hw 3 rfl) (ty := (.array .int)) (by decide) rfl rfl i3_31 fun T9 h9 X9 e9 W9 => ?_
  have Q : own_seq Z h9 s_ [(.ref no_), (.ref no_), (.int (0 : Int32)), (.int (0 : Int32)), (.int (0 : Int32)), (.ref b6), (.ref b8), (.int (0 : Int32)), (.long (0 : Int64)), (.long (0 : Int64)), (.int (0 : Int32)), (.long (0 : Int64)), .null, (.int (0 : Int32)), .null, (.int (0 : Int32)), (.int (0 : Int32)), (.long (0 : Int64)), (.int (0 : Int32)), (.int (0 : Int32)), (.int (0 : Int32)), (.int (0 : Int32))] := Q.put hw (i := 6) (by decide) W9
  have V6 := V6.other W9 (Ne.symm ne_s__b6)
  have V8 := V8.other W9 (Ne.symm ne_s__b8)
  have O := O.wr W9 g_s_
  have Z0 : n0 ≤ h9.size := Nat.le_trans Z0 (Nat.le_of_eq W9.size.symm)
  have N0 := Fr.snoc X9 N0 g_s_
  have K0 := K0.wr W9 (Or.inl (by simp))
  refine g_aloadN X9 hx hby i3_34 rfl rfl ?_
  refine g_getstatic X9 hx hby hZ hown (host := "") (Or.inl (wd_ hw 30 rfl)) Via.refl e9 (SB_.ext O.2) i3_35 fun T10 X10 e10 => ?_
  refine g_putfield X10 hx hby hZ hown (host := "") (Or.inl (wd_ hw 32 rfl)) Via.refl e10 (own_at Q 12 (by decide) (v := .null) rfl) Q.1 (Or.inl (wd_ hw 33 rfl)) (wd_ hw 3 rfl) (ty := (.array .long)) (by decide) rfl rfl i3_38 fun T11 h11 X11 e11 W11 => ?_
  have Q : own_seq Z h11 s_ [(.ref no_), (.ref no_), (.int (0 : Int32)), (.int (0 : Int32)), (.int (0 : Int32)), (.ref b6), (.ref b8), (.int (0 : Int32)), (.long (0 : Int64)), (.long (0 : Int64)), (.int (0 : Int32)), (.long (0 : Int64)), (.ref nl), (.int (0 : Int32)), .null, (.int (0 : Int32)), (.int (0 : Int32)), (.long (0 : Int64)), (.int (0 : Int32)), (.int (0 : Int32)), (.int (0 : Int32)), (.int (0 : Int32))] := Q.put hw (i := 12) (by decide) W11
  have V6 := V6.other W11 (Ne.symm ne_s__b6)
  have V8 := V8.other W11 (Ne.symm ne_s__b8)
  have O := O.wr W11 g_s_
  have Z0 : n0 ≤ h11.size := Nat.le_trans Z0 (Nat.le_of_eq W11.size.symm)
  have N0 := Fr.snoc X11 N0 g_s_
  have K0 := K0.wr W11 (Or.inl (by simp))
  refine g_aloadN X11 hx hby i3_41 rfl rfl ?_
  refine g_getstatic X11 hx hby hZ hown (host := "") (Or.inl (wd_ hw 34 rfl)) Via.refl e11 (SC_.ext O.2) i3_42 fun T12 X12 e12 => ?_
  refine g_putfield X12 hx hby hZ hown (host := "") (Or.inl (wd_ hw 36 rfl)) Via.refl e12 (own_at Q 14 (by decide) (v := .null) rfl) Q.1 (Or.inl (wd_ hw 37 rfl)) (wd_ hw 3 rfl) (ty := (.array .int)) (by decide) rfl rfl i3_45 fun T13 h13 X13 e13 W13 => ?_
  have Q : own_seq Z h13 s_ [(.ref no_), (.ref no_), (.int (0 : Int32)), (.int (0 : Int32)), (.int (0 : Int32)), (.ref b6), (.ref b8), (.int (0 : Int32)), (.long (0 : Int64)), (.long (0 : Int64)), (.int (0 : Int32)), (.long (0 : Int64)), (.ref nl), (.int (0 : Int32)), (.ref nc), (.int (0 : Int32)), (.int (0 : Int32)), (.long (0 : Int64)), (.int (0 : Int32)), (.int (0 : Int32)), (.int (0 : Int32)), (.int (0 : Int32))] := Q.put hw (i := 14) (by decide) W13
  have V6 := V6.other W13 (Ne.symm ne_s__b6)
  have V8 := V8.other W13 (Ne.symm ne_s__b8)
  have O := O.wr W13 g_s_
  have Z0 : n0 ≤ h13.size := Nat.le_trans Z0 (Nat.le_of_eq W13.size.symm)
  have N0 := Fr.snoc X13 N0 g_s_
  have K0 := K0.wr W13 (Or.inl (by simp))
  refine g_iloadN X13 hx hby i3_48 rfl ?_
  refine g_iconst X13 hx hby i3_49 (z := (1 : Int32)) (by decide) ?_
  refine g_icmp_ge X13 hx hby i3_50 (fun c50_14 => ?_) (fun c50_14 => False.elim (h1 c50_14))
  refine g_iloadN X13 hx hby i3_67 rfl ?_
  refine g_callS0 X13 hx hby hZ (y := (⟨"com/example/ariel/ariel/cbor/CborReader", "checkMaxItems", "(I)V"⟩ : MethodName)) (argsL := [(.int p2)]) (rest := []) hown (wd_ hw 38 rfl) (wd_ hw 39 rfl) (wd_ hw 40 rfl) (wd_ hw 41 rfl) (by decide) (rm5 l Z a0 hw [] p2 h13 n0 Z0 h2) e13 (by rw [hml]; rfl) pd_8 rfl rfl i3_68 (by decide) 0 rfl (by decide) (by decide) (by decide) fun T15 v15 L15 X15 q15 => ?_
  obtain ⟨rfl, e15, N15⟩ := q15
  have N0 := Fr.app N0 N15
  show Gd p e below _ T15 (mkF m 71 #[.val (.ref s_), .val (.int p1), .val (.int p2), .val (.int (0 : Int32))] [])
  refine g_aloadN X15 hx hby i3_71 rfl rfl ?_
  refine g_iloadN X15 hx hby i3_72 rfl ?_
  refine g_putfield X15 hx hby hZ hown (host := "") (Or.inl (wd_ hw 42 rfl)) Via.refl e15 (own_at Q 19 (by decide) (v := (.int (0 : Int32))) rfl) Q.1 (Or.inr ⟨(wd_ hw 43 rfl), rfl, hnm⟩) (wd_ hw 3 rfl) (ty := .int) (by decide) rfl rfl i3_73 fun T16 h16 X16 e16 W16 => ?_
  have Q : own_seq Z h16 s_ [(.ref no_), (.ref no_), (.int (0 : Int32)), (.int (0 : Int32)), (.int (0 : Int32)), (.ref b6), (.ref b8), (.int (0 : Int32)), (.long (0 : Int64)), (.long (0 : Int64)), (.int (0 : Int32)), (.long (0 : Int64)), (.ref nl), (.int (0 : Int32)), (.ref nc), (.int (0 : Int32)), (.int (0 : Int32)), (.long (0 : Int64)), (.int (0 : Int32)), (.int p1), (.int (0 : Int32)), (.int (0 : Int32))] := Q.put hw (i := 19) (by decide) W16
  have V6 := V6.other W16 (Ne.symm ne_s__b6)
  have V8 := V8.other W16 (Ne.symm ne_s__b8)
  have O := O.wr W16 g_s_
  have Z0 : n0 ≤ h16.size := Nat.le_trans Z0 (Nat.le_of_eq W16.size.symm)
  have N0 := Fr.snoc X16 N0 g_s_
  have K0 := K0.wr W16 (Or.inl (by simp))
  refine g_aloadN X16 hx hby i3_76 rfl rfl ?_
  refine g_iloadN X16 hx hby i3_77 rfl ?_
  refine g_putfield X16 hx hby hZ hown (host := "") (Or.inl (wd_ hw 44 rfl)) Via.refl e16 (own_at Q 20 (by decide) (v := (.int (0 : Int32))) rfl) Q.1 (Or.inr ⟨(wd_ hw 45 rfl), rfl, hnm⟩) (wd_ hw 3 rfl) (ty := .int) (by decide) rfl rfl i3_78 fun T17 h17 X17 e17 W17 => ?_
  have Q : own_seq Z h17 s_ [(.ref no_), (.ref no_), (.int (0 : Int32)), (.int (0 : Int32)), (.int (0 : Int32)), (.ref b6), (.ref b8), (.int (0 : Int32)), (.long (0 : Int64)), (.long (0 : Int64)), (.int (0 : Int32)), (.long (0 : Int64)), (.ref nl), (.int (0 : Int32)), (.ref nc), (.int (0 : Int32)), (.int (0 : Int32)), (.long (0 : Int64)), (.int (0 : Int32)), (.int p1), (.int p2), (.int (0 : Int32))] := Q.put hw (i := 20) (by decide) W17
  have V6 := V6.other W17 (Ne.symm ne_s__b6)
  have V8 := V8.other W17 (Ne.symm ne_s__b8)
  have O := O.wr W17 g_s_
  have Z0 : n0 ≤ h17.size := Nat.le_trans Z0 (Nat.le_of_eq W17.size.symm)
  have N0 := Fr.snoc X17 N0 g_s_
  have K0 := K0.wr W17 (Or.inl (by simp))
  refine g_aloadN X17 hx hby i3_81 rfl rfl ?_
  refine g_iloadN X17 hx hby i3_82 rfl ?_
  refine g_putfieldN X17 hx hby hZ hown (wd_ hw 46 rfl) Via.refl e17 (own_at Q 21 (by decide) (v := (.int (0 : Int32))) rfl) Q.1 (Or.inr ⟨(wd_ hw 47 rfl), rfl, hnm⟩) (wd_ hw 3 rfl) (ty := .boolean) (v' := (.int (nar .boolean (0 : Int32)))) (by decide) rfl (fits_nar_bool _) i3_83 fun T18 h18 X18 e18 W18 => ?_
  have Q : own_seq Z h18 s_ [(.ref no_), (.ref no_), (.int (0 : Int32)), (.int (0 : Int32)), (.int (0 : Int32)), (.ref b6), (.ref b8), (.int (0 : Int32)), (.long (0 : Int64)), (.long (0 : Int64)), (.int (0 : Int32)), (.long (0 : Int64)), (.ref nl), (.int (0 : Int32)), (.ref nc), (.int (0 : Int32)), (.int (0 : Int32)), (.long (0 : Int64)), (.int (0 : Int32)), (.int p1), (.int p2), (.int (nar .boolean (0 : Int32)))] := Q.put hw (i := 21) (by decide) W18
  have V6 := V6.other W18 (Ne.symm ne_s__b6)
  have V8 := V8.other W18 (Ne.symm ne_s__b8)
  have O := O.wr W18 g_s_
  have Z0 : n0 ≤ h18.size := Nat.le_trans Z0 (Nat.le_of_eq W18.size.symm)
  have N0 := Fr.snoc X18 N0 g_s_
  have K0 := K0.wr W18 (Or.inl (by simp))
  refine g_return X18 hx hby hret hlk i3_86 (by decide) (by decide) ?_
  rw [e18]
  exact ⟨rfl, ⟨b6, b8, _, _, _, _, K0, Q, V6, V8, g_b6, g_b8, sz_b6, sz_b8, ne_b6_b8⟩, N0⟩
theorem i2_0 : Ins1 prog_32_method_3_code 0 (.aload_n 0) 1 1 := ⟨by decide +kernel, rfl⟩
theorem i2_1 : Ins1 prog_32_method_3_code 1 (.iload_n 1) 1 2 := ⟨by decide +kernel, rfl⟩
theorem i2_2 : Ins1 prog_32_method_3_code 2 (.iload_n 2) 1 3 := ⟨by decide +kernel, rfl⟩
theorem i2_3 : Ins1 prog_32_method_3_code 3 (.iconst 0) 1 4 := ⟨by decide +kernel, rfl⟩
theorem i2_4 : Ins1 prog_32_method_3_code 4 (.invokespecial 13) 3 7 := ⟨by decide +kernel, rfl⟩
theorem i2_7 : Ins1 prog_32_method_3_code 7 (.return_) 1 8 := ⟨by decide +kernel, rfl⟩
theorem ef_2 (m : MethodId) (s_ : Addr) (p1 : Int32) (p2 : Int32) : entryFrame m #[(.ref s_), (.int p1), (.int p2)] 3 = mkF m 0 #[.val (.ref s_), .val (.int p1), .val (.int p2)] [] := by first | (simp [entryFrame, mkF, argsToLocals, Value.category]; done) | rfl
theorem pd_25 : parseMethodDescriptor "(IIZ)V" = some ⟨[.int, .int, .boolean], none⟩ := by decide +kernel
theorem rm2 (l : Launch) (Z : State) (a0 : Array Value) (hw : ∀ d ∈ tables_1, d.before a0 Z = true) (ws : List Jvm.Cond) (s_ : Addr) (p1 : Int32) (p2 : Int32) (no_ : Addr) (nl nc : Addr)  (h0 : Heap) (n0 : Nat) (Z0 : n0 ≤ h0.size) (SA_ : Sta Z Z.heap "com/example/ariel/ariel/cbor/CborSequence" "NOTHING" "[B" (.ref no_)) (SB_ : Sta Z Z.heap "com/example/ariel/ariel/cbor/CborSequence" "NO_LENGTHS" "[J" (.ref nl)) (SC_ : Sta Z Z.heap "com/example/ariel/ariel/cbor/CborSequence" "NO_CUTS" "[I" (.ref nc)) (O : Old Z n0 h0) (Q : own_seq Z h0 s_ [.null, .null, (.int (0 : Int32)), (.int (0 : Int32)), (.int (0 : Int32)), .null, .null, (.int (0 : Int32)), (.long (0 : Int64)), (.long (0 : Int64)), (.int (0 : Int32)), (.long (0 : Int64)), .null, (.int (0 : Int32)), .null, (.int (0 : Int32)), (.int (0 : Int32)), (.long (0 : Int64)), (.int (0 : Int32)), (.int (0 : Int32)), (.int (0 : Int32)), (.int (0 : Int32))]) (g_s_ : n0 ≤ s_) (h1 : ¬ p1 < (1 : Int32)) (h2 : ¬ p2 < (1 : Int32)) :
    Met1 l (⟨"com/example/ariel/ariel/cbor/CborSequence", "<init>", "(II)V"⟩ : MethodName) prog_32_method_3_code 3 none ws ({ frames := 2, cells := 2, slots := 16, locals := 34 } : Room) #[(.ref s_), (.int p1), (.int p2)] Z h0 (RN fun h L => (∃ od ub kq ku vq vu, Keep h0 h [s_] ∧ own_seq Z h s_ [(.ref no_), (.ref no_), (.int (0 : Int32)), (.int (0 : Int32)), (.int (0 : Int32)), (.ref od), (.ref ub), (.int (0 : Int32)), (.long (0 : Int64)), (.long (0 : Int64)), (.int (0 : Int32)), (.long (0 : Int64)), (.ref nl), (.int (0 : Int32)), (.ref nc), (.int (0 : Int32)), (.int (0 : Int32)), (.long (0 : Int64)), (.int (0 : Int32)), (.int p1), (.int p2), (.int (0 : Int32))] ∧ Arv Z h od kq .long (own_i 8) vq (.long (0 : Int64)) ∧ Arv Z h ub ku .int (own_i 8) vu (.int (0 : Int32)) ∧ n0 ≤ od ∧ n0 ≤ ub ∧ h0.size ≤ od ∧ h0.size ≤ ub ∧ od ≠ ub) ∧ Fr n0 L) := by
  refine met_of (plainFor_of_name pn_com_example_ariel_ariel_cbor_CborSequence) ?_
  intro p e s m below meth c T0 X0 hx hby hml hZ hown hnm hret hlk e0 es
  have N0 := Fr.nil n0
  refine Gd.cast (ef_2 m s_ p1 p2) ?_
  have K0 : Keep h0 h0 [s_] := Keep.refl _ _
  refine g_aloadN X0 hx hby i2_0 rfl rfl ?_
  refine g_iloadN X0 hx hby i2_1 rfl ?_
  refine g_iloadN X0 hx hby i2_2 rfl ?_
  refine g_iconst X0 hx hby i2_3 (z := (0 : Int32)) (by decide) ?_
  refine g_callInit0 X0 hx hby hZ (y := (⟨"com/example/ariel/ariel/cbor/CborSequence", "<init>", "(IIZ)V"⟩ : MethodName)) (argsL := [(.int p1), (.int p2), (.int (0 : Int32))]) (rest := []) rfl hown (wd_ hw 12 rfl) (wd_ hw 13 rfl) (wd_ hw 4 rfl) (wd_ hw 14 rfl) (by decide) (a := s_) (rm3 l Z a0 hw [] s_ p1 p2 (0 : Int32) no_ nl nc h0 n0 Z0 SA_ SB_ SC_ O Q g_s_ h1 h2 rfl) e0 (by rw [hml]; rfl) pd_25 rfl rfl i2_4 (by decide) 0 rfl (by decide) (by decide) (by decide) fun T1 v1 L1 X1 q1 => ?_
  obtain ⟨rfl, ⟨od1, ub1, kq1, ku1, vq1, vu1, K1, Q1, Vq1, Vu1, g_od1, g_ub1, so1, su1, hqu1⟩, N1⟩ := q1
  have N0 := Fr.app N0 N1
  have ne_s__od1 : s_ ≠ od1 := Nat.ne_of_lt (Nat.lt_of_lt_of_le Q.lt so1)
  have ne_s__ub1 : s_ ≠ ub1 := Nat.ne_of_lt (Nat.lt_of_lt_of_le Q.lt su1)
  have sz_od1 : h0.size ≤ od1 := Nat.le_trans K0.1 so1
  have sz_ub1 : h0.size ≤ ub1 := Nat.le_trans K0.1 su1
  have K0 := K0.trans K1 (fun x hx => Or.inl hx)
  have O := O.keep K1 (allS g_s_ all0)
  have Z0 : n0 ≤ T1.heap.size := Nat.le_trans Z0 K1.1
  show Gd p e below _ T1 (mkF m 7 #[.val (.ref s_), .val (.int p1), .val (.int p2)] [])
  refine g_return X1 hx hby hret hlk i2_7 (by decide) (by decide) ?_
  exact ⟨rfl, ⟨od1, ub1, _, _, _, _, K0, Q1, Vq1, Vu1, g_od1, g_ub1, sz_od1, sz_ub1, hqu1⟩, N0⟩
theorem apU0 (l : Launch) (Z : State) (a0 : Array Value) (hw : ∀ d ∈ tables_1, d.before a0 Z = true) (s_ pz no_ nl nc : Addr) (io : Bool) (O_ P_ M_ lv : Nat) (h0 : Heap) (n0 : Nat) (SA_ : Sta Z Z.heap "com/example/ariel/ariel/cbor/CborSequence" "NOTHING" "[B" (.ref no_)) (SB_ : Sta Z Z.heap "com/example/ariel/ariel/cbor/CborSequence" "NO_LENGTHS" "[J" (.ref nl)) (SC_ : Sta Z Z.heap "com/example/ariel/ariel/cbor/CborSequence" "NO_CUTS" "[I" (.ref nc)) (hM : M_ ≤ 40) (J : own_I Z h0 n0 s_ pz nl nc io O_ 0 lv) : Met1 l (⟨"com/example/ariel/ariel/cbor/CborSequence", "append", "([BII)V"⟩ : MethodName) prog_32_method_7_code 6 none [] ({ frames := 0, cells := 0, slots := 0, locals := 0 } : Room) #[.ref s_, .ref pz, .int (0 : Int32), .int (own_i M_)] Z h0 (RN fun h L => own_I Z h n0 s_ pz nl nc false O_ M_ lv ∧ Fr n0 L) := by
  obtain ⟨bu, ow, od, ub, A_, sc, dp, sk, mx, mi, sl, kl, cl, kb, ko, kq, kp, nb, vb, vo, vq, vp, Q, Vb, Vo, Vq, Vp, g_s_, hsb, hso, hsq, hsp, hpo, hqo, hab, hnb, hO, hT, hF, hg, O, Z0⟩ := J
  refine (rm6_E l Z a0 hw [] s_ pz (0 : Int32) (own_i M_) no_ bu ow od ub nl nc (own_i A_) (own_i (A_ + 0)) sc dp sk mx mi sl kl cl h0 n0 Z0 SA_ SB_ SC_ O Q g_s_ (by rw [own_isub]; rfl)).imp ?_
  rintro v h L ⟨rfl, K, Q', N⟩
  rw [own_iadd0] at Q'
  exact ⟨rfl, ⟨pz, ow, od, ub, 0, sc, dp, sk, mx, mi, sl, kl, cl, kp, ko, kq, kp, 40, vp, vo, vq, vp, Q', Vp.keep K (ninS (Ne.symm hsp) nin0), Vo.keep K (ninS (Ne.symm hso) nin0), Vq.keep K (ninS (Ne.symm hsq) nin0), Vp.keep K (ninS (Ne.symm hsp) nin0), g_s_, hsp, hso, hsq, hsp, hpo, hqo, by omega, by omega, hO, (fun q => by cases q), (fun _ => hpo), hg, O.keep K (allS g_s_ all0), Nat.le_trans Z0 K.1⟩, N⟩
theorem apU1 (l : Launch) (Z : State) (a0 : Array Value) (hw : ∀ d ∈ tables_1, d.before a0 Z = true) (s_ pz no_ nl nc : Addr) (io : Bool) (O_ P_ M_ lv : Nat) (h0 : Heap) (n0 : Nat) (SA_ : Sta Z Z.heap "com/example/ariel/ariel/cbor/CborSequence" "NOTHING" "[B" (.ref no_)) (SB_ : Sta Z Z.heap "com/example/ariel/ariel/cbor/CborSequence" "NO_LENGTHS" "[J" (.ref nl)) (SC_ : Sta Z Z.heap "com/example/ariel/ariel/cbor/CborSequence" "NO_CUTS" "[I" (.ref nc)) (hM : M_ ≤ 40) (hp0 : 0 < P_) (hc1 : P_ + M_ ≤ 164) (hc2 : 2 * O_ ≤ 164) (J : own_I Z h0 n0 s_ pz nl nc io O_ P_ lv) : Met1 l (⟨"com/example/ariel/ariel/cbor/CborSequence", "append", "([BII)V"⟩ : MethodName) prog_32_method_7_code 6 none [] ({ frames := 3, cells := 1, slots := 164, locals := 60 } : Room) #[.ref s_, .ref pz, .int (0 : Int32), .int (own_i M_)] Z h0 (RN fun h L => own_I Z h n0 s_ pz nl nc true (own_gr O_ (P_ + M_)) (P_ + M_) lv ∧ Fr n0 L) := by
  obtain ⟨bu, ow, od, ub, A_, sc, dp, sk, mx, mi, sl, kl, cl, kb, ko, kq, kp, nb, vb, vo, vq, vp, Q, Vb, Vo, Vq, Vp, g_s_, hsb, hso, hsq, hsp, hpo, hqo, hab, hnb, hO, hT, hF, hg, O, Z0⟩ := J
  cases io with
  | false =>
    refine (rm6_A l Z a0 hw [] s_ pz (0 : Int32) (own_i M_) no_ bu ow od ub nl nc sc dp sk mx mi sl kl cl kb ko kp (own_i nb) (40 : Int32) vb vo vp A_ P_ M_ O_ h0 n0 Z0 SA_ SB_ SC_ O Q g_s_ Vb Vo Vp (hF rfl) hsb hso hsp hpo (by rw [own_tc (by omega)]; exact hab) (by omega) (hg.elim (fun q => Or.inl (by omega)) Or.inr) hp0 (by show M_ ≤ 40; exact hM) hc1 hc2 rfl rfl).imp ?_
    rintro v h L ⟨rfl, ⟨t, kt, vt, K, Q', V', g_t, ht⟩, O', N⟩
    rw [show own_i (P_ + M_) = own_i (0 + (P_ + M_)) from by rw [Nat.zero_add]] at Q'
    exact ⟨rfl, ⟨t, t, od, ub, 0, sc, dp, sk, mx, mi, sl, kl, cl, kt, kt, kq, kp, own_gr O_ (P_ + M_), vt, vt, vq, vp, Q', V', V', Vq.keep K (ninS (Ne.symm hsq) (ninS hqo nin0)), Vp.keep K (ninS (Ne.symm hsp) (ninS hpo nin0)), g_s_, own_neT hso Q.lt ht, own_neT hso Q.lt ht, hsq, hsp, own_neT hpo Vp.lt ht, own_neT hqo Vq.lt ht, by have := own_grge O_ (P_ + M_); omega, by have := own_grle hc1 hc2; omega, by have := own_grle hc1 hc2; omega, (fun _ => ⟨rfl, rfl, own_grge _ _⟩), (fun q => by cases q), Or.inr g_t, O', Nat.le_trans Z0 K.1⟩, N⟩
  | true =>
    obtain ⟨hbo, hA0, hPO⟩ := hT rfl
    subst hA0
    rw [hbo, Nat.zero_add] at Q
    refine (rm6_B l Z a0 hw [] s_ pz (0 : Int32) (own_i M_) no_ bu ow od ub nl nc sc dp sk mx mi sl kl cl ko kp (40 : Int32) vo vp P_ M_ O_ h0 n0 Z0 SA_ SB_ SC_ O Q g_s_ Vo Vp (hg.elim (fun q => absurd q (by omega)) id) hso hsp hpo hPO hp0 (by show M_ ≤ 40; exact hM) hc1 hc2 rfl rfl).imp ?_
    rintro v h L ⟨rfl, ⟨t, kt, vt, K, Q', V', g_t, ht⟩, O', N⟩
    rw [show own_i (P_ + M_) = own_i (0 + (P_ + M_)) from by rw [Nat.zero_add]] at Q'
    exact ⟨rfl, ⟨t, t, od, ub, 0, sc, dp, sk, mx, mi, sl, kl, cl, kt, kt, kq, kp, own_gr O_ (P_ + M_), vt, vt, vq, vp, Q', V', V', Vq.keep K (ninS (Ne.symm hsq) (ninS hqo nin0)), Vp.keep K (ninS (Ne.symm hsp) (ninS hpo nin0)), g_s_, own_neT hso Q.lt ht, own_neT hso Q.lt ht, hsq, hsp, own_neT hpo Vp.lt ht, own_neT hqo Vq.lt ht, by have := own_grge O_ (P_ + M_); omega, by have := own_grle hc1 hc2; omega, by have := own_grle hc1 hc2; omega, (fun _ => ⟨rfl, rfl, own_grge _ _⟩), (fun q => by cases q), Or.inr g_t, O', Nat.le_trans Z0 K.1⟩, N⟩
theorem dtU (l : Launch) (Z : State) (a0 : Array Value) (hw : ∀ d ∈ tables_1, d.before a0 Z = true) (s_ pz no_ nl nc : Addr) (io : Bool) (O_ P_ M_ lv : Nat) (h0 : Heap) (n0 : Nat) (SA_ : Sta Z Z.heap "com/example/ariel/ariel/cbor/CborSequence" "NOTHING" "[B" (.ref no_)) (SB_ : Sta Z Z.heap "com/example/ariel/ariel/cbor/CborSequence" "NO_LENGTHS" "[J" (.ref nl)) (SC_ : Sta Z Z.heap "com/example/ariel/ariel/cbor/CborSequence" "NO_CUTS" "[I" (.ref nc)) (hP : P_ ≤ 128) (J : own_I Z h0 n0 s_ pz nl nc io O_ P_ lv) : Met1 l (⟨"com/example/ariel/ariel/cbor/CborSequence", "detach", "()V"⟩ : MethodName) prog_32_method_8_code 2 none [] ({ frames := 3, cells := 1, slots := 128, locals := 50 } : Room) #[.ref s_] Z h0 (RN fun h L => own_I Z h n0 s_ pz nl nc true (own_dt O_ P_) P_ lv ∧ Fr n0 L) := by
  obtain ⟨bu, ow, od, ub, A_, sc, dp, sk, mx, mi, sl, kl, cl, kb, ko, kq, kp, nb, vb, vo, vq, vp, Q, Vb, Vo, Vq, Vp, g_s_, hsb, hso, hsq, hsp, hpo, hqo, hab, hnb, hO, hT, hF, hg, O, Z0⟩ := J
  have hi0 : ¬ own_i A_ < 0 := own_nn (by omega)
  have hz0 : ¬ own_i (A_ + P_) - own_i A_ < 0 := by rw [own_isub]; exact own_nn (by omega)
  have hcap : (own_i (A_ + P_) - own_i A_).toNatClampNeg ≤ 128 := by rw [own_isub, own_tc (by omega)]; exact hP
  have eC : (own_i O_ < (own_i (A_ + P_) - own_i A_) ∨ (2 : Int32) * (own_i (A_ + P_) - own_i A_) < own_i O_) ↔ (O_ < P_ ∨ 2 * P_ < O_) := by rw [own_isub, own_imul2, own_ilt (by omega) (by omega), own_ilt (by omega) (by omega)]
  have eE : (own_i (A_ + P_) - own_i A_) = own_i P_ := own_isub _ _
  cases io with
  | true =>
    obtain ⟨hbo, hA0, hPO⟩ := hT rfl
    rw [hbo] at Q
    refine (rm44_B l Z a0 hw [] s_ no_ bu ow od ub nl nc (own_i A_) (own_i (A_ + P_)) sc dp sk mx mi sl kl cl ko (own_i O_) vo h0 n0 Z0 SA_ SB_ SC_ O Q Vo hso g_s_ hi0 hz0 (by rw [own_isub, own_tc (by omega), own_tc (n := P_) (by omega), own_tc (n := O_) (by omega)]; omega) hcap).imp ?_
    rintro v h L ⟨rfl, ⟨cc, t, kt, vt, K, Q', V', g_t, st_⟩ | ⟨cc, rfl⟩, O', N⟩
    · rw [eE] at Q' V'
      rw [show own_i P_ = own_i (0 + P_) from by rw [Nat.zero_add]] at Q'
      have ed : own_dt O_ P_ = P_ := if_pos (eC.mp cc)
      refine ⟨rfl, ?_, N⟩
      rw [ed]
      exact ⟨t, t, od, ub, 0, sc, dp, sk, mx, mi, sl, kl, cl, kt, kt, kq, kp, P_, vt, vt, vq, vp, Q', V', V', Vq.keep K (ninS (Ne.symm hsq) nin0), Vp.keep K (ninS (Ne.symm hsp) nin0), g_s_, own_neT hso Q.lt (Or.inr st_), own_neT hso Q.lt (Or.inr st_), hsq, hsp, own_neT hpo Vp.lt (Or.inr st_), own_neT hqo Vq.lt (Or.inr st_), by omega, by omega, by omega, (fun _ => ⟨rfl, rfl, Nat.le_refl _⟩), (fun q => by cases q), Or.inr g_t, O', Nat.le_trans Z0 K.1⟩
    · have ed : own_dt O_ P_ = O_ := if_neg (fun q => cc (eC.mpr q))
      refine ⟨rfl, ?_, N⟩
      rw [ed]
      exact ⟨ow, ow, od, ub, A_, sc, dp, sk, mx, mi, sl, kl, cl, ko, ko, kq, kp, O_, vo, vo, vq, vp, Q, Vo, Vo, Vq, Vp, g_s_, hso, hso, hsq, hsp, hpo, hqo, by omega, hO, hO, (fun _ => ⟨rfl, hA0, hPO⟩), (fun q => by cases q), hg, O, Z0⟩
  | false =>
    by_cases hz : P_ = 0 ∧ O_ = 0
    · obtain ⟨rfl, rfl⟩ := hz
      refine (rm44_Z l Z a0 hw [] s_ no_ bu ow od ub nl nc (own_i A_) (own_i (A_ + 0)) sc dp sk mx mi sl kl cl kb ko (own_i nb) vb vo h0 n0 Z0 SA_ SB_ SC_ O Q g_s_ Vb Vo (hF rfl) hsb hso hi0 (by rw [own_isub]; rfl) (by rw [own_tc (by omega), own_tc (by omega)]; omega)).imp ?_
      rintro v h L ⟨rfl, K, Q', N⟩
      rw [eE] at Q'
      exact ⟨rfl, ⟨ow, ow, od, ub, 0, sc, dp, sk, mx, mi, sl, kl, cl, ko, ko, kq, kp, 0, vo, vo, vq, vp, Q', Vo.keep K (ninS (Ne.symm hso) nin0), Vo.keep K (ninS (Ne.symm hso) nin0), Vq.keep K (ninS (Ne.symm hsq) nin0), Vp.keep K (ninS (Ne.symm hsp) nin0), g_s_, hso, hso, hsq, hsp, hpo, hqo, by omega, by omega, by decide, (fun _ => ⟨rfl, rfl, Nat.le_refl _⟩), (fun q => by cases q), hg, O.keep K (allS g_s_ all0), Nat.le_trans Z0 K.1⟩, N⟩
    · refine (rm44_A l Z a0 hw [] s_ no_ bu ow od ub nl nc (own_i A_) (own_i (A_ + P_)) sc dp sk mx mi sl kl cl kb ko (own_i nb) (own_i O_) vb vo h0 n0 Z0 SA_ SB_ SC_ O Q Vb Vo (hg.elim (fun q => Or.inl (by rw [own_isub]; exact (own_ilt (by omega) (by omega)).mpr (by omega))) Or.inr) (hF rfl) hsb hso g_s_ hi0 hz0 (by rw [own_isub, own_tc (n := A_) (by omega), own_tc (n := P_) (by omega), own_tc (n := nb) (by omega)]; omega) hcap).imp ?_
      rintro v h L ⟨rfl, ⟨cc, t, kt, vt, K, Q', V', g_t, st_⟩ | ⟨cc, K, Q', vo', V'⟩, O', N⟩
      · rw [eE] at Q' V'
        rw [show own_i P_ = own_i (0 + P_) from by rw [Nat.zero_add]] at Q'
        have ed : own_dt O_ P_ = P_ := if_pos (eC.mp cc)
        refine ⟨rfl, ?_, N⟩
        rw [ed]
        exact ⟨t, t, od, ub, 0, sc, dp, sk, mx, mi, sl, kl, cl, kt, kt, kq, kp, P_, vt, vt, vq, vp, Q', V', V', Vq.keep K (ninS (Ne.symm hsq) (ninS hqo nin0)), Vp.keep K (ninS (Ne.symm hsp) (ninS hpo nin0)), g_s_, own_neT hso Q.lt (Or.inr st_), own_neT hso Q.lt (Or.inr st_), hsq, hsp, own_neT hpo Vp.lt (Or.inr st_), own_neT hqo Vq.lt (Or.inr st_), by omega, by omega, by omega, (fun _ => ⟨rfl, rfl, Nat.le_refl _⟩), (fun q => by cases q), Or.inr g_t, O', Nat.le_trans Z0 K.1⟩
      · have hcc : ¬ (O_ < P_ ∨ 2 * P_ < O_) := fun q => cc (eC.mpr q)
        have ed : own_dt O_ P_ = O_ := if_neg hcc
        rw [eE] at Q'
        rw [show own_i P_ = own_i (0 + P_) from by rw [Nat.zero_add]] at Q'
        refine ⟨rfl, ?_, N⟩
        rw [ed]
        exact ⟨ow, ow, od, ub, 0, sc, dp, sk, mx, mi, sl, kl, cl, ko, ko, kq, kp, O_, vo', vo', vq, vp, Q', V', V', Vq.keep K (ninS (Ne.symm hsq) (ninS hqo nin0)), Vp.keep K (ninS (Ne.symm hsp) (ninS hpo nin0)), g_s_, hso, hso, hsq, hsp, hpo, hqo, by omega, hO, hO, (fun _ => ⟨rfl, rfl, by omega⟩), (fun q => by cases q), hg, O', Nat.le_trans Z0 K.1⟩
theorem fpU (l : Launch) (Z : State) (a0 : Array Value) (hw : ∀ d ∈ tables_1, d.before a0 Z = true) (s_ pz no_ nl nc : Addr) (io : Bool) (O_ P_ M_ lv : Nat) (h0 : Heap) (n0 : Nat) (SA_ : Sta Z Z.heap "com/example/ariel/ariel/cbor/CborSequence" "NOTHING" "[B" (.ref no_)) (SB_ : Sta Z Z.heap "com/example/ariel/ariel/cbor/CborSequence" "NO_LENGTHS" "[J" (.ref nl)) (SC_ : Sta Z Z.heap "com/example/ariel/ariel/cbor/CborSequence" "NO_CUTS" "[I" (.ref nc)) (kl_ kc_ : ClassId) (vl_ vc_ : List Value) (VB_ : Arv Z Z.heap nl kl_ .long (0 : Int32) vl_ (.long (0 : Int64))) (VC_ : Arv Z Z.heap nc kc_ .int (0 : Int32) vc_ (.int (0 : Int32))) (hlv : lv ≤ 100) (J : own_I Z h0 n0 s_ pz nl nc io O_ P_ lv) : Met1 l (⟨"com/example/ariel/ariel/cbor/CborSequence", "footprint", "()J"⟩ : MethodName) prog_32_method_13_code 1 (some .long) [] ({ frames := 0, cells := 0, slots := 0, locals := 0 } : Room) #[.ref s_] Z h0 (RV fun vv h L => vv = .long (own_l O_ + own_l (12 * lv)) ∧ h = h0 ∧ Fr n0 L) := by
  obtain ⟨bu, ow, od, ub, A_, sc, dp, sk, mx, mi, sl, kl, cl, kb, ko, kq, kp, nb, vb, vo, vq, vp, Q, Vb, Vo, Vq, Vp, g_s_, hsb, hso, hsq, hsp, hpo, hqo, hab, hnb, hO, hT, hF, hg, O, Z0⟩ := J
  refine (rm35 l Z a0 hw [] s_ bu ow od ub nl nc (own_i A_) (own_i (A_ + P_)) sc dp sk mx mi sl kl cl ko kc_ kl_ kq (own_i O_) (own_i (8 + lv)) vo vc_ vl_ vq h0 n0 Z0 Q Vo (VC_.ext O.2) (VB_.ext O.2) Vq).imp ?_
  rintro v h L ⟨z, rfl, rfl, rfl, N⟩
  exact ⟨_, rfl, congrArg Value.long (own_fpe (by omega) (by omega)), rfl, N⟩
theorem i0_0 : Ins1 code 0 (.iload_n 0) 1 1 := ⟨at_0, rfl⟩
theorem i0_1 : Ins1 code 1 (.ldc 7) 2 3 := ⟨at_1, rfl⟩
theorem i0_3 : Ins1 code 3 (.iand) 1 4 := ⟨at_3, rfl⟩
theorem i0_4 : Ins1 code 4 (.bipush 18) 2 6 := ⟨at_4, rfl⟩
theorem i0_6 : Ins1 code 6 (.irem) 1 7 := ⟨at_6, rfl⟩
theorem i0_7 : Ins1 code 7 (.istore 6) 2 9 := ⟨at_7, rfl⟩
theorem i0_9 : Ins1 code 9 (.iload_n 0) 1 10 := ⟨at_9, rfl⟩
theorem i0_10 : Ins1 code 10 (.bipush 8) 2 12 := ⟨at_10, rfl⟩
theorem i0_12 : Ins1 code 12 (.iushr) 1 13 := ⟨at_12, rfl⟩
theorem i0_13 : Ins1 code 13 (.sipush 255) 3 16 := ⟨at_13, rfl⟩
theorem i0_16 : Ins1 code 16 (.iand) 1 17 := ⟨at_16, rfl⟩
theorem i0_17 : Ins1 code 17 (.bipush 24) 2 19 := ⟨at_17, rfl⟩
theorem i0_19 : Ins1 code 19 (.irem) 1 20 := ⟨at_19, rfl⟩
theorem i0_20 : Ins1 code 20 (.istore 7) 2 22 := ⟨at_20, rfl⟩
theorem i0_22 : Ins1 code 22 (.iload_n 1) 1 23 := ⟨at_22, rfl⟩
theorem i0_23 : Ins1 code 23 (.ldc 7) 2 25 := ⟨at_23, rfl⟩
theorem i0_25 : Ins1 code 25 (.iand) 1 26 := ⟨at_25, rfl⟩
theorem i0_26 : Ins1 code 26 (.iload 7) 2 28 := ⟨at_26, rfl⟩
theorem i0_28 : Ins1 code 28 (.iconst 1) 1 29 := ⟨at_28, rfl⟩
theorem i0_29 : Ins1 code 29 (.iadd) 1 30 := ⟨at_29, rfl⟩
theorem i0_30 : Ins1 code 30 (.irem) 1 31 := ⟨at_30, rfl⟩
theorem i0_31 : Ins1 code 31 (.istore 8) 2 33 := ⟨at_31, rfl⟩
theorem i0_33 : Ins1 code 33 (.iload_n 2) 1 34 := ⟨at_33, rfl⟩
theorem i0_34 : Ins1 code 34 (.ldc 7) 2 36 := ⟨at_34, rfl⟩
theorem i0_36 : Ins1 code 36 (.iand) 1 37 := ⟨at_36, rfl⟩
theorem i0_37 : Ins1 code 37 (.bipush 41) 2 39 := ⟨at_37, rfl⟩
theorem i0_39 : Ins1 code 39 (.irem) 1 40 := ⟨at_39, rfl⟩
theorem i0_40 : Ins1 code 40 (.istore 9) 2 42 := ⟨at_40, rfl⟩
theorem i0_42 : Ins1 code 42 (.iload_n 3) 1 43 := ⟨at_42, rfl⟩
theorem i0_43 : Ins1 code 43 (.ldc 7) 2 45 := ⟨at_43, rfl⟩
theorem i0_45 : Ins1 code 45 (.iand) 1 46 := ⟨at_45, rfl⟩
theorem i0_46 : Ins1 code 46 (.bipush 41) 2 48 := ⟨at_46, rfl⟩
theorem i0_48 : Ins1 code 48 (.irem) 1 49 := ⟨at_48, rfl⟩
theorem i0_49 : Ins1 code 49 (.istore 10) 2 51 := ⟨at_49, rfl⟩
theorem i0_51 : Ins1 code 51 (.iload_n 0) 1 52 := ⟨at_51, rfl⟩
theorem i0_52 : Ins1 code 52 (.bipush 16) 2 54 := ⟨at_52, rfl⟩
theorem i0_54 : Ins1 code 54 (.iushr) 1 55 := ⟨at_54, rfl⟩
theorem i0_55 : Ins1 code 55 (.iconst 1) 1 56 := ⟨at_55, rfl⟩
theorem i0_56 : Ins1 code 56 (.iand) 1 57 := ⟨at_56, rfl⟩
theorem i0_57 : InsB code 57 (.ifCond .eq 7) 7 60 64 := ⟨at_57, rfl, by decide, by decide⟩
theorem i0_60 : Ins1 code 60 (.iconst 1) 1 61 := ⟨at_60, rfl⟩
theorem i0_61 : InsB code 61 (.goto 4) 4 64 65 := ⟨at_61, rfl, by decide, by decide⟩
theorem i0_64 : Ins1 code 64 (.iconst 0) 1 65 := ⟨at_64, rfl⟩
theorem i0_65 : Ins1 code 65 (.istore 11) 2 67 := ⟨at_65, rfl⟩
theorem i0_67 : Ins1 code 67 (.iload_n 0) 1 68 := ⟨at_67, rfl⟩
theorem i0_68 : Ins1 code 68 (.bipush 17) 2 70 := ⟨at_68, rfl⟩
theorem i0_70 : Ins1 code 70 (.iushr) 1 71 := ⟨at_70, rfl⟩
theorem i0_71 : Ins1 code 71 (.iconst 1) 1 72 := ⟨at_71, rfl⟩
theorem i0_72 : Ins1 code 72 (.iand) 1 73 := ⟨at_72, rfl⟩
theorem i0_73 : InsB code 73 (.ifCond .eq 7) 7 76 80 := ⟨at_73, rfl, by decide, by decide⟩
theorem i0_76 : Ins1 code 76 (.iconst 1) 1 77 := ⟨at_76, rfl⟩
theorem i0_77 : InsB code 77 (.goto 4) 4 80 81 := ⟨at_77, rfl, by decide, by decide⟩
theorem i0_80 : Ins1 code 80 (.iconst 0) 1 81 := ⟨at_80, rfl⟩
theorem i0_81 : Ins1 code 81 (.istore 12) 2 83 := ⟨at_81, rfl⟩
theorem i0_83 : Ins1 code 83 (.bipush (-97)) 2 85 := ⟨at_83, rfl⟩
theorem i0_85 : Ins1 code 85 (.istore 13) 2 87 := ⟨at_85, rfl⟩
theorem i0_87 : Ins1 code 87 (.bipush 41) 2 89 := ⟨at_87, rfl⟩
theorem i0_89 : Ins1 code 89 (.newarray .byte) 2 91 := ⟨at_89, rfl⟩
theorem i0_91 : Ins1 code 91 (.dup) 1 92 := ⟨at_91, rfl⟩
theorem i0_92 : Ins1 code 92 (.iconst 0) 1 93 := ⟨at_92, rfl⟩
theorem i0_93 : Ins1 code 93 (.iload 13) 2 95 := ⟨at_93, rfl⟩
theorem i0_95 : Ins1 code 95 (.bastore) 1 96 := ⟨at_95, rfl⟩
theorem i0_96 : Ins1 code 96 (.dup) 1 97 := ⟨at_96, rfl⟩
theorem i0_97 : Ins1 code 97 (.iconst 1) 1 98 := ⟨at_97, rfl⟩
theorem i0_98 : Ins1 code 98 (.iload 13) 2 100 := ⟨at_98, rfl⟩
theorem i0_100 : Ins1 code 100 (.bastore) 1 101 := ⟨at_100, rfl⟩
theorem i0_101 : Ins1 code 101 (.dup) 1 102 := ⟨at_101, rfl⟩
theorem i0_102 : Ins1 code 102 (.iconst 2) 1 103 := ⟨at_102, rfl⟩
theorem i0_103 : Ins1 code 103 (.iload 13) 2 105 := ⟨at_103, rfl⟩
theorem i0_105 : Ins1 code 105 (.bastore) 1 106 := ⟨at_105, rfl⟩
theorem i0_106 : Ins1 code 106 (.dup) 1 107 := ⟨at_106, rfl⟩
theorem i0_107 : Ins1 code 107 (.iconst 3) 1 108 := ⟨at_107, rfl⟩
theorem i0_108 : Ins1 code 108 (.iload 13) 2 110 := ⟨at_108, rfl⟩
theorem i0_110 : Ins1 code 110 (.bastore) 1 111 := ⟨at_110, rfl⟩
theorem i0_111 : Ins1 code 111 (.dup) 1 112 := ⟨at_111, rfl⟩
theorem i0_112 : Ins1 code 112 (.iconst 4) 1 113 := ⟨at_112, rfl⟩
theorem i0_113 : Ins1 code 113 (.iload 13) 2 115 := ⟨at_113, rfl⟩
theorem i0_115 : Ins1 code 115 (.bastore) 1 116 := ⟨at_115, rfl⟩
theorem i0_116 : Ins1 code 116 (.dup) 1 117 := ⟨at_116, rfl⟩
theorem i0_117 : Ins1 code 117 (.iconst 5) 1 118 := ⟨at_117, rfl⟩
theorem i0_118 : Ins1 code 118 (.iload 13) 2 120 := ⟨at_118, rfl⟩
theorem i0_120 : Ins1 code 120 (.bastore) 1 121 := ⟨at_120, rfl⟩
theorem i0_121 : Ins1 code 121 (.dup) 1 122 := ⟨at_121, rfl⟩
theorem i0_122 : Ins1 code 122 (.bipush 6) 2 124 := ⟨at_122, rfl⟩
theorem i0_124 : Ins1 code 124 (.iload 13) 2 126 := ⟨at_124, rfl⟩
theorem i0_126 : Ins1 code 126 (.bastore) 1 127 := ⟨at_126, rfl⟩
theorem i0_127 : Ins1 code 127 (.dup) 1 128 := ⟨at_127, rfl⟩
theorem i0_128 : Ins1 code 128 (.bipush 7) 2 130 := ⟨at_128, rfl⟩
theorem i0_130 : Ins1 code 130 (.iload 13) 2 132 := ⟨at_130, rfl⟩
theorem i0_132 : Ins1 code 132 (.bastore) 1 133 := ⟨at_132, rfl⟩
theorem i0_133 : Ins1 code 133 (.dup) 1 134 := ⟨at_133, rfl⟩
theorem i0_134 : Ins1 code 134 (.bipush 8) 2 136 := ⟨at_134, rfl⟩
theorem i0_136 : Ins1 code 136 (.iload 13) 2 138 := ⟨at_136, rfl⟩
theorem i0_138 : Ins1 code 138 (.bastore) 1 139 := ⟨at_138, rfl⟩
theorem i0_139 : Ins1 code 139 (.dup) 1 140 := ⟨at_139, rfl⟩
theorem i0_140 : Ins1 code 140 (.bipush 9) 2 142 := ⟨at_140, rfl⟩
theorem i0_142 : Ins1 code 142 (.iload 13) 2 144 := ⟨at_142, rfl⟩
theorem i0_144 : Ins1 code 144 (.bastore) 1 145 := ⟨at_144, rfl⟩
theorem i0_145 : Ins1 code 145 (.dup) 1 146 := ⟨at_145, rfl⟩
theorem i0_146 : Ins1 code 146 (.bipush 10) 2 148 := ⟨at_146, rfl⟩
theorem i0_148 : Ins1 code 148 (.iload 13) 2 150 := ⟨at_148, rfl⟩
theorem i0_150 : Ins1 code 150 (.bastore) 1 151 := ⟨at_150, rfl⟩
theorem i0_151 : Ins1 code 151 (.dup) 1 152 := ⟨at_151, rfl⟩
theorem i0_152 : Ins1 code 152 (.bipush 11) 2 154 := ⟨at_152, rfl⟩
theorem i0_154 : Ins1 code 154 (.iload 13) 2 156 := ⟨at_154, rfl⟩
theorem i0_156 : Ins1 code 156 (.bastore) 1 157 := ⟨at_156, rfl⟩
theorem i0_157 : Ins1 code 157 (.dup) 1 158 := ⟨at_157, rfl⟩
theorem i0_158 : Ins1 code 158 (.bipush 12) 2 160 := ⟨at_158, rfl⟩
theorem i0_160 : Ins1 code 160 (.iload 13) 2 162 := ⟨at_160, rfl⟩
theorem i0_162 : Ins1 code 162 (.bastore) 1 163 := ⟨at_162, rfl⟩
theorem i0_163 : Ins1 code 163 (.dup) 1 164 := ⟨at_163, rfl⟩
theorem i0_164 : Ins1 code 164 (.bipush 13) 2 166 := ⟨at_164, rfl⟩
theorem i0_166 : Ins1 code 166 (.iload 13) 2 168 := ⟨at_166, rfl⟩
theorem i0_168 : Ins1 code 168 (.bastore) 1 169 := ⟨at_168, rfl⟩
theorem i0_169 : Ins1 code 169 (.dup) 1 170 := ⟨at_169, rfl⟩
theorem i0_170 : Ins1 code 170 (.bipush 14) 2 172 := ⟨at_170, rfl⟩
theorem i0_172 : Ins1 code 172 (.iload 13) 2 174 := ⟨at_172, rfl⟩
theorem i0_174 : Ins1 code 174 (.bastore) 1 175 := ⟨at_174, rfl⟩
theorem i0_175 : Ins1 code 175 (.dup) 1 176 := ⟨at_175, rfl⟩
theorem i0_176 : Ins1 code 176 (.bipush 15) 2 178 := ⟨at_176, rfl⟩
theorem i0_178 : Ins1 code 178 (.iload 13) 2 180 := ⟨at_178, rfl⟩
theorem i0_180 : Ins1 code 180 (.bastore) 1 181 := ⟨at_180, rfl⟩
theorem i0_181 : Ins1 code 181 (.dup) 1 182 := ⟨at_181, rfl⟩
theorem i0_182 : Ins1 code 182 (.bipush 16) 2 184 := ⟨at_182, rfl⟩
theorem i0_184 : Ins1 code 184 (.iload 13) 2 186 := ⟨at_184, rfl⟩
theorem i0_186 : Ins1 code 186 (.bastore) 1 187 := ⟨at_186, rfl⟩
theorem i0_187 : Ins1 code 187 (.dup) 1 188 := ⟨at_187, rfl⟩
theorem i0_188 : Ins1 code 188 (.bipush 17) 2 190 := ⟨at_188, rfl⟩
theorem i0_190 : Ins1 code 190 (.iload 13) 2 192 := ⟨at_190, rfl⟩
theorem i0_192 : Ins1 code 192 (.bastore) 1 193 := ⟨at_192, rfl⟩
theorem i0_193 : Ins1 code 193 (.dup) 1 194 := ⟨at_193, rfl⟩
theorem i0_194 : Ins1 code 194 (.bipush 18) 2 196 := ⟨at_194, rfl⟩
theorem i0_196 : Ins1 code 196 (.iload 13) 2 198 := ⟨at_196, rfl⟩
theorem i0_198 : Ins1 code 198 (.bastore) 1 199 := ⟨at_198, rfl⟩
theorem i0_199 : Ins1 code 199 (.dup) 1 200 := ⟨at_199, rfl⟩
theorem i0_200 : Ins1 code 200 (.bipush 19) 2 202 := ⟨at_200, rfl⟩
theorem i0_202 : Ins1 code 202 (.iload 13) 2 204 := ⟨at_202, rfl⟩
theorem i0_204 : Ins1 code 204 (.bastore) 1 205 := ⟨at_204, rfl⟩
theorem i0_205 : Ins1 code 205 (.dup) 1 206 := ⟨at_205, rfl⟩
theorem i0_206 : Ins1 code 206 (.bipush 20) 2 208 := ⟨at_206, rfl⟩
theorem i0_208 : Ins1 code 208 (.iload 13) 2 210 := ⟨at_208, rfl⟩
theorem i0_210 : Ins1 code 210 (.bastore) 1 211 := ⟨at_210, rfl⟩
theorem i0_211 : Ins1 code 211 (.dup) 1 212 := ⟨at_211, rfl⟩
theorem i0_212 : Ins1 code 212 (.bipush 21) 2 214 := ⟨at_212, rfl⟩
theorem i0_214 : Ins1 code 214 (.iload 13) 2 216 := ⟨at_214, rfl⟩
theorem i0_216 : Ins1 code 216 (.bastore) 1 217 := ⟨at_216, rfl⟩
theorem i0_217 : Ins1 code 217 (.dup) 1 218 := ⟨at_217, rfl⟩
theorem i0_218 : Ins1 code 218 (.bipush 22) 2 220 := ⟨at_218, rfl⟩
theorem i0_220 : Ins1 code 220 (.iload 13) 2 222 := ⟨at_220, rfl⟩
theorem i0_222 : Ins1 code 222 (.bastore) 1 223 := ⟨at_222, rfl⟩
theorem i0_223 : Ins1 code 223 (.dup) 1 224 := ⟨at_223, rfl⟩
theorem i0_224 : Ins1 code 224 (.bipush 23) 2 226 := ⟨at_224, rfl⟩
theorem i0_226 : Ins1 code 226 (.iload 13) 2 228 := ⟨at_226, rfl⟩
theorem i0_228 : Ins1 code 228 (.bastore) 1 229 := ⟨at_228, rfl⟩
theorem i0_229 : Ins1 code 229 (.dup) 1 230 := ⟨at_229, rfl⟩
theorem i0_230 : Ins1 code 230 (.bipush 24) 2 232 := ⟨at_230, rfl⟩
theorem i0_232 : Ins1 code 232 (.iload 13) 2 234 := ⟨at_232, rfl⟩
theorem i0_234 : Ins1 code 234 (.bastore) 1 235 := ⟨at_234, rfl⟩
theorem i0_235 : Ins1 code 235 (.dup) 1 236 := ⟨at_235, rfl⟩
theorem i0_236 : Ins1 code 236 (.bipush 25) 2 238 := ⟨at_236, rfl⟩
theorem i0_238 : Ins1 code 238 (.iload 13) 2 240 := ⟨at_238, rfl⟩
theorem i0_240 : Ins1 code 240 (.bastore) 1 241 := ⟨at_240, rfl⟩
theorem i0_241 : Ins1 code 241 (.dup) 1 242 := ⟨at_241, rfl⟩
theorem i0_242 : Ins1 code 242 (.bipush 26) 2 244 := ⟨at_242, rfl⟩
theorem i0_244 : Ins1 code 244 (.iload 13) 2 246 := ⟨at_244, rfl⟩
theorem i0_246 : Ins1 code 246 (.bastore) 1 247 := ⟨at_246, rfl⟩
theorem i0_247 : Ins1 code 247 (.dup) 1 248 := ⟨at_247, rfl⟩
theorem i0_248 : Ins1 code 248 (.bipush 27) 2 250 := ⟨at_248, rfl⟩
theorem i0_250 : Ins1 code 250 (.iload 13) 2 252 := ⟨at_250, rfl⟩
theorem i0_252 : Ins1 code 252 (.bastore) 1 253 := ⟨at_252, rfl⟩
theorem i0_253 : Ins1 code 253 (.dup) 1 254 := ⟨at_253, rfl⟩
theorem i0_254 : Ins1 code 254 (.bipush 28) 2 256 := ⟨at_254, rfl⟩
theorem i0_256 : Ins1 code 256 (.iload 13) 2 258 := ⟨at_256, rfl⟩
theorem i0_258 : Ins1 code 258 (.bastore) 1 259 := ⟨at_258, rfl⟩
theorem i0_259 : Ins1 code 259 (.dup) 1 260 := ⟨at_259, rfl⟩
theorem i0_260 : Ins1 code 260 (.bipush 29) 2 262 := ⟨at_260, rfl⟩
theorem i0_262 : Ins1 code 262 (.iload 13) 2 264 := ⟨at_262, rfl⟩
theorem i0_264 : Ins1 code 264 (.bastore) 1 265 := ⟨at_264, rfl⟩
theorem i0_265 : Ins1 code 265 (.dup) 1 266 := ⟨at_265, rfl⟩
theorem i0_266 : Ins1 code 266 (.bipush 30) 2 268 := ⟨at_266, rfl⟩
theorem i0_268 : Ins1 code 268 (.iload 13) 2 270 := ⟨at_268, rfl⟩
theorem i0_270 : Ins1 code 270 (.bastore) 1 271 := ⟨at_270, rfl⟩
theorem i0_271 : Ins1 code 271 (.dup) 1 272 := ⟨at_271, rfl⟩
theorem i0_272 : Ins1 code 272 (.bipush 31) 2 274 := ⟨at_272, rfl⟩
theorem i0_274 : Ins1 code 274 (.iload 13) 2 276 := ⟨at_274, rfl⟩
theorem i0_276 : Ins1 code 276 (.bastore) 1 277 := ⟨at_276, rfl⟩
theorem i0_277 : Ins1 code 277 (.dup) 1 278 := ⟨at_277, rfl⟩
theorem i0_278 : Ins1 code 278 (.bipush 32) 2 280 := ⟨at_278, rfl⟩
theorem i0_280 : Ins1 code 280 (.iload 13) 2 282 := ⟨at_280, rfl⟩
theorem i0_282 : Ins1 code 282 (.bastore) 1 283 := ⟨at_282, rfl⟩
theorem i0_283 : Ins1 code 283 (.dup) 1 284 := ⟨at_283, rfl⟩
theorem i0_284 : Ins1 code 284 (.bipush 33) 2 286 := ⟨at_284, rfl⟩
theorem i0_286 : Ins1 code 286 (.iload 13) 2 288 := ⟨at_286, rfl⟩
theorem i0_288 : Ins1 code 288 (.bastore) 1 289 := ⟨at_288, rfl⟩
theorem i0_289 : Ins1 code 289 (.dup) 1 290 := ⟨at_289, rfl⟩
theorem i0_290 : Ins1 code 290 (.bipush 34) 2 292 := ⟨at_290, rfl⟩
theorem i0_292 : Ins1 code 292 (.iload 13) 2 294 := ⟨at_292, rfl⟩
theorem i0_294 : Ins1 code 294 (.bastore) 1 295 := ⟨at_294, rfl⟩
theorem i0_295 : Ins1 code 295 (.dup) 1 296 := ⟨at_295, rfl⟩
theorem i0_296 : Ins1 code 296 (.bipush 35) 2 298 := ⟨at_296, rfl⟩
theorem i0_298 : Ins1 code 298 (.iload 13) 2 300 := ⟨at_298, rfl⟩
theorem i0_300 : Ins1 code 300 (.bastore) 1 301 := ⟨at_300, rfl⟩
theorem i0_301 : Ins1 code 301 (.dup) 1 302 := ⟨at_301, rfl⟩
theorem i0_302 : Ins1 code 302 (.bipush 36) 2 304 := ⟨at_302, rfl⟩
theorem i0_304 : Ins1 code 304 (.iload 13) 2 306 := ⟨at_304, rfl⟩
theorem i0_306 : Ins1 code 306 (.bastore) 1 307 := ⟨at_306, rfl⟩
theorem i0_307 : Ins1 code 307 (.dup) 1 308 := ⟨at_307, rfl⟩
theorem i0_308 : Ins1 code 308 (.bipush 37) 2 310 := ⟨at_308, rfl⟩
theorem i0_310 : Ins1 code 310 (.iload 13) 2 312 := ⟨at_310, rfl⟩
theorem i0_312 : Ins1 code 312 (.bastore) 1 313 := ⟨at_312, rfl⟩
theorem i0_313 : Ins1 code 313 (.dup) 1 314 := ⟨at_313, rfl⟩
theorem i0_314 : Ins1 code 314 (.bipush 38) 2 316 := ⟨at_314, rfl⟩
theorem i0_316 : Ins1 code 316 (.iload 13) 2 318 := ⟨at_316, rfl⟩
theorem i0_318 : Ins1 code 318 (.bastore) 1 319 := ⟨at_318, rfl⟩
theorem i0_319 : Ins1 code 319 (.dup) 1 320 := ⟨at_319, rfl⟩
theorem i0_320 : Ins1 code 320 (.bipush 39) 2 322 := ⟨at_320, rfl⟩
theorem i0_322 : Ins1 code 322 (.iload 13) 2 324 := ⟨at_322, rfl⟩
theorem i0_324 : Ins1 code 324 (.bastore) 1 325 := ⟨at_324, rfl⟩
theorem i0_325 : Ins1 code 325 (.dup) 1 326 := ⟨at_325, rfl⟩
theorem i0_326 : Ins1 code 326 (.bipush 40) 2 328 := ⟨at_326, rfl⟩
theorem i0_328 : Ins1 code 328 (.iload 13) 2 330 := ⟨at_328, rfl⟩
theorem i0_330 : Ins1 code 330 (.bastore) 1 331 := ⟨at_330, rfl⟩
theorem i0_331 : Ins1 code 331 (.astore 14) 2 333 := ⟨at_331, rfl⟩
theorem i0_333 : Ins1 code 333 (.aload 14) 2 335 := ⟨at_333, rfl⟩
theorem i0_335 : Ins1 code 335 (.bipush 17) 2 337 := ⟨at_335, rfl⟩
theorem i0_337 : Ins1 code 337 (.bipush 64) 2 339 := ⟨at_337, rfl⟩
theorem i0_339 : Ins1 code 339 (.iload 7) 2 341 := ⟨at_339, rfl⟩
theorem i0_341 : Ins1 code 341 (.ior) 1 342 := ⟨at_341, rfl⟩
theorem i0_342 : Ins1 code 342 (.i2b) 1 343 := ⟨at_342, rfl⟩
theorem i0_343 : Ins1 code 343 (.bastore) 1 344 := ⟨at_343, rfl⟩
theorem i0_344 : Ins1 code 344 (.bipush 40) 2 346 := ⟨at_344, rfl⟩
theorem i0_346 : Ins1 code 346 (.newarray .byte) 2 348 := ⟨at_346, rfl⟩
theorem i0_348 : Ins1 code 348 (.astore 15) 2 350 := ⟨at_348, rfl⟩
theorem i0_350 : Ins1 code 350 (.new 8) 3 353 := ⟨at_350, rfl⟩
theorem i0_353 : Ins1 code 353 (.dup) 1 354 := ⟨at_353, rfl⟩
theorem i0_354 : Ins1 code 354 (.iload 4) 2 356 := ⟨at_354, rfl⟩
theorem i0_356 : Ins1 code 356 (.bipush 41) 2 358 := ⟨at_356, rfl⟩
theorem i0_358 : Ins1 code 358 (.invokestatic 10) 3 361 := ⟨at_358, rfl⟩
theorem i0_361 : Ins1 code 361 (.iload 5) 2 363 := ⟨at_361, rfl⟩
theorem i0_363 : Ins1 code 363 (.iconst 1) 1 364 := ⟨at_363, rfl⟩
theorem i0_364 : Ins1 code 364 (.invokestatic 10) 3 367 := ⟨at_364, rfl⟩
theorem i0_367 : Ins1 code 367 (.invokespecial 16) 3 370 := ⟨at_367, rfl⟩
theorem i0_370 : Ins1 code 370 (.astore 16) 2 372 := ⟨at_370, rfl⟩
theorem i0_372 : Ins1 code 372 (.aload 16) 2 374 := ⟨at_372, rfl⟩
theorem i0_374 : Ins1 code 374 (.aload 14) 2 376 := ⟨at_374, rfl⟩
theorem i0_376 : Ins1 code 376 (.bipush 17) 2 378 := ⟨at_376, rfl⟩
theorem i0_378 : Ins1 code 378 (.iload 6) 2 380 := ⟨at_378, rfl⟩
theorem i0_380 : Ins1 code 380 (.isub) 1 381 := ⟨at_380, rfl⟩
theorem i0_381 : Ins1 code 381 (.iload 6) 2 383 := ⟨at_381, rfl⟩
theorem i0_383 : Ins1 code 383 (.iconst 1) 1 384 := ⟨at_383, rfl⟩
theorem i0_384 : Ins1 code 384 (.iadd) 1 385 := ⟨at_384, rfl⟩
theorem i0_385 : Ins1 code 385 (.iload 8) 2 387 := ⟨at_385, rfl⟩
theorem i0_387 : Ins1 code 387 (.iadd) 1 388 := ⟨at_387, rfl⟩
theorem i0_388 : Ins1 code 388 (.invokevirtual 19) 3 391 := ⟨at_388, rfl⟩
theorem i0_391 : Ins1 code 391 (.aload 16) 2 393 := ⟨at_391, rfl⟩
theorem i0_393 : Ins1 code 393 (.invokevirtual 23) 3 396 := ⟨at_393, rfl⟩
theorem i0_396 : Ins1 code 396 (.pop) 1 397 := ⟨at_396, rfl⟩
theorem i0_397 : Ins1 code 397 (.iload 6) 2 399 := ⟨at_397, rfl⟩
theorem i0_399 : Ins1 code 399 (.bipush 8) 2 401 := ⟨at_399, rfl⟩
theorem i0_401 : InsB code 401 (.if_icmp .gt 7) 7 404 408 := ⟨at_401, rfl, by decide, by decide⟩
theorem i0_404 : Ins1 code 404 (.lconst 0) 1 405 := ⟨at_404, rfl⟩
theorem i0_405 : InsB code 405 (.goto 19) 19 408 424 := ⟨at_405, rfl, by decide, by decide⟩
theorem i0_408 : Ins1 code 408 (.iload 6) 2 410 := ⟨at_408, rfl⟩
theorem i0_410 : Ins1 code 410 (.bipush 16) 2 412 := ⟨at_410, rfl⟩
theorem i0_412 : InsB code 412 (.if_icmp .gt 9) 9 415 421 := ⟨at_412, rfl, by decide, by decide⟩
theorem i0_415 : Ins1 code 415 (.ldc2_w 27) 3 418 := ⟨at_415, rfl⟩
theorem i0_418 : InsB code 418 (.goto 6) 6 421 424 := ⟨at_418, rfl, by decide, by decide⟩
theorem i0_421 : Ins1 code 421 (.ldc2_w 29) 3 424 := ⟨at_421, rfl⟩
theorem i0_424 : Ins1 code 424 (.lstore 17) 2 426 := ⟨at_424, rfl⟩
theorem i0_426 : Ins1 code 426 (.iload 6) 2 428 := ⟨at_426, rfl⟩
theorem i0_428 : InsB code 428 (.ifCond .ne 14) 14 431 442 := ⟨at_428, rfl, by decide, by decide⟩
theorem i0_431 : Ins1 code 431 (.iload 8) 2 433 := ⟨at_431, rfl⟩
theorem i0_433 : Ins1 code 433 (.iload 7) 2 435 := ⟨at_433, rfl⟩
theorem i0_435 : InsB code 435 (.if_icmp .ne 7) 7 438 442 := ⟨at_435, rfl, by decide, by decide⟩
theorem i0_438 : Ins1 code 438 (.iconst 1) 1 439 := ⟨at_438, rfl⟩
theorem i0_439 : InsB code 439 (.goto 4) 4 442 443 := ⟨at_439, rfl, by decide, by decide⟩
theorem i0_442 : Ins1 code 442 (.iconst 0) 1 443 := ⟨at_442, rfl⟩
theorem i0_443 : Ins1 code 443 (.istore 19) 2 445 := ⟨at_443, rfl⟩
theorem i0_445 : Ins1 code 445 (.iload 19) 2 447 := ⟨at_445, rfl⟩
theorem i0_447 : InsB code 447 (.ifCond .eq 7) 7 450 454 := ⟨at_447, rfl, by decide, by decide⟩
theorem i0_450 : Ins1 code 450 (.lconst 0) 1 451 := ⟨at_450, rfl⟩
theorem i0_451 : InsB code 451 (.goto 11) 11 454 462 := ⟨at_451, rfl, by decide, by decide⟩
theorem i0_454 : Ins1 code 454 (.iload 6) 2 456 := ⟨at_454, rfl⟩
theorem i0_456 : Ins1 code 456 (.iconst 1) 1 457 := ⟨at_456, rfl⟩
theorem i0_457 : Ins1 code 457 (.iadd) 1 458 := ⟨at_457, rfl⟩
theorem i0_458 : Ins1 code 458 (.iload 8) 2 460 := ⟨at_458, rfl⟩
theorem i0_460 : Ins1 code 460 (.iadd) 1 461 := ⟨at_460, rfl⟩
theorem i0_461 : Ins1 code 461 (.i2l) 1 462 := ⟨at_461, rfl⟩
theorem i0_462 : Ins1 code 462 (.lstore 20) 2 464 := ⟨at_462, rfl⟩
theorem i0_464 : Ins1 code 464 (.lconst 0) 1 465 := ⟨at_464, rfl⟩
theorem i0_465 : Ins1 code 465 (.lstore 22) 2 467 := ⟨at_465, rfl⟩
theorem i0_467 : Ins1 code 467 (.iconst 0) 1 468 := ⟨at_467, rfl⟩
theorem i0_468 : Ins1 code 468 (.istore 24) 2 470 := ⟨at_468, rfl⟩
theorem i0_470 : Ins1 code 470 (.iload 11) 2 472 := ⟨at_470, rfl⟩
theorem i0_472 : InsB code 472 (.ifCond .eq 35) 35 475 507 := ⟨at_472, rfl, by decide, by decide⟩
theorem i0_475 : Ins1 code 475 (.aload 16) 2 477 := ⟨at_475, rfl⟩
theorem i0_477 : Ins1 code 477 (.invokevirtual 31) 3 480 := ⟨at_477, rfl⟩
theorem i0_480 : Ins1 code 480 (.lload 22) 2 482 := ⟨at_480, rfl⟩
theorem i0_482 : Ins1 code 482 (.lload 20) 2 484 := ⟨at_482, rfl⟩
theorem i0_484 : Ins1 code 484 (.lcmp) 1 485 := ⟨at_484, rfl⟩
theorem i0_485 : InsB code 485 (.ifCond .lt 15) 15 488 500 := ⟨at_485, rfl, by decide, by decide⟩
theorem i0_488 : Ins1 code 488 (.lload 22) 2 490 := ⟨at_488, rfl⟩
theorem i0_490 : Ins1 code 490 (.ldc2_w 34) 3 493 := ⟨at_490, rfl⟩
theorem i0_493 : Ins1 code 493 (.lload 20) 2 495 := ⟨at_493, rfl⟩
theorem i0_495 : Ins1 code 495 (.lmul) 1 496 := ⟨at_495, rfl⟩
theorem i0_496 : Ins1 code 496 (.lcmp) 1 497 := ⟨at_496, rfl⟩
theorem i0_497 : InsB code 497 (.ifCond .le 7) 7 500 504 := ⟨at_497, rfl, by decide, by decide⟩
theorem i0_500 : Ins1 code 500 (.lload 20) 2 502 := ⟨at_500, rfl⟩
theorem i0_502 : Ins1 code 502 (.lstore 22) 2 504 := ⟨at_502, rfl⟩
theorem i0_504 : Ins1 code 504 (.iconst 1) 1 505 := ⟨at_504, rfl⟩
theorem i0_505 : Ins1 code 505 (.istore 24) 2 507 := ⟨at_505, rfl⟩
theorem i0_507 : Ins1 code 507 (.aload 16) 2 509 := ⟨at_507, rfl⟩
theorem i0_509 : Ins1 code 509 (.invokevirtual 36) 3 512 := ⟨at_509, rfl⟩
theorem i0_512 : Ins1 code 512 (.lload 22) 2 514 := ⟨at_512, rfl⟩
theorem i0_514 : Ins1 code 514 (.lload 17) 2 516 := ⟨at_514, rfl⟩
theorem i0_516 : Ins1 code 516 (.ladd) 1 517 := ⟨at_516, rfl⟩
theorem i0_517 : Ins1 code 517 (.lcmp) 1 518 := ⟨at_517, rfl⟩
theorem i0_518 : InsB code 518 (.ifCond .ne 7) 7 521 525 := ⟨at_518, rfl, by decide, by decide⟩
theorem i0_521 : Ins1 code 521 (.iconst 1) 1 522 := ⟨at_521, rfl⟩
theorem i0_522 : InsB code 522 (.goto 4) 4 525 526 := ⟨at_522, rfl, by decide, by decide⟩
theorem i0_526 : Ins1 code 526 (.istore 25) 2 528 := ⟨at_526, rfl⟩
theorem i0_528 : Ins1 code 528 (.lload 20) 2 530 := ⟨at_528, rfl⟩
theorem i0_530 : Ins1 code 530 (.lconst 0) 1 531 := ⟨at_530, rfl⟩
theorem i0_531 : Ins1 code 531 (.lcmp) 1 532 := ⟨at_531, rfl⟩
theorem i0_532 : InsB code 532 (.ifCond .ne 9) 9 535 541 := ⟨at_532, rfl, by decide, by decide⟩
theorem i0_535 : Ins1 code 535 (.iconst 0) 1 536 := ⟨at_535, rfl⟩
theorem i0_536 : Ins1 code 536 (.istore 24) 2 538 := ⟨at_536, rfl⟩
theorem i0_538 : InsB code 538 (.goto 52) 52 541 590 := ⟨at_538, rfl, by decide, by decide⟩
theorem i0_541 : Ins1 code 541 (.iload 24) 2 543 := ⟨at_541, rfl⟩
theorem i0_543 : InsB code 543 (.ifCond .eq 15) 15 546 558 := ⟨at_543, rfl, by decide, by decide⟩
theorem i0_546 : Ins1 code 546 (.lload 22) 2 548 := ⟨at_546, rfl⟩
theorem i0_548 : Ins1 code 548 (.lload 20) 2 550 := ⟨at_548, rfl⟩
theorem i0_550 : Ins1 code 550 (.lsub) 1 551 := ⟨at_550, rfl⟩
theorem i0_551 : Ins1 code 551 (.iload 9) 2 553 := ⟨at_551, rfl⟩
theorem i0_553 : Ins1 code 553 (.i2l) 1 554 := ⟨at_553, rfl⟩
theorem i0_554 : Ins1 code 554 (.lcmp) 1 555 := ⟨at_554, rfl⟩
theorem i0_555 : InsB code 555 (.ifCond .ge 35) 35 558 590 := ⟨at_555, rfl, by decide, by decide⟩
theorem i0_558 : Ins1 code 558 (.lload 20) 2 560 := ⟨at_558, rfl⟩
theorem i0_560 : Ins1 code 560 (.iload 9) 2 562 := ⟨at_560, rfl⟩
theorem i0_562 : Ins1 code 562 (.i2l) 1 563 := ⟨at_562, rfl⟩
theorem i0_563 : Ins1 code 563 (.ladd) 1 564 := ⟨at_563, rfl⟩
theorem i0_564 : Ins1 code 564 (.lstore 26) 2 566 := ⟨at_564, rfl⟩
theorem i0_566 : Ins1 code 566 (.lload 26) 2 568 := ⟨at_566, rfl⟩
theorem i0_568 : Ins1 code 568 (.lload 22) 2 570 := ⟨at_568, rfl⟩
theorem i0_570 : Ins1 code 570 (.lcmp) 1 571 := ⟨at_570, rfl⟩
theorem i0_571 : InsB code 571 (.ifCond .le 16) 16 574 587 := ⟨at_571, rfl, by decide, by decide⟩
theorem i0_574 : Ins1 code 574 (.lload 26) 2 576 := ⟨at_574, rfl⟩
theorem i0_576 : Ins1 code 576 (.ldc2_w 34) 3 579 := ⟨at_576, rfl⟩
theorem i0_579 : Ins1 code 579 (.lload 22) 2 581 := ⟨at_579, rfl⟩
theorem i0_581 : Ins1 code 581 (.lmul) 1 582 := ⟨at_581, rfl⟩
theorem i0_582 : Ins1 code 582 (.invokestatic 40) 3 585 := ⟨at_582, rfl⟩
theorem i0_585 : Ins1 code 585 (.lstore 22) 2 587 := ⟨at_585, rfl⟩
theorem i0_587 : Ins1 code 587 (.iconst 1) 1 588 := ⟨at_587, rfl⟩
theorem i0_588 : Ins1 code 588 (.istore 24) 2 590 := ⟨at_588, rfl⟩
theorem i0_590 : Ins1 code 590 (.lload 20) 2 592 := ⟨at_590, rfl⟩
theorem i0_592 : Ins1 code 592 (.iload 9) 2 594 := ⟨at_592, rfl⟩
theorem i0_594 : Ins1 code 594 (.i2l) 1 595 := ⟨at_594, rfl⟩
theorem i0_595 : Ins1 code 595 (.ladd) 1 596 := ⟨at_595, rfl⟩
theorem i0_596 : Ins1 code 596 (.lstore 20) 2 598 := ⟨at_596, rfl⟩
theorem i0_598 : Ins1 code 598 (.aload 16) 2 600 := ⟨at_598, rfl⟩
theorem i0_600 : Ins1 code 600 (.aload 15) 2 602 := ⟨at_600, rfl⟩
theorem i0_602 : Ins1 code 602 (.iconst 0) 1 603 := ⟨at_602, rfl⟩
theorem i0_603 : Ins1 code 603 (.iload 9) 2 605 := ⟨at_603, rfl⟩
theorem i0_605 : Ins1 code 605 (.invokevirtual 19) 3 608 := ⟨at_605, rfl⟩
theorem i0_608 : Ins1 code 608 (.iload 25) 2 610 := ⟨at_608, rfl⟩
theorem i0_610 : InsB code 610 (.ifCond .eq 21) 21 613 631 := ⟨at_610, rfl, by decide, by decide⟩
theorem i0_613 : Ins1 code 613 (.aload 16) 2 615 := ⟨at_613, rfl⟩
theorem i0_615 : Ins1 code 615 (.invokevirtual 36) 3 618 := ⟨at_615, rfl⟩
theorem i0_618 : Ins1 code 618 (.lload 22) 2 620 := ⟨at_618, rfl⟩
theorem i0_620 : Ins1 code 620 (.lload 17) 2 622 := ⟨at_620, rfl⟩
theorem i0_622 : Ins1 code 622 (.ladd) 1 623 := ⟨at_622, rfl⟩
theorem i0_623 : Ins1 code 623 (.lcmp) 1 624 := ⟨at_623, rfl⟩
theorem i0_624 : InsB code 624 (.ifCond .ne 7) 7 627 631 := ⟨at_624, rfl, by decide, by decide⟩
theorem i0_627 : Ins1 code 627 (.iconst 1) 1 628 := ⟨at_627, rfl⟩
theorem i0_628 : InsB code 628 (.goto 4) 4 631 632 := ⟨at_628, rfl, by decide, by decide⟩
theorem i0_632 : Ins1 code 632 (.istore 25) 2 634 := ⟨at_632, rfl⟩
theorem i0_634 : Ins1 code 634 (.lload 20) 2 636 := ⟨at_634, rfl⟩
theorem i0_636 : Ins1 code 636 (.lconst 0) 1 637 := ⟨at_636, rfl⟩
theorem i0_637 : Ins1 code 637 (.lcmp) 1 638 := ⟨at_637, rfl⟩
theorem i0_638 : InsB code 638 (.ifCond .ne 9) 9 641 647 := ⟨at_638, rfl, by decide, by decide⟩
theorem i0_641 : Ins1 code 641 (.iconst 0) 1 642 := ⟨at_641, rfl⟩
theorem i0_642 : Ins1 code 642 (.istore 24) 2 644 := ⟨at_642, rfl⟩
theorem i0_644 : InsB code 644 (.goto 52) 52 647 696 := ⟨at_644, rfl, by decide, by decide⟩
theorem i0_647 : Ins1 code 647 (.iload 24) 2 649 := ⟨at_647, rfl⟩
theorem i0_649 : InsB code 649 (.ifCond .eq 15) 15 652 664 := ⟨at_649, rfl, by decide, by decide⟩
theorem i0_652 : Ins1 code 652 (.lload 22) 2 654 := ⟨at_652, rfl⟩
theorem i0_654 : Ins1 code 654 (.lload 20) 2 656 := ⟨at_654, rfl⟩
theorem i0_656 : Ins1 code 656 (.lsub) 1 657 := ⟨at_656, rfl⟩
theorem i0_657 : Ins1 code 657 (.iload 10) 2 659 := ⟨at_657, rfl⟩
theorem i0_659 : Ins1 code 659 (.i2l) 1 660 := ⟨at_659, rfl⟩
theorem i0_660 : Ins1 code 660 (.lcmp) 1 661 := ⟨at_660, rfl⟩
theorem i0_661 : InsB code 661 (.ifCond .ge 35) 35 664 696 := ⟨at_661, rfl, by decide, by decide⟩
theorem i0_664 : Ins1 code 664 (.lload 20) 2 666 := ⟨at_664, rfl⟩
theorem i0_666 : Ins1 code 666 (.iload 10) 2 668 := ⟨at_666, rfl⟩
theorem i0_668 : Ins1 code 668 (.i2l) 1 669 := ⟨at_668, rfl⟩
theorem i0_669 : Ins1 code 669 (.ladd) 1 670 := ⟨at_669, rfl⟩
theorem i0_670 : Ins1 code 670 (.lstore 26) 2 672 := ⟨at_670, rfl⟩
theorem i0_672 : Ins1 code 672 (.lload 26) 2 674 := ⟨at_672, rfl⟩
theorem i0_674 : Ins1 code 674 (.lload 22) 2 676 := ⟨at_674, rfl⟩
theorem i0_676 : Ins1 code 676 (.lcmp) 1 677 := ⟨at_676, rfl⟩
theorem i0_677 : InsB code 677 (.ifCond .le 16) 16 680 693 := ⟨at_677, rfl, by decide, by decide⟩
theorem i0_680 : Ins1 code 680 (.lload 26) 2 682 := ⟨at_680, rfl⟩
theorem i0_682 : Ins1 code 682 (.ldc2_w 34) 3 685 := ⟨at_682, rfl⟩
theorem i0_685 : Ins1 code 685 (.lload 22) 2 687 := ⟨at_685, rfl⟩
theorem i0_687 : Ins1 code 687 (.lmul) 1 688 := ⟨at_687, rfl⟩
theorem i0_688 : Ins1 code 688 (.invokestatic 40) 3 691 := ⟨at_688, rfl⟩
theorem i0_691 : Ins1 code 691 (.lstore 22) 2 693 := ⟨at_691, rfl⟩
theorem i0_693 : Ins1 code 693 (.iconst 1) 1 694 := ⟨at_693, rfl⟩
theorem i0_694 : Ins1 code 694 (.istore 24) 2 696 := ⟨at_694, rfl⟩
theorem i0_696 : Ins1 code 696 (.lload 20) 2 698 := ⟨at_696, rfl⟩
theorem i0_698 : Ins1 code 698 (.iload 10) 2 700 := ⟨at_698, rfl⟩
theorem i0_700 : Ins1 code 700 (.i2l) 1 701 := ⟨at_700, rfl⟩
theorem i0_701 : Ins1 code 701 (.ladd) 1 702 := ⟨at_701, rfl⟩
theorem i0_702 : Ins1 code 702 (.lstore 20) 2 704 := ⟨at_702, rfl⟩
theorem i0_704 : Ins1 code 704 (.aload 16) 2 706 := ⟨at_704, rfl⟩
theorem i0_706 : Ins1 code 706 (.aload 15) 2 708 := ⟨at_706, rfl⟩
theorem i0_708 : Ins1 code 708 (.iconst 0) 1 709 := ⟨at_708, rfl⟩
theorem i0_709 : Ins1 code 709 (.iload 10) 2 711 := ⟨at_709, rfl⟩
theorem i0_711 : Ins1 code 711 (.invokevirtual 19) 3 714 := ⟨at_711, rfl⟩
theorem i0_714 : Ins1 code 714 (.iload 12) 2 716 := ⟨at_714, rfl⟩
theorem i0_716 : InsB code 716 (.ifCond .eq 35) 35 719 751 := ⟨at_716, rfl, by decide, by decide⟩
theorem i0_719 : Ins1 code 719 (.aload 16) 2 721 := ⟨at_719, rfl⟩
theorem i0_721 : Ins1 code 721 (.invokevirtual 31) 3 724 := ⟨at_721, rfl⟩
theorem i0_724 : Ins1 code 724 (.lload 22) 2 726 := ⟨at_724, rfl⟩
theorem i0_726 : Ins1 code 726 (.lload 20) 2 728 := ⟨at_726, rfl⟩
theorem i0_728 : Ins1 code 728 (.lcmp) 1 729 := ⟨at_728, rfl⟩
theorem i0_729 : InsB code 729 (.ifCond .lt 15) 15 732 744 := ⟨at_729, rfl, by decide, by decide⟩
theorem i0_732 : Ins1 code 732 (.lload 22) 2 734 := ⟨at_732, rfl⟩
theorem i0_734 : Ins1 code 734 (.ldc2_w 34) 3 737 := ⟨at_734, rfl⟩
theorem i0_737 : Ins1 code 737 (.lload 20) 2 739 := ⟨at_737, rfl⟩
theorem i0_739 : Ins1 code 739 (.lmul) 1 740 := ⟨at_739, rfl⟩
theorem i0_740 : Ins1 code 740 (.lcmp) 1 741 := ⟨at_740, rfl⟩
theorem i0_741 : InsB code 741 (.ifCond .le 7) 7 744 748 := ⟨at_741, rfl, by decide, by decide⟩
theorem i0_744 : Ins1 code 744 (.lload 20) 2 746 := ⟨at_744, rfl⟩
theorem i0_746 : Ins1 code 746 (.lstore 22) 2 748 := ⟨at_746, rfl⟩
theorem i0_748 : Ins1 code 748 (.iconst 1) 1 749 := ⟨at_748, rfl⟩
theorem i0_749 : Ins1 code 749 (.istore 24) 2 751 := ⟨at_749, rfl⟩
theorem i0_751 : Ins1 code 751 (.iload 25) 2 753 := ⟨at_751, rfl⟩
theorem i0_753 : InsB code 753 (.ifCond .eq 21) 21 756 774 := ⟨at_753, rfl, by decide, by decide⟩
theorem i0_756 : Ins1 code 756 (.aload 16) 2 758 := ⟨at_756, rfl⟩
theorem i0_758 : Ins1 code 758 (.invokevirtual 36) 3 761 := ⟨at_758, rfl⟩
theorem i0_761 : Ins1 code 761 (.lload 22) 2 763 := ⟨at_761, rfl⟩
theorem i0_763 : Ins1 code 763 (.lload 17) 2 765 := ⟨at_763, rfl⟩
theorem i0_765 : Ins1 code 765 (.ladd) 1 766 := ⟨at_765, rfl⟩
theorem i0_766 : Ins1 code 766 (.lcmp) 1 767 := ⟨at_766, rfl⟩
theorem i0_767 : InsB code 767 (.ifCond .ne 7) 7 770 774 := ⟨at_767, rfl, by decide, by decide⟩
theorem i0_770 : Ins1 code 770 (.iconst 1) 1 771 := ⟨at_770, rfl⟩
theorem i0_771 : InsB code 771 (.goto 4) 4 774 775 := ⟨at_771, rfl, by decide, by decide⟩
theorem i0_775 : Ins1 code 775 (.ireturn) 1 776 := ⟨at_775, rfl⟩
theorem pd_26 : parseMethodDescriptor "()J" = some ⟨[], some .long⟩ := by decide +kernel
theorem sgCu (l : Launch) (Z : State) (a0 : Array Value) (hw : ∀ d ∈ tables_1, d.before a0 Z = true) {p : Program} {e : Env} {s : State} {m : MethodId} {args : Array Value} {below : List Frame} {meth : Method} {c : Code} (hx : p.tables.exec = Jvm.exec) (hby : c.code = code) (hml : c.maxLocals = maxLocals) (hZ : Z.Warmed39 s.vm) (hown : s.vm.findClass "com/example/ariel/ariel/cbor/CborSequenceFootprintPinLaw" = some m.cls) (hret : meth.sig.returnType = ret) (hlk : meth.locks = false) (n0 : Nat) (no_ s_ pz p1_ nl nc : Addr) (p0 p1 p2 p3 p4 p5 x11 x12 xc : Int32) (D_ N_ K_ M_ G_ : Nat) (SA_ : Sta Z Z.heap "com/example/ariel/ariel/cbor/CborSequence" "NOTHING" "[B" (.ref no_)) (SB_ : Sta Z Z.heap "com/example/ariel/ariel/cbor/CborSequence" "NO_LENGTHS" "[J" (.ref nl)) (SC_ : Sta Z Z.heap "com/example/ariel/ariel/cbor/CborSequence" "NO_CUTS" "[I" (.ref nc)) (kl_ kc_ : ClassId) (vl_ vc_ : List Value) (VB_ : Arv Z Z.heap nl kl_ .long (0 : Int32) vl_ (.long (0 : Int64))) (VC_ : Arv Z Z.heap nc kc_ .int (0 : Int32) vc_ (.int (0 : Int32))) (hM : M_ ≤ 40) (hG : G_ ≤ 40) (io : Bool) (O_ P_ lv : Nat) (hlv : lv ≤ 24) (hO : O_ ≤ 164) (hP : P_ ≤ 121) 
    (T0 : State) (hh : Heap) (locs : List Loc) (X0 : Stand p l e room_1 s m args below meth c T0 locs 15 760) (e0 : T0.heap = hh) (N0 : Fr n0 locs) (J : own_I Z hh n0 s_ pz nl nc io O_ P_ lv) : Gd p e below (Fin1 s below room_1.cells room_1.slots (RV fun z _ L => z = .int 1 ∧ Fr n0 L)) T0 (mkF m 714 #[.val (.int p0), .val (.int p1), .val (.int p2), .val (.int p3), .val (.int p4), .val (.int p5), .val (.int (own_i D_)), .val (.int (own_i N_)), .val (.int (own_i K_)), .val (.int (own_i M_)), .val (.int (own_i G_)), .val (.int x11), .val (.int x12), .val (.int (-97 : Int32)), .val (.ref p1_), .val (.ref pz), .val (.ref s_), .val (.long (own_l (12 * lv))), .second, .val (.int xc), .val (.long (own_l P_)), .second, .val (.long (own_l O_)), .second, .val (.int (own_b io)), .val (.int (1 : Int32)), .unset, .unset] []) := by
  have Z0 := J.old.2.1
  refine g_iload X0 hx hby i0_714 rfl ?_
  refine g_if_eq X0 hx hby i0_716 (fun c716_1 => ?_) (fun c716_1 => ?_)
  · refine g_iload X0 hx hby i0_751 rfl ?_
    refine g_if_eq X0 hx hby i0_753 (fun c753_2 => False.elim (absurd c753_2 (by decide))) fun c753_2 => ?_
    refine g_aload X0 hx hby i0_756 rfl rfl ?_
    refine g_callV0 X0 hx hby hZ (y0 := (⟨"com/example/ariel/ariel/cbor/CborSequence", "footprint", "()J"⟩ : MethodName)) (y := (⟨"com/example/ariel/ariel/cbor/CborSequence", "footprint", "()J"⟩ : MethodName)) (argsL := []) (rest := []) hown (wd_ hw 216 rfl) (wd_ hw 217 rfl) (notFace_of_selects (args := #[]) (mvT hZ (wd_ hw 219 rfl))) (wd_ hw 219 rfl) (wd_ hw 218 rfl) (wd_ hw 4 rfl) (wd_ hw 220 rfl) (by decide) (a := s_) (J.old.2.2.1) (fpU l Z a0 hw s_ pz no_ nl nc io O_ P_ 0 lv hh n0 SA_ SB_ SC_ kl_ kc_ vl_ vc_ VB_ VC_ (by omega) J) e0 (by rw [hml]; rfl) pd_26 rfl rfl i0_758 (by decide) 0 rfl (by decide) (by decide) (by decide) fun T3 v3 L3 X3 q3 => ?_
    obtain ⟨_, rfl, rfl, e3, N3⟩ := q3
    have N0 := Fr.app N0 N3
    show Gd p e below _ T3 (mkF m 761 #[.val (.int p0), .val (.int p1), .val (.int p2), .val (.int p3), .val (.int p4), .val (.int p5), .val (.int (own_i D_)), .val (.int (own_i N_)), .val (.int (own_i K_)), .val (.int (own_i M_)), .val (.int (own_i G_)), .val (.int x11), .val (.int x12), .val (.int (-97 : Int32)), .val (.ref p1_), .val (.ref pz), .val (.ref s_), .val (.long (own_l (12 * lv))), .second, .val (.int xc), .val (.long (own_l P_)), .second, .val (.long (own_l O_)), .second, .val (.int (own_b io)), .val (.int (1 : Int32)), .unset, .unset] [(.long ((own_l O_) + (own_l (12 * lv))))])
    refine g_lload X3 hx hby i0_761 rfl ?_
    refine g_lload X3 hx hby i0_763 rfl ?_
    refine g_ladd X3 hx hby i0_765 ?_
    refine g_lcmp_ne X3 hx hby i0_766 i0_767 (fun c766_4 => False.elim (c766_4 rfl)) fun c766_4 => ?_
    refine g_iconst X3 hx hby i0_770 (z := (1 : Int32)) (by decide) ?_
    refine g_goto X3 hx hby i0_771 ?_
    refine g_ireturnN X3 hx hby (ty := .boolean) hret (by simp) hlk i0_775 (by decide) (by decide) ?_
    exact ⟨_, rfl, rfl, N0⟩
  · refine g_aload X0 hx hby i0_719 rfl rfl ?_
    refine g_callV0 X0 hx hby hZ (y0 := (⟨"com/example/ariel/ariel/cbor/CborSequence", "detach", "()V"⟩ : MethodName)) (y := (⟨"com/example/ariel/ariel/cbor/CborSequence", "detach", "()V"⟩ : MethodName)) (argsL := []) (rest := []) hown (wd_ hw 257 rfl) (wd_ hw 258 rfl) (notFace_of_selects (args := #[]) (mvT hZ (wd_ hw 260 rfl))) (wd_ hw 260 rfl) (wd_ hw 259 rfl) (wd_ hw 4 rfl) (wd_ hw 261 rfl) (by decide) (a := s_) (J.old.2.2.1) (dtU l Z a0 hw s_ pz no_ nl nc io O_ P_ 0 lv hh n0 SA_ SB_ SC_ (by omega) J) e0 (by rw [hml]; rfl) pd_1 rfl rfl i0_721 (by decide) 0 rfl (by decide) (by decide) (by decide) fun T5 v5 L5 X5 q5 => ?_
    obtain ⟨rfl, J5, N5⟩ := q5
    have N0 := Fr.app N0 N5
    have Z0 := J5.old.2.1
    show Gd p e below _ T5 (mkF m 724 #[.val (.int p0), .val (.int p1), .val (.int p2), .val (.int p3), .val (.int p4), .val (.int p5), .val (.int (own_i D_)), .val (.int (own_i N_)), .val (.int (own_i K_)), .val (.int (own_i M_)), .val (.int (own_i G_)), .val (.int x11), .val (.int x12), .val (.int (-97 : Int32)), .val (.ref p1_), .val (.ref pz), .val (.ref s_), .val (.long (own_l (12 * lv))), .second, .val (.int xc), .val (.long (own_l P_)), .second, .val (.long (own_l O_)), .second, .val (.int (own_b io)), .val (.int (1 : Int32)), .unset, .unset] [])
    refine g_lload X5 hx hby i0_724 rfl ?_
    refine g_lload X5 hx hby i0_726 rfl ?_
    refine g_lcmp_lt X5 hx hby i0_728 i0_729 (fun c728_6 => ?_) (fun c728_6 => ?_)
    · refine g_lload X5 hx hby i0_744 rfl ?_
      refine g_lstore X5 hx hby i0_746 (l' := #[.val (.int p0), .val (.int p1), .val (.int p2), .val (.int p3), .val (.int p4), .val (.int p5), .val (.int (own_i D_)), .val (.int (own_i N_)), .val (.int (own_i K_)), .val (.int (own_i M_)), .val (.int (own_i G_)), .val (.int x11), .val (.int x12), .val (.int (-97 : Int32)), .val (.ref p1_), .val (.ref pz), .val (.ref s_), .val (.long (own_l (12 * lv))), .second, .val (.int xc), .val (.long (own_l P_)), .second, .val (.long (own_l P_)), .second, .val (.int (own_b io)), .val (.int (1 : Int32)), .unset, .unset]) rfl ?_
      rw [own_dtT (Or.inl ((own_llt (by omega) (by omega)).mp c728_6))] at J5
      refine g_iconst X5 hx hby i0_748 (z := (1 : Int32)) (by decide) ?_
      refine g_istore X5 hx hby i0_749 (l' := #[.val (.int p0), .val (.int p1), .val (.int p2), .val (.int p3), .val (.int p4), .val (.int p5), .val (.int (own_i D_)), .val (.int (own_i N_)), .val (.int (own_i K_)), .val (.int (own_i M_)), .val (.int (own_i G_)), .val (.int x11), .val (.int x12), .val (.int (-97 : Int32)), .val (.ref p1_), .val (.ref pz), .val (.ref s_), .val (.long (own_l (12 * lv))), .second, .val (.int xc), .val (.long (own_l P_)), .second, .val (.long (own_l P_)), .second, .val (.int (1 : Int32)), .val (.int (1 : Int32)), .unset, .unset]) rfl ?_
      refine g_iload X5 hx hby i0_751 rfl ?_
      refine g_if_eq X5 hx hby i0_753 (fun c753_7 => False.elim (absurd c753_7 (by decide))) fun c753_7 => ?_
      refine g_aload X5 hx hby i0_756 rfl rfl ?_
      refine g_callV0 X5 hx hby hZ (y0 := (⟨"com/example/ariel/ariel/cbor/CborSequence", "footprint", "()J"⟩ : MethodName)) (y := (⟨"com/example/ariel/ariel/cbor/CborSequence", "footprint", "()J"⟩ : MethodName)) (argsL := []) (rest := []) hown (wd_ hw 216 rfl) (wd_ hw 217 rfl) (notFace_of_selects (args := #[]) (mvT hZ (wd_ hw 219 rfl))) (wd_ hw 219 rfl) (wd_ hw 218 rfl) (wd_ hw 4 rfl) (wd_ hw 220 rfl) (by decide) (a := s_) (J5.old.2.2.1) (fpU l Z a0 hw s_ pz no_ nl nc true P_ P_ 0 lv T5.heap n0 SA_ SB_ SC_ kl_ kc_ vl_ vc_ VB_ VC_ (by omega) J5) rfl (by rw [hml]; rfl) pd_26 rfl rfl i0_758 (by decide) 0 rfl (by decide) (by decide) (by decide) fun T8 v8 L8 X8 q8 => ?_
      obtain ⟨_, rfl, rfl, e8, N8⟩ := q8
      have N0 := Fr.app N0 N8
      show Gd p e below _ T8 (mkF m 761 #[.val (.int p0), .val (.int p1), .val (.int p2), .val (.int p3), .val (.int p4), .val (.int p5), .val (.int (own_i D_)), .val (.int (own_i N_)), .val (.int (own_i K_)), .val (.int (own_i M_)), .val (.int (own_i G_)), .val (.int x11), .val (.int x12), .val (.int (-97 : Int32)), .val (.ref p1_), .val (.ref pz), .val (.ref s_), .val (.long (own_l (12 * lv))), .second, .val (.int xc), .val (.long (own_l P_)), .second, .val (.long (own_l P_)), .second, .val (.int (1 : Int32)), .val (.int (1 : Int32)), .unset, .unset] [(.long ((own_l P_) + (own_l (12 * lv))))])
      refine g_lload X8 hx hby i0_761 rfl ?_
      refine g_lload X8 hx hby i0_763 rfl ?_
      refine g_ladd X8 hx hby i0_765 ?_
      refine g_lcmp_ne X8 hx hby i0_766 i0_767 (fun c766_9 => False.elim (c766_9 rfl)) fun c766_9 => ?_
      refine g_iconst X8 hx hby i0_770 (z := (1 : Int32)) (by decide) ?_
      refine g_goto X8 hx hby i0_771 ?_
      refine g_ireturnN X8 hx hby (ty := .boolean) hret (by simp) hlk i0_775 (by decide) (by decide) ?_
      exact ⟨_, rfl, rfl, N0⟩
    · refine g_lload X5 hx hby i0_732 rfl ?_
      refine g_ldc2Long X5 hx hby hZ hown (wd_ hw 224 rfl) i0_734 ?_
      refine g_lload X5 hx hby i0_737 rfl ?_
      refine g_lmul X5 hx hby i0_739 ?_
      rw [own_lmul2]
      refine g_lcmp_le X5 hx hby i0_740 i0_741 (fun c740_10 => ?_) (fun c740_10 => ?_)
      · rw [own_dtF (fun q => q.elim (fun q => c728_6 ((own_llt (by omega) (by omega)).mpr q)) (fun q => c740_10 ((own_llt (by omega) (by omega)).mpr q)))] at J5
        refine g_iconst X5 hx hby i0_748 (z := (1 : Int32)) (by decide) ?_
        refine g_istore X5 hx hby i0_749 (l' := #[.val (.int p0), .val (.int p1), .val (.int p2), .val (.int p3), .val (.int p4), .val (.int p5), .val (.int (own_i D_)), .val (.int (own_i N_)), .val (.int (own_i K_)), .val (.int (own_i M_)), .val (.int (own_i G_)), .val (.int x11), .val (.int x12), .val (.int (-97 : Int32)), .val (.ref p1_), .val (.ref pz), .val (.ref s_), .val (.long (own_l (12 * lv))), .second, .val (.int xc), .val (.long (own_l P_)), .second, .val (.long (own_l O_)), .second, .val (.int (1 : Int32)), .val (.int (1 : Int32)), .unset, .unset]) rfl ?_
        refine g_iload X5 hx hby i0_751 rfl ?_
        refine g_if_eq X5 hx hby i0_753 (fun c753_11 => False.elim (absurd c753_11 (by decide))) fun c753_11 => ?_
        refine g_aload X5 hx hby i0_756 rfl rfl ?_
        refine g_callV0 X5 hx hby hZ (y0 := (⟨"com/example/ariel/ariel/cbor/CborSequence", "footprint", "()J"⟩ : MethodName)) (y := (⟨"com/example/ariel/ariel/cbor/CborSequence", "footprint", "()J"⟩ : MethodName)) (argsL := []) (rest := []) hown (wd_ hw 216 rfl) (wd_ hw 217 rfl) (notFace_of_selects (args := #[]) (mvT hZ (wd_ hw 219 rfl))) (wd_ hw 219 rfl) (wd_ hw 218 rfl) (wd_ hw 4 rfl) (wd_ hw 220 rfl) (by decide) (a := s_) (J5.old.2.2.1) (fpU l Z a0 hw s_ pz no_ nl nc true O_ P_ 0 lv T5.heap n0 SA_ SB_ SC_ kl_ kc_ vl_ vc_ VB_ VC_ (by omega) J5) rfl (by rw [hml]; rfl) pd_26 rfl rfl i0_758 (by decide) 0 rfl (by decide) (by decide) (by decide) fun T12 v12 L12 X12 q12 => ?_
        obtain ⟨_, rfl, rfl, e12, N12⟩ := q12
        have N0 := Fr.app N0 N12
        show Gd p e below _ T12 (mkF m 761 #[.val (.int p0), .val (.int p1), .val (.int p2), .val (.int p3), .val (.int p4), .val (.int p5), .val (.int (own_i D_)), .val (.int (own_i N_)), .val (.int (own_i K_)), .val (.int (own_i M_)), .val (.int (own_i G_)), .val (.int x11), .val (.int x12), .val (.int (-97 : Int32)), .val (.ref p1_), .val (.ref pz), .val (.ref s_), .val (.long (own_l (12 * lv))), .second, .val (.int xc), .val (.long (own_l P_)), .second, .val (.long (own_l O_)), .second, .val (.int (1 : Int32)), .val (.int (1 : Int32)), .unset, .unset] [(.long ((own_l O_) + (own_l (12 * lv))))])
        refine g_lload X12 hx hby i0_761 rfl ?_
        refine g_lload X12 hx hby i0_763 rfl ?_
        refine g_ladd X12 hx hby i0_765 ?_
        refine g_lcmp_ne X12 hx hby i0_766 i0_767 (fun c766_13 => False.elim (c766_13 rfl)) fun c766_13 => ?_
        refine g_iconst X12 hx hby i0_770 (z := (1 : Int32)) (by decide) ?_
        refine g_goto X12 hx hby i0_771 ?_
        refine g_ireturnN X12 hx hby (ty := .boolean) hret (by simp) hlk i0_775 (by decide) (by decide) ?_
        exact ⟨_, rfl, rfl, N0⟩
      · refine g_lload X5 hx hby i0_744 rfl ?_
        refine g_lstore X5 hx hby i0_746 (l' := #[.val (.int p0), .val (.int p1), .val (.int p2), .val (.int p3), .val (.int p4), .val (.int p5), .val (.int (own_i D_)), .val (.int (own_i N_)), .val (.int (own_i K_)), .val (.int (own_i M_)), .val (.int (own_i G_)), .val (.int x11), .val (.int x12), .val (.int (-97 : Int32)), .val (.ref p1_), .val (.ref pz), .val (.ref s_), .val (.long (own_l (12 * lv))), .second, .val (.int xc), .val (.long (own_l P_)), .second, .val (.long (own_l P_)), .second, .val (.int (own_b io)), .val (.int (1 : Int32)), .unset, .unset]) rfl ?_
        rw [own_dtT (Or.inr ((own_llt (by omega) (by omega)).mp c740_10))] at J5
        refine g_iconst X5 hx hby i0_748 (z := (1 : Int32)) (by decide) ?_
        refine g_istore X5 hx hby i0_749 (l' := #[.val (.int p0), .val (.int p1), .val (.int p2), .val (.int p3), .val (.int p4), .val (.int p5), .val (.int (own_i D_)), .val (.int (own_i N_)), .val (.int (own_i K_)), .val (.int (own_i M_)), .val (.int (own_i G_)), .val (.int x11), .val (.int x12), .val (.int (-97 : Int32)), .val (.ref p1_), .val (.ref pz), .val (.ref s_), .val (.long (own_l (12 * lv))), .second, .val (.int xc), .val (.long (own_l P_)), .second, .val (.long (own_l P_)), .second, .val (.int (1 : Int32)), .val (.int (1 : Int32)), .unset, .unset]) rfl ?_
        refine g_iload X5 hx hby i0_751 rfl ?_
        refine g_if_eq X5 hx hby i0_753 (fun c753_14 => False.elim (absurd c753_14 (by decide))) fun c753_14 => ?_
        refine g_aload X5 hx hby i0_756 rfl rfl ?_
        refine g_callV0 X5 hx hby hZ (y0 := (⟨"com/example/ariel/ariel/cbor/CborSequence", "footprint", "()J"⟩ : MethodName)) (y := (⟨"com/example/ariel/ariel/cbor/CborSequence", "footprint", "()J"⟩ : MethodName)) (argsL := []) (rest := []) hown (wd_ hw 216 rfl) (wd_ hw 217 rfl) (notFace_of_selects (args := #[]) (mvT hZ (wd_ hw 219 rfl))) (wd_ hw 219 rfl) (wd_ hw 218 rfl) (wd_ hw 4 rfl) (wd_ hw 220 rfl) (by decide) (a := s_) (J5.old.2.2.1) (fpU l Z a0 hw s_ pz no_ nl nc true P_ P_ 0 lv T5.heap n0 SA_ SB_ SC_ kl_ kc_ vl_ vc_ VB_ VC_ (by omega) J5) rfl (by rw [hml]; rfl) pd_26 rfl rfl i0_758 (by decide) 0 rfl (by decide) (by decide) (by decide) fun T15 v15 L15 X15 q15 => ?_
        obtain ⟨_, rfl, rfl, e15, N15⟩ := q15
        have N0 := Fr.app N0 N15
        show Gd p e below _ T15 (mkF m 761 #[.val (.int p0), .val (.int p1), .val (.int p2), .val (.int p3), .val (.int p4), .val (.int p5), .val (.int (own_i D_)), .val (.int (own_i N_)), .val (.int (own_i K_)), .val (.int (own_i M_)), .val (.int (own_i G_)), .val (.int x11), .val (.int x12), .val (.int (-97 : Int32)), .val (.ref p1_), .val (.ref pz), .val (.ref s_), .val (.long (own_l (12 * lv))), .second, .val (.int xc), .val (.long (own_l P_)), .second, .val (.long (own_l P_)), .second, .val (.int (1 : Int32)), .val (.int (1 : Int32)), .unset, .unset] [(.long ((own_l P_) + (own_l (12 * lv))))])
        refine g_lload X15 hx hby i0_761 rfl ?_
        refine g_lload X15 hx hby i0_763 rfl ?_
        refine g_ladd X15 hx hby i0_765 ?_
        refine g_lcmp_ne X15 hx hby i0_766 i0_767 (fun c766_16 => False.elim (c766_16 rfl)) fun c766_16 => ?_
        refine g_iconst X15 hx hby i0_770 (z := (1 : Int32)) (by decide) ?_
        refine g_goto X15 hx hby i0_771 ?_
        refine g_ireturnN X15 hx hby (ty := .boolean) hret (by simp) hlk i0_775 (by decide) (by decide) ?_
        exact ⟨_, rfl, rfl, N0⟩
theorem sgCv (l : Launch) (Z : State) (a0 : Array Value) (hw : ∀ d ∈ tables_1, d.before a0 Z = true) {p : Program} {e : Env} {s : State} {m : MethodId} {args : Array Value} {below : List Frame} {meth : Method} {c : Code} (hx : p.tables.exec = Jvm.exec) (hby : c.code = code) (hml : c.maxLocals = maxLocals) (hZ : Z.Warmed39 s.vm) (hown : s.vm.findClass "com/example/ariel/ariel/cbor/CborSequenceFootprintPinLaw" = some m.cls) (hret : meth.sig.returnType = ret) (hlk : meth.locks = false) (n0 : Nat) (no_ s_ pz p1_ nl nc : Addr) (p0 p1 p2 p3 p4 p5 x11 x12 xc : Int32) (D_ N_ K_ M_ G_ : Nat) (SA_ : Sta Z Z.heap "com/example/ariel/ariel/cbor/CborSequence" "NOTHING" "[B" (.ref no_)) (SB_ : Sta Z Z.heap "com/example/ariel/ariel/cbor/CborSequence" "NO_LENGTHS" "[J" (.ref nl)) (SC_ : Sta Z Z.heap "com/example/ariel/ariel/cbor/CborSequence" "NO_CUTS" "[I" (.ref nc)) (kl_ kc_ : ClassId) (vl_ vc_ : List Value) (VB_ : Arv Z Z.heap nl kl_ .long (0 : Int32) vl_ (.long (0 : Int64))) (VC_ : Arv Z Z.heap nc kc_ .int (0 : Int32) vc_ (.int (0 : Int32))) (hM : M_ ≤ 40) (hG : G_ ≤ 40) (io : Bool) (O_ P_ lv : Nat) (hlv : lv ≤ 24) (hO : O_ ≤ 164) (hP : P_ ≤ 121) (x26 : Int64)
    (T0 : State) (hh : Heap) (locs : List Loc) (X0 : Stand p l e room_1 s m args below meth c T0 locs 15 760) (e0 : T0.heap = hh) (N0 : Fr n0 locs) (J : own_I Z hh n0 s_ pz nl nc io O_ P_ lv) : Gd p e below (Fin1 s below room_1.cells room_1.slots (RV fun z _ L => z = .int 1 ∧ Fr n0 L)) T0 (mkF m 714 #[.val (.int p0), .val (.int p1), .val (.int p2), .val (.int p3), .val (.int p4), .val (.int p5), .val (.int (own_i D_)), .val (.int (own_i N_)), .val (.int (own_i K_)), .val (.int (own_i M_)), .val (.int (own_i G_)), .val (.int x11), .val (.int x12), .val (.int (-97 : Int32)), .val (.ref p1_), .val (.ref pz), .val (.ref s_), .val (.long (own_l (12 * lv))), .second, .val (.int xc), .val (.long (own_l P_)), .second, .val (.long (own_l O_)), .second, .val (.int (own_b io)), .val (.int (1 : Int32)), .val (.long x26), .second] []) := by
  have Z0 := J.old.2.1
  refine g_iload X0 hx hby i0_714 rfl ?_
  refine g_if_eq X0 hx hby i0_716 (fun c716_1 => ?_) (fun c716_1 => ?_)
  · refine g_iload X0 hx hby i0_751 rfl ?_
    refine g_if_eq X0 hx hby i0_753 (fun c753_2 => False.elim (absurd c753_2 (by decide))) fun c753_2 => ?_
    refine g_aload X0 hx hby i0_756 rfl rfl ?_
    refine g_callV0 X0 hx hby hZ (y0 := (⟨"com/example/ariel/ariel/cbor/CborSequence", "footprint", "()J"⟩ : MethodName)) (y := (⟨"com/example/ariel/ariel/cbor/CborSequence", "footprint", "()J"⟩ : MethodName)) (argsL := []) (rest := []) hown (wd_ hw 216 rfl) (wd_ hw 217 rfl) (notFace_of_selects (args := #[]) (mvT hZ (wd_ hw 219 rfl))) (wd_ hw 219 rfl) (wd_ hw 218 rfl) (wd_ hw 4 rfl) (wd_ hw 220 rfl) (by decide) (a := s_) (J.old.2.2.1) (fpU l Z a0 hw s_ pz no_ nl nc io O_ P_ 0 lv hh n0 SA_ SB_ SC_ kl_ kc_ vl_ vc_ VB_ VC_ (by omega) J) e0 (by rw [hml]; rfl) pd_26 rfl rfl i0_758 (by decide) 0 rfl (by decide) (by decide) (by decide) fun T3 v3 L3 X3 q3 => ?_
    obtain ⟨_, rfl, rfl, e3, N3⟩ := q3
    have N0 := Fr.app N0 N3
    show Gd p e below _ T3 (mkF m 761 #[.val (.int p0), .val (.int p1), .val (.int p2), .val (.int p3), .val (.int p4), .val (.int p5), .val (.int (own_i D_)), .val (.int (own_i N_)), .val (.int (own_i K_)), .val (.int (own_i M_)), .val (.int (own_i G_)), .val (.int x11), .val (.int x12), .val (.int (-97 : Int32)), .val (.ref p1_), .val (.ref pz), .val (.ref s_), .val (.long (own_l (12 * lv))), .second, .val (.int xc), .val (.long (own_l P_)), .second, .val (.long (own_l O_)), .second, .val (.int (own_b io)), .val (.int (1 : Int32)), .val (.long x26), .second] [(.long ((own_l O_) + (own_l (12 * lv))))])
    refine g_lload X3 hx hby i0_761 rfl ?_
    refine g_lload X3 hx hby i0_763 rfl ?_
    refine g_ladd X3 hx hby i0_765 ?_
    refine g_lcmp_ne X3 hx hby i0_766 i0_767 (fun c766_4 => False.elim (c766_4 rfl)) fun c766_4 => ?_
    refine g_iconst X3 hx hby i0_770 (z := (1 : Int32)) (by decide) ?_
    refine g_goto X3 hx hby i0_771 ?_
    refine g_ireturnN X3 hx hby (ty := .boolean) hret (by simp) hlk i0_775 (by decide) (by decide) ?_
    exact ⟨_, rfl, rfl, N0⟩
  · refine g_aload X0 hx hby i0_719 rfl rfl ?_
    refine g_callV0 X0 hx hby hZ (y0 := (⟨"com/example/ariel/ariel/cbor/CborSequence", "detach", "()V"⟩ : MethodName)) (y := (⟨"com/example/ariel/ariel/cbor/CborSequence", "detach", "()V"⟩ : MethodName)) (argsL := []) (rest := []) hown (wd_ hw 257 rfl) (wd_ hw 258 rfl) (notFace_of_selects (args := #[]) (mvT hZ (wd_ hw 260 rfl))) (wd_ hw 260 rfl) (wd_ hw 259 rfl) (wd_ hw 4 rfl) (wd_ hw 261 rfl) (by decide) (a := s_) (J.old.2.2.1) (dtU l Z a0 hw s_ pz no_ nl nc io O_ P_ 0 lv hh n0 SA_ SB_ SC_ (by omega) J) e0 (by rw [hml]; rfl) pd_1 rfl rfl i0_721 (by decide) 0 rfl (by decide) (by decide) (by decide) fun T5 v5 L5 X5 q5 => ?_
    obtain ⟨rfl, J5, N5⟩ := q5
    have N0 := Fr.app N0 N5
    have Z0 := J5.old.2.1
    show Gd p e below _ T5 (mkF m 724 #[.val (.int p0), .val (.int p1), .val (.int p2), .val (.int p3), .val (.int p4), .val (.int p5), .val (.int (own_i D_)), .val (.int (own_i N_)), .val (.int (own_i K_)), .val (.int (own_i M_)), .val (.int (own_i G_)), .val (.int x11), .val (.int x12), .val (.int (-97 : Int32)), .val (.ref p1_), .val (.ref pz), .val (.ref s_), .val (.long (own_l (12 * lv))), .second, .val (.int xc), .val (.long (own_l P_)), .second, .val (.long (own_l O_)), .second, .val (.int (own_b io)), .val (.int (1 : Int32)), .val (.long x26), .second] [])
    refine g_lload X5 hx hby i0_724 rfl ?_
    refine g_lload X5 hx hby i0_726 rfl ?_
    refine g_lcmp_lt X5 hx hby i0_728 i0_729 (fun c728_6 => ?_) (fun c728_6 => ?_)
    · refine g_lload X5 hx hby i0_744 rfl ?_
      refine g_lstore X5 hx hby i0_746 (l' := #[.val (.int p0), .val (.int p1), .val (.int p2), .val (.int p3), .val (.int p4), .val (.int p5), .val (.int (own_i D_)), .val (.int (own_i N_)), .val (.int (own_i K_)), .val (.int (own_i M_)), .val (.int (own_i G_)), .val (.int x11), .val (.int x12), .val (.int (-97 : Int32)), .val (.ref p1_), .val (.ref pz), .val (.ref s_), .val (.long (own_l (12 * lv))), .second, .val (.int xc), .val (.long (own_l P_)), .second, .val (.long (own_l P_)), .second, .val (.int (own_b io)), .val (.int (1 : Int32)), .val (.long x26), .second]) rfl ?_
      rw [own_dtT (Or.inl ((own_llt (by omega) (by omega)).mp c728_6))] at J5
      refine g_iconst X5 hx hby i0_748 (z := (1 : Int32)) (by decide) ?_
      refine g_istore X5 hx hby i0_749 (l' := #[.val (.int p0), .val (.int p1), .val (.int p2), .val (.int p3), .val (.int p4), .val (.int p5), .val (.int (own_i D_)), .val (.int (own_i N_)), .val (.int (own_i K_)), .val (.int (own_i M_)), .val (.int (own_i G_)), .val (.int x11), .val (.int x12), .val (.int (-97 : Int32)), .val (.ref p1_), .val (.ref pz), .val (.ref s_), .val (.long (own_l (12 * lv))), .second, .val (.int xc), .val (.long (own_l P_)), .second, .val (.long (own_l P_)), .second, .val (.int (1 : Int32)), .val (.int (1 : Int32)), .val (.long x26), .second]) rfl ?_
      refine g_iload X5 hx hby i0_751 rfl ?_
      refine g_if_eq X5 hx hby i0_753 (fun c753_7 => False.elim (absurd c753_7 (by decide))) fun c753_7 => ?_
      refine g_aload X5 hx hby i0_756 rfl rfl ?_
      refine g_callV0 X5 hx hby hZ (y0 := (⟨"com/example/ariel/ariel/cbor/CborSequence", "footprint", "()J"⟩ : MethodName)) (y := (⟨"com/example/ariel/ariel/cbor/CborSequence", "footprint", "()J"⟩ : MethodName)) (argsL := []) (rest := []) hown (wd_ hw 216 rfl) (wd_ hw 217 rfl) (notFace_of_selects (args := #[]) (mvT hZ (wd_ hw 219 rfl))) (wd_ hw 219 rfl) (wd_ hw 218 rfl) (wd_ hw 4 rfl) (wd_ hw 220 rfl) (by decide) (a := s_) (J5.old.2.2.1) (fpU l Z a0 hw s_ pz no_ nl nc true P_ P_ 0 lv T5.heap n0 SA_ SB_ SC_ kl_ kc_ vl_ vc_ VB_ VC_ (by omega) J5) rfl (by rw [hml]; rfl) pd_26 rfl rfl i0_758 (by decide) 0 rfl (by decide) (by decide) (by decide) fun T8 v8 L8 X8 q8 => ?_
      obtain ⟨_, rfl, rfl, e8, N8⟩ := q8
      have N0 := Fr.app N0 N8
      show Gd p e below _ T8 (mkF m 761 #[.val (.int p0), .val (.int p1), .val (.int p2), .val (.int p3), .val (.int p4), .val (.int p5), .val (.int (own_i D_)), .val (.int (own_i N_)), .val (.int (own_i K_)), .val (.int (own_i M_)), .val (.int (own_i G_)), .val (.int x11), .val (.int x12), .val (.int (-97 : Int32)), .val (.ref p1_), .val (.ref pz), .val (.ref s_), .val (.long (own_l (12 * lv))), .second, .val (.int xc), .val (.long (own_l P_)), .second, .val (.long (own_l P_)), .second, .val (.int (1 : Int32)), .val (.int (1 : Int32)), .val (.long x26), .second] [(.long ((own_l P_) + (own_l (12 * lv))))])
      refine g_lload X8 hx hby i0_761 rfl ?_
      refine g_lload X8 hx hby i0_763 rfl ?_
      refine g_ladd X8 hx hby i0_765 ?_
      refine g_lcmp_ne X8 hx hby i0_766 i0_767 (fun c766_9 => False.elim (c766_9 rfl)) fun c766_9 => ?_
      refine g_iconst X8 hx hby i0_770 (z := (1 : Int32)) (by decide) ?_
      refine g_goto X8 hx hby i0_771 ?_
      refine g_ireturnN X8 hx hby (ty := .boolean) hret (by simp) hlk i0_775 (by decide) (by decide) ?_
      exact ⟨_, rfl, rfl, N0⟩
    · refine g_lload X5 hx hby i0_732 rfl ?_
      refine g_ldc2Long X5 hx hby hZ hown (wd_ hw 224 rfl) i0_734 ?_
      refine g_lload X5 hx hby i0_737 rfl ?_
      refine g_lmul X5 hx hby i0_739 ?_
      rw [own_lmul2]
      refine g_lcmp_le X5 hx hby i0_740 i0_741 (fun c740_10 => ?_) (fun c740_10 => ?_)
      · rw [own_dtF (fun q => q.elim (fun q => c728_6 ((own_llt (by omega) (by omega)).mpr q)) (fun q => c740_10 ((own_llt (by omega) (by omega)).mpr q)))] at J5
        refine g_iconst X5 hx hby i0_748 (z := (1 : Int32)) (by decide) ?_
        refine g_istore X5 hx hby i0_749 (l' := #[.val (.int p0), .val (.int p1), .val (.int p2), .val (.int p3), .val (.int p4), .val (.int p5), .val (.int (own_i D_)), .val (.int (own_i N_)), .val (.int (own_i K_)), .val (.int (own_i M_)), .val (.int (own_i G_)), .val (.int x11), .val (.int x12), .val (.int (-97 : Int32)), .val (.ref p1_), .val (.ref pz), .val (.ref s_), .val (.long (own_l (12 * lv))), .second, .val (.int xc), .val (.long (own_l P_)), .second, .val (.long (own_l O_)), .second, .val (.int (1 : Int32)), .val (.int (1 : Int32)), .val (.long x26), .second]) rfl ?_
        refine g_iload X5 hx hby i0_751 rfl ?_
        refine g_if_eq X5 hx hby i0_753 (fun c753_11 => False.elim (absurd c753_11 (by decide))) fun c753_11 => ?_
        refine g_aload X5 hx hby i0_756 rfl rfl ?_
        refine g_callV0 X5 hx hby hZ (y0 := (⟨"com/example/ariel/ariel/cbor/CborSequence", "footprint", "()J"⟩ : MethodName)) (y := (⟨"com/example/ariel/ariel/cbor/CborSequence", "footprint", "()J"⟩ : MethodName)) (argsL := []) (rest := []) hown (wd_ hw 216 rfl) (wd_ hw 217 rfl) (notFace_of_selects (args := #[]) (mvT hZ (wd_ hw 219 rfl))) (wd_ hw 219 rfl) (wd_ hw 218 rfl) (wd_ hw 4 rfl) (wd_ hw 220 rfl) (by decide) (a := s_) (J5.old.2.2.1) (fpU l Z a0 hw s_ pz no_ nl nc true O_ P_ 0 lv T5.heap n0 SA_ SB_ SC_ kl_ kc_ vl_ vc_ VB_ VC_ (by omega) J5) rfl (by rw [hml]; rfl) pd_26 rfl rfl i0_758 (by decide) 0 rfl (by decide) (by decide) (by decide) fun T12 v12 L12 X12 q12 => ?_
        obtain ⟨_, rfl, rfl, e12, N12⟩ := q12
        have N0 := Fr.app N0 N12
        show Gd p e below _ T12 (mkF m 761 #[.val (.int p0), .val (.int p1), .val (.int p2), .val (.int p3), .val (.int p4), .val (.int p5), .val (.int (own_i D_)), .val (.int (own_i N_)), .val (.int (own_i K_)), .val (.int (own_i M_)), .val (.int (own_i G_)), .val (.int x11), .val (.int x12), .val (.int (-97 : Int32)), .val (.ref p1_), .val (.ref pz), .val (.ref s_), .val (.long (own_l (12 * lv))), .second, .val (.int xc), .val (.long (own_l P_)), .second, .val (.long (own_l O_)), .second, .val (.int (1 : Int32)), .val (.int (1 : Int32)), .val (.long x26), .second] [(.long ((own_l O_) + (own_l (12 * lv))))])
        refine g_lload X12 hx hby i0_761 rfl ?_
        refine g_lload X12 hx hby i0_763 rfl ?_
        refine g_ladd X12 hx hby i0_765 ?_
        refine g_lcmp_ne X12 hx hby i0_766 i0_767 (fun c766_13 => False.elim (c766_13 rfl)) fun c766_13 => ?_
        refine g_iconst X12 hx hby i0_770 (z := (1 : Int32)) (by decide) ?_
        refine g_goto X12 hx hby i0_771 ?_
        refine g_ireturnN X12 hx hby (ty := .boolean) hret (by simp) hlk i0_775 (by decide) (by decide) ?_
        exact ⟨_, rfl, rfl, N0⟩
      · refine g_lload X5 hx hby i0_744 rfl ?_
        refine g_lstore X5 hx hby i0_746 (l' := #[.val (.int p0), .val (.int p1), .val (.int p2), .val (.int p3), .val (.int p4), .val (.int p5), .val (.int (own_i D_)), .val (.int (own_i N_)), .val (.int (own_i K_)), .val (.int (own_i M_)), .val (.int (own_i G_)), .val (.int x11), .val (.int x12), .val (.int (-97 : Int32)), .val (.ref p1_), .val (.ref pz), .val (.ref s_), .val (.long (own_l (12 * lv))), .second, .val (.int xc), .val (.long (own_l P_)), .second, .val (.long (own_l P_)), .second, .val (.int (own_b io)), .val (.int (1 : Int32)), .val (.long x26), .second]) rfl ?_
        rw [own_dtT (Or.inr ((own_llt (by omega) (by omega)).mp c740_10))] at J5
        refine g_iconst X5 hx hby i0_748 (z := (1 : Int32)) (by decide) ?_
        refine g_istore X5 hx hby i0_749 (l' := #[.val (.int p0), .val (.int p1), .val (.int p2), .val (.int p3), .val (.int p4), .val (.int p5), .val (.int (own_i D_)), .val (.int (own_i N_)), .val (.int (own_i K_)), .val (.int (own_i M_)), .val (.int (own_i G_)), .val (.int x11), .val (.int x12), .val (.int (-97 : Int32)), .val (.ref p1_), .val (.ref pz), .val (.ref s_), .val (.long (own_l (12 * lv))), .second, .val (.int xc), .val (.long (own_l P_)), .second, .val (.long (own_l P_)), .second, .val (.int (1 : Int32)), .val (.int (1 : Int32)), .val (.long x26), .second]) rfl ?_
        refine g_iload X5 hx hby i0_751 rfl ?_
        refine g_if_eq X5 hx hby i0_753 (fun c753_14 => False.elim (absurd c753_14 (by decide))) fun c753_14 => ?_
        refine g_aload X5 hx hby i0_756 rfl rfl ?_
        refine g_callV0 X5 hx hby hZ (y0 := (⟨"com/example/ariel/ariel/cbor/CborSequence", "footprint", "()J"⟩ : MethodName)) (y := (⟨"com/example/ariel/ariel/cbor/CborSequence", "footprint", "()J"⟩ : MethodName)) (argsL := []) (rest := []) hown (wd_ hw 216 rfl) (wd_ hw 217 rfl) (notFace_of_selects (args := #[]) (mvT hZ (wd_ hw 219 rfl))) (wd_ hw 219 rfl) (wd_ hw 218 rfl) (wd_ hw 4 rfl) (wd_ hw 220 rfl) (by decide) (a := s_) (J5.old.2.2.1) (fpU l Z a0 hw s_ pz no_ nl nc true P_ P_ 0 lv T5.heap n0 SA_ SB_ SC_ kl_ kc_ vl_ vc_ VB_ VC_ (by omega) J5) rfl (by rw [hml]; rfl) pd_26 rfl rfl i0_758 (by decide) 0 rfl (by decide) (by decide) (by decide) fun T15 v15 L15 X15 q15 => ?_
        obtain ⟨_, rfl, rfl, e15, N15⟩ := q15
        have N0 := Fr.app N0 N15
        show Gd p e below _ T15 (mkF m 761 #[.val (.int p0), .val (.int p1), .val (.int p2), .val (.int p3), .val (.int p4), .val (.int p5), .val (.int (own_i D_)), .val (.int (own_i N_)), .val (.int (own_i K_)), .val (.int (own_i M_)), .val (.int (own_i G_)), .val (.int x11), .val (.int x12), .val (.int (-97 : Int32)), .val (.ref p1_), .val (.ref pz), .val (.ref s_), .val (.long (own_l (12 * lv))), .second, .val (.int xc), .val (.long (own_l P_)), .second, .val (.long (own_l P_)), .second, .val (.int (1 : Int32)), .val (.int (1 : Int32)), .val (.long x26), .second] [(.long ((own_l P_) + (own_l (12 * lv))))])
        refine g_lload X15 hx hby i0_761 rfl ?_
        refine g_lload X15 hx hby i0_763 rfl ?_
        refine g_ladd X15 hx hby i0_765 ?_
        refine g_lcmp_ne X15 hx hby i0_766 i0_767 (fun c766_16 => False.elim (c766_16 rfl)) fun c766_16 => ?_
        refine g_iconst X15 hx hby i0_770 (z := (1 : Int32)) (by decide) ?_
        refine g_goto X15 hx hby i0_771 ?_
        refine g_ireturnN X15 hx hby (ty := .boolean) hret (by simp) hlk i0_775 (by decide) (by decide) ?_
        exact ⟨_, rfl, rfl, N0⟩
theorem pd_27 : parseMethodDescriptor "([BII)V" = some ⟨[(.array .byte), .int, .int], none⟩ := by decide +kernel
theorem pd_28 : parseMethodDescriptor "(JJ)J" = some ⟨[.long, .long], some .long⟩ := by decide +kernel
theorem sgBu (l : Launch) (Z : State) (a0 : Array Value) (hw : ∀ d ∈ tables_1, d.before a0 Z = true) {p : Program} {e : Env} {s : State} {m : MethodId} {args : Array Value} {below : List Frame} {meth : Method} {c : Code} (hx : p.tables.exec = Jvm.exec) (hby : c.code = code) (hml : c.maxLocals = maxLocals) (hZ : Z.Warmed39 s.vm) (hown : s.vm.findClass "com/example/ariel/ariel/cbor/CborSequenceFootprintPinLaw" = some m.cls) (hret : meth.sig.returnType = ret) (hlk : meth.locks = false) (n0 : Nat) (no_ s_ pz p1_ nl nc : Addr) (p0 p1 p2 p3 p4 p5 x11 x12 xc : Int32) (D_ N_ K_ M_ G_ : Nat) (SA_ : Sta Z Z.heap "com/example/ariel/ariel/cbor/CborSequence" "NOTHING" "[B" (.ref no_)) (SB_ : Sta Z Z.heap "com/example/ariel/ariel/cbor/CborSequence" "NO_LENGTHS" "[J" (.ref nl)) (SC_ : Sta Z Z.heap "com/example/ariel/ariel/cbor/CborSequence" "NO_CUTS" "[I" (.ref nc)) (kl_ kc_ : ClassId) (vl_ vc_ : List Value) (VB_ : Arv Z Z.heap nl kl_ .long (0 : Int32) vl_ (.long (0 : Int64))) (VC_ : Arv Z Z.heap nc kc_ .int (0 : Int32) vc_ (.int (0 : Int32))) (hM : M_ ≤ 40) (hG : G_ ≤ 40) (io : Bool) (O_ P_ lv : Nat) (hlv : lv ≤ 24) (hO : O_ ≤ 82) (hP : P_ ≤ 81) 
    (T0 : State) (hh : Heap) (locs : List Loc) (X0 : Stand p l e room_1 s m args below meth c T0 locs 14 590) (e0 : T0.heap = hh) (N0 : Fr n0 locs) (J : own_I Z hh n0 s_ pz nl nc io O_ P_ lv) : Gd p e below (Fin1 s below room_1.cells room_1.slots (RV fun z _ L => z = .int 1 ∧ Fr n0 L)) T0 (mkF m 608 #[.val (.int p0), .val (.int p1), .val (.int p2), .val (.int p3), .val (.int p4), .val (.int p5), .val (.int (own_i D_)), .val (.int (own_i N_)), .val (.int (own_i K_)), .val (.int (own_i M_)), .val (.int (own_i G_)), .val (.int x11), .val (.int x12), .val (.int (-97 : Int32)), .val (.ref p1_), .val (.ref pz), .val (.ref s_), .val (.long (own_l (12 * lv))), .second, .val (.int xc), .val (.long (own_l P_)), .second, .val (.long (own_l O_)), .second, .val (.int (own_b io)), .val (.int (1 : Int32)), .unset, .unset] []) := by
  have Z0 := J.old.2.1
  refine g_iload X0 hx hby i0_608 rfl ?_
  refine g_if_eq X0 hx hby i0_610 (fun c610_1 => False.elim (absurd c610_1 (by decide))) fun c610_1 => ?_
  refine g_aload X0 hx hby i0_613 rfl rfl ?_
  refine g_callV0 X0 hx hby hZ (y0 := (⟨"com/example/ariel/ariel/cbor/CborSequence", "footprint", "()J"⟩ : MethodName)) (y := (⟨"com/example/ariel/ariel/cbor/CborSequence", "footprint", "()J"⟩ : MethodName)) (argsL := []) (rest := []) hown (wd_ hw 216 rfl) (wd_ hw 217 rfl) (notFace_of_selects (args := #[]) (mvT hZ (wd_ hw 219 rfl))) (wd_ hw 219 rfl) (wd_ hw 218 rfl) (wd_ hw 4 rfl) (wd_ hw 220 rfl) (by decide) (a := s_) (J.old.2.2.1) (fpU l Z a0 hw s_ pz no_ nl nc io O_ P_ 0 lv hh n0 SA_ SB_ SC_ kl_ kc_ vl_ vc_ VB_ VC_ (by omega) J) e0 (by rw [hml]; rfl) pd_26 rfl rfl i0_615 (by decide) 0 rfl (by decide) (by decide) (by decide) fun T2 v2 L2 X2 q2 => ?_
  obtain ⟨_, rfl, rfl, e2, N2⟩ := q2
  have N0 := Fr.app N0 N2
  show Gd p e below _ T2 (mkF m 618 #[.val (.int p0), .val (.int p1), .val (.int p2), .val (.int p3), .val (.int p4), .val (.int p5), .val (.int (own_i D_)), .val (.int (own_i N_)), .val (.int (own_i K_)), .val (.int (own_i M_)), .val (.int (own_i G_)), .val (.int x11), .val (.int x12), .val (.int (-97 : Int32)), .val (.ref p1_), .val (.ref pz), .val (.ref s_), .val (.long (own_l (12 * lv))), .second, .val (.int xc), .val (.long (own_l P_)), .second, .val (.long (own_l O_)), .second, .val (.int (own_b io)), .val (.int (1 : Int32)), .unset, .unset] [(.long ((own_l O_) + (own_l (12 * lv))))])
  refine g_lload X2 hx hby i0_618 rfl ?_
  refine g_lload X2 hx hby i0_620 rfl ?_
  refine g_ladd X2 hx hby i0_622 ?_
  refine g_lcmp_ne X2 hx hby i0_623 i0_624 (fun c623_3 => False.elim (c623_3 rfl)) fun c623_3 => ?_
  refine g_iconst X2 hx hby i0_627 (z := (1 : Int32)) (by decide) ?_
  refine g_goto X2 hx hby i0_628 ?_
  refine g_istore X2 hx hby i0_632 (l' := #[.val (.int p0), .val (.int p1), .val (.int p2), .val (.int p3), .val (.int p4), .val (.int p5), .val (.int (own_i D_)), .val (.int (own_i N_)), .val (.int (own_i K_)), .val (.int (own_i M_)), .val (.int (own_i G_)), .val (.int x11), .val (.int x12), .val (.int (-97 : Int32)), .val (.ref p1_), .val (.ref pz), .val (.ref s_), .val (.long (own_l (12 * lv))), .second, .val (.int xc), .val (.long (own_l P_)), .second, .val (.long (own_l O_)), .second, .val (.int (own_b io)), .val (.int (1 : Int32)), .unset, .unset]) rfl ?_
  refine g_lload X2 hx hby i0_634 rfl ?_
  refine g_lconst X2 hx hby i0_636 (z := (0 : Int64)) (by decide) ?_
  refine g_lcmp_ne X2 hx hby i0_637 i0_638 (fun c637_4 => ?_) (fun c637_4 => ?_)
  · have hp0 : 0 < P_ := Nat.pos_of_ne_zero (fun q => c637_4 (by rw [q]; rfl))
    refine g_iload X2 hx hby i0_647 rfl ?_
    refine g_if_eq X2 hx hby i0_649 (fun c649_5 => ?_) (fun c649_5 => ?_)
    · refine g_lload X2 hx hby i0_664 rfl ?_
      refine g_iload X2 hx hby i0_666 rfl ?_
      refine g_i2l X2 hx hby i0_668 ?_
      rw [own_i2l (by omega)]
      refine g_ladd X2 hx hby i0_669 ?_
      rw [own_ladd]
      refine g_lstore X2 hx hby i0_670 (l' := #[.val (.int p0), .val (.int p1), .val (.int p2), .val (.int p3), .val (.int p4), .val (.int p5), .val (.int (own_i D_)), .val (.int (own_i N_)), .val (.int (own_i K_)), .val (.int (own_i M_)), .val (.int (own_i G_)), .val (.int x11), .val (.int x12), .val (.int (-97 : Int32)), .val (.ref p1_), .val (.ref pz), .val (.ref s_), .val (.long (own_l (12 * lv))), .second, .val (.int xc), .val (.long (own_l P_)), .second, .val (.long (own_l O_)), .second, .val (.int (own_b io)), .val (.int (1 : Int32)), .val (.long (own_l (P_ + G_))), .second]) rfl ?_
      refine g_lload X2 hx hby i0_672 rfl ?_
      refine g_lload X2 hx hby i0_674 rfl ?_
      refine g_lcmp_le X2 hx hby i0_676 i0_677 (fun c676_6 => ?_) (fun c676_6 => ?_)
      · have hge : ¬ O_ < P_ + G_ := fun q => c676_6 ((own_llt (by omega) (by omega)).mpr q)
        refine g_iconst X2 hx hby i0_693 (z := (1 : Int32)) (by decide) ?_
        refine g_istore X2 hx hby i0_694 (l' := #[.val (.int p0), .val (.int p1), .val (.int p2), .val (.int p3), .val (.int p4), .val (.int p5), .val (.int (own_i D_)), .val (.int (own_i N_)), .val (.int (own_i K_)), .val (.int (own_i M_)), .val (.int (own_i G_)), .val (.int x11), .val (.int x12), .val (.int (-97 : Int32)), .val (.ref p1_), .val (.ref pz), .val (.ref s_), .val (.long (own_l (12 * lv))), .second, .val (.int xc), .val (.long (own_l P_)), .second, .val (.long (own_l O_)), .second, .val (.int (1 : Int32)), .val (.int (1 : Int32)), .val (.long (own_l (P_ + G_))), .second]) rfl ?_
        refine g_lload X2 hx hby i0_696 rfl ?_
        refine g_iload X2 hx hby i0_698 rfl ?_
        refine g_i2l X2 hx hby i0_700 ?_
        rw [own_i2l (by omega)]
        refine g_ladd X2 hx hby i0_701 ?_
        rw [own_ladd]
        refine g_lstore X2 hx hby i0_702 (l' := #[.val (.int p0), .val (.int p1), .val (.int p2), .val (.int p3), .val (.int p4), .val (.int p5), .val (.int (own_i D_)), .val (.int (own_i N_)), .val (.int (own_i K_)), .val (.int (own_i M_)), .val (.int (own_i G_)), .val (.int x11), .val (.int x12), .val (.int (-97 : Int32)), .val (.ref p1_), .val (.ref pz), .val (.ref s_), .val (.long (own_l (12 * lv))), .second, .val (.int xc), .val (.long (own_l (P_ + G_))), .second, .val (.long (own_l O_)), .second, .val (.int (1 : Int32)), .val (.int (1 : Int32)), .val (.long (own_l (P_ + G_))), .second]) rfl ?_
        refine g_aload X2 hx hby i0_704 rfl rfl ?_
        refine g_aload X2 hx hby i0_706 rfl rfl ?_
        refine g_iconst X2 hx hby i0_708 (z := (0 : Int32)) (by decide) ?_
        refine g_iload X2 hx hby i0_709 rfl ?_
        refine g_callV0 X2 hx hby hZ (y0 := (⟨"com/example/ariel/ariel/cbor/CborSequence", "append", "([BII)V"⟩ : MethodName)) (y := (⟨"com/example/ariel/ariel/cbor/CborSequence", "append", "([BII)V"⟩ : MethodName)) (argsL := [(.ref pz), (.int (0 : Int32)), (.int (own_i G_))]) (rest := []) hown (wd_ hw 48 rfl) (wd_ hw 49 rfl) (notFace_of_selects (args := #[]) (mvT hZ (wd_ hw 51 rfl))) (wd_ hw 51 rfl) (wd_ hw 50 rfl) (wd_ hw 4 rfl) (wd_ hw 52 rfl) (by decide) (a := s_) (J.old.2.2.1) (apU1 l Z a0 hw s_ pz no_ nl nc io O_ P_ G_ lv hh n0 SA_ SB_ SC_ (by omega) hp0 (by omega) (by omega) J) e2 (by rw [hml]; rfl) pd_27 rfl rfl i0_711 (by decide) 0 rfl (by decide) (by decide) (by decide) fun T7 v7 L7 X7 q7 => ?_
        obtain ⟨rfl, J7, N7⟩ := q7
        have N0 := Fr.app N0 N7
        have Z0 := J7.old.2.1
        show Gd p e below _ T7 (mkF m 714 #[.val (.int p0), .val (.int p1), .val (.int p2), .val (.int p3), .val (.int p4), .val (.int p5), .val (.int (own_i D_)), .val (.int (own_i N_)), .val (.int (own_i K_)), .val (.int (own_i M_)), .val (.int (own_i G_)), .val (.int x11), .val (.int x12), .val (.int (-97 : Int32)), .val (.ref p1_), .val (.ref pz), .val (.ref s_), .val (.long (own_l (12 * lv))), .second, .val (.int xc), .val (.long (own_l (P_ + G_))), .second, .val (.long (own_l O_)), .second, .val (.int (1 : Int32)), .val (.int (1 : Int32)), .val (.long (own_l (P_ + G_))), .second] [])
        rw [own_grF (by omega)] at J7
        exact sgCv l Z a0 hw hx hby hml hZ hown hret hlk n0 no_ s_ pz p1_ nl nc p0 p1 p2 p3 p4 p5 x11 x12 xc D_ N_ K_ M_ G_ SA_ SB_ SC_ kl_ kc_ vl_ vc_ VB_ VC_ hM hG true O_ (P_ + G_) lv hlv (by omega) (by omega) _ T7 _ _ (own_bump X7 (by decide) (by decide)) rfl N0 J7
      · have hlt : O_ < P_ + G_ := (own_llt (by omega) (by omega)).mp c676_6
        refine g_lload X2 hx hby i0_680 rfl ?_
        refine g_ldc2Long X2 hx hby hZ hown (wd_ hw 224 rfl) i0_682 ?_
        refine g_lload X2 hx hby i0_685 rfl ?_
        refine g_lmul X2 hx hby i0_687 ?_
        rw [own_lmul2]
        refine g_callS0 X2 hx hby hZ (y := (⟨"java/lang/Math", "max", "(JJ)J"⟩ : MethodName)) (argsL := [(.long (own_l (P_ + G_))), (.long (own_l (2 * O_)))]) (rest := []) hown (wd_ hw 225 rfl) (wd_ hw 226 rfl) (wd_ hw 7 rfl) (wd_ hw 227 rfl) (by decide) (rm36 l Z a0 hw [] (own_l (P_ + G_)) (own_l (2 * O_)) hh n0 Z0) e2 (by rw [hml]; rfl) pd_28 rfl rfl i0_688 (by decide) 0 rfl (by decide) (by decide) (by decide) fun T8 v8 L8 X8 q8 => ?_
        obtain ⟨_, rfl, r8, rfl, hr8, e8, N8⟩ := q8
        have N0 := Fr.app N0 N8
        show Gd p e below _ T8 (mkF m 691 #[.val (.int p0), .val (.int p1), .val (.int p2), .val (.int p3), .val (.int p4), .val (.int p5), .val (.int (own_i D_)), .val (.int (own_i N_)), .val (.int (own_i K_)), .val (.int (own_i M_)), .val (.int (own_i G_)), .val (.int x11), .val (.int x12), .val (.int (-97 : Int32)), .val (.ref p1_), .val (.ref pz), .val (.ref s_), .val (.long (own_l (12 * lv))), .second, .val (.int xc), .val (.long (own_l P_)), .second, .val (.long (own_l O_)), .second, .val (.int (own_b io)), .val (.int (1 : Int32)), .val (.long (own_l (P_ + G_))), .second] [(.long r8)])
        obtain rfl : r8 = own_l (max (P_ + G_) (2 * O_)) := own_mxl (by omega) (by omega) hr8
        refine g_lstore X8 hx hby i0_691 (l' := #[.val (.int p0), .val (.int p1), .val (.int p2), .val (.int p3), .val (.int p4), .val (.int p5), .val (.int (own_i D_)), .val (.int (own_i N_)), .val (.int (own_i K_)), .val (.int (own_i M_)), .val (.int (own_i G_)), .val (.int x11), .val (.int x12), .val (.int (-97 : Int32)), .val (.ref p1_), .val (.ref pz), .val (.ref s_), .val (.long (own_l (12 * lv))), .second, .val (.int xc), .val (.long (own_l P_)), .second, .val (.long (own_l (max (P_ + G_) (2 * O_)))), .second, .val (.int (own_b io)), .val (.int (1 : Int32)), .val (.long (own_l (P_ + G_))), .second]) rfl ?_
        refine g_iconst X8 hx hby i0_693 (z := (1 : Int32)) (by decide) ?_
        refine g_istore X8 hx hby i0_694 (l' := #[.val (.int p0), .val (.int p1), .val (.int p2), .val (.int p3), .val (.int p4), .val (.int p5), .val (.int (own_i D_)), .val (.int (own_i N_)), .val (.int (own_i K_)), .val (.int (own_i M_)), .val (.int (own_i G_)), .val (.int x11), .val (.int x12), .val (.int (-97 : Int32)), .val (.ref p1_), .val (.ref pz), .val (.ref s_), .val (.long (own_l (12 * lv))), .second, .val (.int xc), .val (.long (own_l P_)), .second, .val (.long (own_l (max (P_ + G_) (2 * O_)))), .second, .val (.int (1 : Int32)), .val (.int (1 : Int32)), .val (.long (own_l (P_ + G_))), .second]) rfl ?_
        refine g_lload X8 hx hby i0_696 rfl ?_
        refine g_iload X8 hx hby i0_698 rfl ?_
        refine g_i2l X8 hx hby i0_700 ?_
        rw [own_i2l (by omega)]
        refine g_ladd X8 hx hby i0_701 ?_
        rw [own_ladd]
        refine g_lstore X8 hx hby i0_702 (l' := #[.val (.int p0), .val (.int p1), .val (.int p2), .val (.int p3), .val (.int p4), .val (.int p5), .val (.int (own_i D_)), .val (.int (own_i N_)), .val (.int (own_i K_)), .val (.int (own_i M_)), .val (.int (own_i G_)), .val (.int x11), .val (.int x12), .val (.int (-97 : Int32)), .val (.ref p1_), .val (.ref pz), .val (.ref s_), .val (.long (own_l (12 * lv))), .second, .val (.int xc), .val (.long (own_l (P_ + G_))), .second, .val (.long (own_l (max (P_ + G_) (2 * O_)))), .second, .val (.int (1 : Int32)), .val (.int (1 : Int32)), .val (.long (own_l (P_ + G_))), .second]) rfl ?_
        refine g_aload X8 hx hby i0_704 rfl rfl ?_
        refine g_aload X8 hx hby i0_706 rfl rfl ?_
        refine g_iconst X8 hx hby i0_708 (z := (0 : Int32)) (by decide) ?_
        refine g_iload X8 hx hby i0_709 rfl ?_
        refine g_callV0 X8 hx hby hZ (y0 := (⟨"com/example/ariel/ariel/cbor/CborSequence", "append", "([BII)V"⟩ : MethodName)) (y := (⟨"com/example/ariel/ariel/cbor/CborSequence", "append", "([BII)V"⟩ : MethodName)) (argsL := [(.ref pz), (.int (0 : Int32)), (.int (own_i G_))]) (rest := []) hown (wd_ hw 48 rfl) (wd_ hw 49 rfl) (notFace_of_selects (args := #[]) (mvT hZ (wd_ hw 51 rfl))) (wd_ hw 51 rfl) (wd_ hw 50 rfl) (wd_ hw 4 rfl) (wd_ hw 52 rfl) (by decide) (a := s_) (J.old.2.2.1) (apU1 l Z a0 hw s_ pz no_ nl nc io O_ P_ G_ lv hh n0 SA_ SB_ SC_ (by omega) hp0 (by omega) (by omega) J) e8 (by rw [hml]; rfl) pd_27 rfl rfl i0_711 (by decide) 0 rfl (by decide) (by decide) (by decide) fun T9 v9 L9 X9 q9 => ?_
        obtain ⟨rfl, J9, N9⟩ := q9
        have N0 := Fr.app N0 N9
        have Z0 := J9.old.2.1
        show Gd p e below _ T9 (mkF m 714 #[.val (.int p0), .val (.int p1), .val (.int p2), .val (.int p3), .val (.int p4), .val (.int p5), .val (.int (own_i D_)), .val (.int (own_i N_)), .val (.int (own_i K_)), .val (.int (own_i M_)), .val (.int (own_i G_)), .val (.int x11), .val (.int x12), .val (.int (-97 : Int32)), .val (.ref p1_), .val (.ref pz), .val (.ref s_), .val (.long (own_l (12 * lv))), .second, .val (.int xc), .val (.long (own_l (P_ + G_))), .second, .val (.long (own_l (max (P_ + G_) (2 * O_)))), .second, .val (.int (1 : Int32)), .val (.int (1 : Int32)), .val (.long (own_l (P_ + G_))), .second] [])
        rw [own_grT (by omega)] at J9
        exact sgCv l Z a0 hw hx hby hml hZ hown hret hlk n0 no_ s_ pz p1_ nl nc p0 p1 p2 p3 p4 p5 x11 x12 xc D_ N_ K_ M_ G_ SA_ SB_ SC_ kl_ kc_ vl_ vc_ VB_ VC_ hM hG true (max (P_ + G_) (2 * O_)) (P_ + G_) lv hlv (by omega) (by omega) _ T9 _ _ (own_bump X9 (by decide) (by decide)) rfl N0 J9
    · obtain rfl : io = true := own_bT c649_5
      have hPO : P_ ≤ O_ := J.old.2.2.2 rfl
      refine g_lload X2 hx hby i0_652 rfl ?_
      refine g_lload X2 hx hby i0_654 rfl ?_
      refine g_lsub X2 hx hby i0_656 ?_
      rw [own_lsub hPO]
      refine g_iload X2 hx hby i0_657 rfl ?_
      refine g_i2l X2 hx hby i0_659 ?_
      rw [own_i2l (by omega)]
      refine g_lcmp_ge X2 hx hby i0_660 i0_661 (fun c660_10 => ?_) (fun c660_10 => ?_)
      · have hge : ¬ O_ < P_ + G_ := fun q => c660_10 ((own_llt (by omega) (by omega)).mpr (by omega))
        refine g_lload X2 hx hby i0_696 rfl ?_
        refine g_iload X2 hx hby i0_698 rfl ?_
        refine g_i2l X2 hx hby i0_700 ?_
        rw [own_i2l (by omega)]
        refine g_ladd X2 hx hby i0_701 ?_
        rw [own_ladd]
        refine g_lstore X2 hx hby i0_702 (l' := #[.val (.int p0), .val (.int p1), .val (.int p2), .val (.int p3), .val (.int p4), .val (.int p5), .val (.int (own_i D_)), .val (.int (own_i N_)), .val (.int (own_i K_)), .val (.int (own_i M_)), .val (.int (own_i G_)), .val (.int x11), .val (.int x12), .val (.int (-97 : Int32)), .val (.ref p1_), .val (.ref pz), .val (.ref s_), .val (.long (own_l (12 * lv))), .second, .val (.int xc), .val (.long (own_l (P_ + G_))), .second, .val (.long (own_l O_)), .second, .val (.int (own_b true)), .val (.int (1 : Int32)), .unset, .unset]) rfl ?_
        refine g_aload X2 hx hby i0_704 rfl rfl ?_
        refine g_aload X2 hx hby i0_706 rfl rfl ?_
        refine g_iconst X2 hx hby i0_708 (z := (0 : Int32)) (by decide) ?_
        refine g_iload X2 hx hby i0_709 rfl ?_
        refine g_callV0 X2 hx hby hZ (y0 := (⟨"com/example/ariel/ariel/cbor/CborSequence", "append", "([BII)V"⟩ : MethodName)) (y := (⟨"com/example/ariel/ariel/cbor/CborSequence", "append", "([BII)V"⟩ : MethodName)) (argsL := [(.ref pz), (.int (0 : Int32)), (.int (own_i G_))]) (rest := []) hown (wd_ hw 48 rfl) (wd_ hw 49 rfl) (notFace_of_selects (args := #[]) (mvT hZ (wd_ hw 51 rfl))) (wd_ hw 51 rfl) (wd_ hw 50 rfl) (wd_ hw 4 rfl) (wd_ hw 52 rfl) (by decide) (a := s_) (J.old.2.2.1) (apU1 l Z a0 hw s_ pz no_ nl nc true O_ P_ G_ lv hh n0 SA_ SB_ SC_ (by omega) hp0 (by omega) (by omega) J) e2 (by rw [hml]; rfl) pd_27 rfl rfl i0_711 (by decide) 0 rfl (by decide) (by decide) (by decide) fun T11 v11 L11 X11 q11 => ?_
        obtain ⟨rfl, J11, N11⟩ := q11
        have N0 := Fr.app N0 N11
        have Z0 := J11.old.2.1
        show Gd p e below _ T11 (mkF m 714 #[.val (.int p0), .val (.int p1), .val (.int p2), .val (.int p3), .val (.int p4), .val (.int p5), .val (.int (own_i D_)), .val (.int (own_i N_)), .val (.int (own_i K_)), .val (.int (own_i M_)), .val (.int (own_i G_)), .val (.int x11), .val (.int x12), .val (.int (-97 : Int32)), .val (.ref p1_), .val (.ref pz), .val (.ref s_), .val (.long (own_l (12 * lv))), .second, .val (.int xc), .val (.long (own_l (P_ + G_))), .second, .val (.long (own_l O_)), .second, .val (.int (own_b true)), .val (.int (1 : Int32)), .unset, .unset] [])
        rw [own_grF (by omega)] at J11
        exact sgCu l Z a0 hw hx hby hml hZ hown hret hlk n0 no_ s_ pz p1_ nl nc p0 p1 p2 p3 p4 p5 x11 x12 xc D_ N_ K_ M_ G_ SA_ SB_ SC_ kl_ kc_ vl_ vc_ VB_ VC_ hM hG true O_ (P_ + G_) lv hlv (by omega) (by omega)  T11 _ _ (own_bump X11 (by decide) (by decide)) rfl N0 J11
      · refine g_lload X2 hx hby i0_664 rfl ?_
        refine g_iload X2 hx hby i0_666 rfl ?_
        refine g_i2l X2 hx hby i0_668 ?_
        rw [own_i2l (by omega)]
        refine g_ladd X2 hx hby i0_669 ?_
        rw [own_ladd]
        refine g_lstore X2 hx hby i0_670 (l' := #[.val (.int p0), .val (.int p1), .val (.int p2), .val (.int p3), .val (.int p4), .val (.int p5), .val (.int (own_i D_)), .val (.int (own_i N_)), .val (.int (own_i K_)), .val (.int (own_i M_)), .val (.int (own_i G_)), .val (.int x11), .val (.int x12), .val (.int (-97 : Int32)), .val (.ref p1_), .val (.ref pz), .val (.ref s_), .val (.long (own_l (12 * lv))), .second, .val (.int xc), .val (.long (own_l P_)), .second, .val (.long (own_l O_)), .second, .val (.int (own_b true)), .val (.int (1 : Int32)), .val (.long (own_l (P_ + G_))), .second]) rfl ?_
        refine g_lload X2 hx hby i0_672 rfl ?_
        refine g_lload X2 hx hby i0_674 rfl ?_
        refine g_lcmp_le X2 hx hby i0_676 i0_677 (fun c676_12 => ?_) (fun c676_12 => ?_)
        · have hge : ¬ O_ < P_ + G_ := fun q => c676_12 ((own_llt (by omega) (by omega)).mpr q)
          refine g_iconst X2 hx hby i0_693 (z := (1 : Int32)) (by decide) ?_
          refine g_istore X2 hx hby i0_694 (l' := #[.val (.int p0), .val (.int p1), .val (.int p2), .val (.int p3), .val (.int p4), .val (.int p5), .val (.int (own_i D_)), .val (.int (own_i N_)), .val (.int (own_i K_)), .val (.int (own_i M_)), .val (.int (own_i G_)), .val (.int x11), .val (.int x12), .val (.int (-97 : Int32)), .val (.ref p1_), .val (.ref pz), .val (.ref s_), .val (.long (own_l (12 * lv))), .second, .val (.int xc), .val (.long (own_l P_)), .second, .val (.long (own_l O_)), .second, .val (.int (1 : Int32)), .val (.int (1 : Int32)), .val (.long (own_l (P_ + G_))), .second]) rfl ?_
          refine g_lload X2 hx hby i0_696 rfl ?_
          refine g_iload X2 hx hby i0_698 rfl ?_
          refine g_i2l X2 hx hby i0_700 ?_
          rw [own_i2l (by omega)]
          refine g_ladd X2 hx hby i0_701 ?_
          rw [own_ladd]
          refine g_lstore X2 hx hby i0_702 (l' := #[.val (.int p0), .val (.int p1), .val (.int p2), .val (.int p3), .val (.int p4), .val (.int p5), .val (.int (own_i D_)), .val (.int (own_i N_)), .val (.int (own_i K_)), .val (.int (own_i M_)), .val (.int (own_i G_)), .val (.int x11), .val (.int x12), .val (.int (-97 : Int32)), .val (.ref p1_), .val (.ref pz), .val (.ref s_), .val (.long (own_l (12 * lv))), .second, .val (.int xc), .val (.long (own_l (P_ + G_))), .second, .val (.long (own_l O_)), .second, .val (.int (1 : Int32)), .val (.int (1 : Int32)), .val (.long (own_l (P_ + G_))), .second]) rfl ?_
          refine g_aload X2 hx hby i0_704 rfl rfl ?_
          refine g_aload X2 hx hby i0_706 rfl rfl ?_
          refine g_iconst X2 hx hby i0_708 (z := (0 : Int32)) (by decide) ?_
          refine g_iload X2 hx hby i0_709 rfl ?_
          refine g_callV0 X2 hx hby hZ (y0 := (⟨"com/example/ariel/ariel/cbor/CborSequence", "append", "([BII)V"⟩ : MethodName)) (y := (⟨"com/example/ariel/ariel/cbor/CborSequence", "append", "([BII)V"⟩ : MethodName)) (argsL := [(.ref pz), (.int (0 : Int32)), (.int (own_i G_))]) (rest := []) hown (wd_ hw 48 rfl) (wd_ hw 49 rfl) (notFace_of_selects (args := #[]) (mvT hZ (wd_ hw 51 rfl))) (wd_ hw 51 rfl) (wd_ hw 50 rfl) (wd_ hw 4 rfl) (wd_ hw 52 rfl) (by decide) (a := s_) (J.old.2.2.1) (apU1 l Z a0 hw s_ pz no_ nl nc true O_ P_ G_ lv hh n0 SA_ SB_ SC_ (by omega) hp0 (by omega) (by omega) J) e2 (by rw [hml]; rfl) pd_27 rfl rfl i0_711 (by decide) 0 rfl (by decide) (by decide) (by decide) fun T13 v13 L13 X13 q13 => ?_
          obtain ⟨rfl, J13, N13⟩ := q13
          have N0 := Fr.app N0 N13
          have Z0 := J13.old.2.1
          show Gd p e below _ T13 (mkF m 714 #[.val (.int p0), .val (.int p1), .val (.int p2), .val (.int p3), .val (.int p4), .val (.int p5), .val (.int (own_i D_)), .val (.int (own_i N_)), .val (.int (own_i K_)), .val (.int (own_i M_)), .val (.int (own_i G_)), .val (.int x11), .val (.int x12), .val (.int (-97 : Int32)), .val (.ref p1_), .val (.ref pz), .val (.ref s_), .val (.long (own_l (12 * lv))), .second, .val (.int xc), .val (.long (own_l (P_ + G_))), .second, .val (.long (own_l O_)), .second, .val (.int (1 : Int32)), .val (.int (1 : Int32)), .val (.long (own_l (P_ + G_))), .second] [])
          rw [own_grF (by omega)] at J13
          exact sgCv l Z a0 hw hx hby hml hZ hown hret hlk n0 no_ s_ pz p1_ nl nc p0 p1 p2 p3 p4 p5 x11 x12 xc D_ N_ K_ M_ G_ SA_ SB_ SC_ kl_ kc_ vl_ vc_ VB_ VC_ hM hG true O_ (P_ + G_) lv hlv (by omega) (by omega) _ T13 _ _ (own_bump X13 (by decide) (by decide)) rfl N0 J13
        · have hlt : O_ < P_ + G_ := (own_llt (by omega) (by omega)).mp c676_12
          refine g_lload X2 hx hby i0_680 rfl ?_
          refine g_ldc2Long X2 hx hby hZ hown (wd_ hw 224 rfl) i0_682 ?_
          refine g_lload X2 hx hby i0_685 rfl ?_
          refine g_lmul X2 hx hby i0_687 ?_
          rw [own_lmul2]
          refine g_callS0 X2 hx hby hZ (y := (⟨"java/lang/Math", "max", "(JJ)J"⟩ : MethodName)) (argsL := [(.long (own_l (P_ + G_))), (.long (own_l (2 * O_)))]) (rest := []) hown (wd_ hw 225 rfl) (wd_ hw 226 rfl) (wd_ hw 7 rfl) (wd_ hw 227 rfl) (by decide) (rm36 l Z a0 hw [] (own_l (P_ + G_)) (own_l (2 * O_)) hh n0 Z0) e2 (by rw [hml]; rfl) pd_28 rfl rfl i0_688 (by decide) 0 rfl (by decide) (by decide) (by decide) fun T14 v14 L14 X14 q14 => ?_
          obtain ⟨_, rfl, r14, rfl, hr14, e14, N14⟩ := q14
          have N0 := Fr.app N0 N14
          show Gd p e below _ T14 (mkF m 691 #[.val (.int p0), .val (.int p1), .val (.int p2), .val (.int p3), .val (.int p4), .val (.int p5), .val (.int (own_i D_)), .val (.int (own_i N_)), .val (.int (own_i K_)), .val (.int (own_i M_)), .val (.int (own_i G_)), .val (.int x11), .val (.int x12), .val (.int (-97 : Int32)), .val (.ref p1_), .val (.ref pz), .val (.ref s_), .val (.long (own_l (12 * lv))), .second, .val (.int xc), .val (.long (own_l P_)), .second, .val (.long (own_l O_)), .second, .val (.int (own_b true)), .val (.int (1 : Int32)), .val (.long (own_l (P_ + G_))), .second] [(.long r14)])
          obtain rfl : r14 = own_l (max (P_ + G_) (2 * O_)) := own_mxl (by omega) (by omega) hr14
          refine g_lstore X14 hx hby i0_691 (l' := #[.val (.int p0), .val (.int p1), .val (.int p2), .val (.int p3), .val (.int p4), .val (.int p5), .val (.int (own_i D_)), .val (.int (own_i N_)), .val (.int (own_i K_)), .val (.int (own_i M_)), .val (.int (own_i G_)), .val (.int x11), .val (.int x12), .val (.int (-97 : Int32)), .val (.ref p1_), .val (.ref pz), .val (.ref s_), .val (.long (own_l (12 * lv))), .second, .val (.int xc), .val (.long (own_l P_)), .second, .val (.long (own_l (max (P_ + G_) (2 * O_)))), .second, .val (.int (own_b true)), .val (.int (1 : Int32)), .val (.long (own_l (P_ + G_))), .second]) rfl ?_
          refine g_iconst X14 hx hby i0_693 (z := (1 : Int32)) (by decide) ?_
          refine g_istore X14 hx hby i0_694 (l' := #[.val (.int p0), .val (.int p1), .val (.int p2), .val (.int p3), .val (.int p4), .val (.int p5), .val (.int (own_i D_)), .val (.int (own_i N_)), .val (.int (own_i K_)), .val (.int (own_i M_)), .val (.int (own_i G_)), .val (.int x11), .val (.int x12), .val (.int (-97 : Int32)), .val (.ref p1_), .val (.ref pz), .val (.ref s_), .val (.long (own_l (12 * lv))), .second, .val (.int xc), .val (.long (own_l P_)), .second, .val (.long (own_l (max (P_ + G_) (2 * O_)))), .second, .val (.int (1 : Int32)), .val (.int (1 : Int32)), .val (.long (own_l (P_ + G_))), .second]) rfl ?_
          refine g_lload X14 hx hby i0_696 rfl ?_
          refine g_iload X14 hx hby i0_698 rfl ?_
          refine g_i2l X14 hx hby i0_700 ?_
          rw [own_i2l (by omega)]
          refine g_ladd X14 hx hby i0_701 ?_
          rw [own_ladd]
          refine g_lstore X14 hx hby i0_702 (l' := #[.val (.int p0), .val (.int p1), .val (.int p2), .val (.int p3), .val (.int p4), .val (.int p5), .val (.int (own_i D_)), .val (.int (own_i N_)), .val (.int (own_i K_)), .val (.int (own_i M_)), .val (.int (own_i G_)), .val (.int x11), .val (.int x12), .val (.int (-97 : Int32)), .val (.ref p1_), .val (.ref pz), .val (.ref s_), .val (.long (own_l (12 * lv))), .second, .val (.int xc), .val (.long (own_l (P_ + G_))), .second, .val (.long (own_l (max (P_ + G_) (2 * O_)))), .second, .val (.int (1 : Int32)), .val (.int (1 : Int32)), .val (.long (own_l (P_ + G_))), .second]) rfl ?_
          refine g_aload X14 hx hby i0_704 rfl rfl ?_
          refine g_aload X14 hx hby i0_706 rfl rfl ?_
          refine g_iconst X14 hx hby i0_708 (z := (0 : Int32)) (by decide) ?_
          refine g_iload X14 hx hby i0_709 rfl ?_
          refine g_callV0 X14 hx hby hZ (y0 := (⟨"com/example/ariel/ariel/cbor/CborSequence", "append", "([BII)V"⟩ : MethodName)) (y := (⟨"com/example/ariel/ariel/cbor/CborSequence", "append", "([BII)V"⟩ : MethodName)) (argsL := [(.ref pz), (.int (0 : Int32)), (.int (own_i G_))]) (rest := []) hown (wd_ hw 48 rfl) (wd_ hw 49 rfl) (notFace_of_selects (args := #[]) (mvT hZ (wd_ hw 51 rfl))) (wd_ hw 51 rfl) (wd_ hw 50 rfl) (wd_ hw 4 rfl) (wd_ hw 52 rfl) (by decide) (a := s_) (J.old.2.2.1) (apU1 l Z a0 hw s_ pz no_ nl nc true O_ P_ G_ lv hh n0 SA_ SB_ SC_ (by omega) hp0 (by omega) (by omega) J) e14 (by rw [hml]; rfl) pd_27 rfl rfl i0_711 (by decide) 0 rfl (by decide) (by decide) (by decide) fun T15 v15 L15 X15 q15 => ?_
          obtain ⟨rfl, J15, N15⟩ := q15
          have N0 := Fr.app N0 N15
          have Z0 := J15.old.2.1
          show Gd p e below _ T15 (mkF m 714 #[.val (.int p0), .val (.int p1), .val (.int p2), .val (.int p3), .val (.int p4), .val (.int p5), .val (.int (own_i D_)), .val (.int (own_i N_)), .val (.int (own_i K_)), .val (.int (own_i M_)), .val (.int (own_i G_)), .val (.int x11), .val (.int x12), .val (.int (-97 : Int32)), .val (.ref p1_), .val (.ref pz), .val (.ref s_), .val (.long (own_l (12 * lv))), .second, .val (.int xc), .val (.long (own_l (P_ + G_))), .second, .val (.long (own_l (max (P_ + G_) (2 * O_)))), .second, .val (.int (1 : Int32)), .val (.int (1 : Int32)), .val (.long (own_l (P_ + G_))), .second] [])
          rw [own_grT (by omega)] at J15
          exact sgCv l Z a0 hw hx hby hml hZ hown hret hlk n0 no_ s_ pz p1_ nl nc p0 p1 p2 p3 p4 p5 x11 x12 xc D_ N_ K_ M_ G_ SA_ SB_ SC_ kl_ kc_ vl_ vc_ VB_ VC_ hM hG true (max (P_ + G_) (2 * O_)) (P_ + G_) lv hlv (by omega) (by omega) _ T15 _ _ (own_bump X15 (by decide) (by decide)) rfl N0 J15
  · obtain rfl : P_ = 0 := (own_leq (b := 0) (by omega) (by omega)).mp c637_4
    refine g_iconst X2 hx hby i0_641 (z := (0 : Int32)) (by decide) ?_
    refine g_istore X2 hx hby i0_642 (l' := #[.val (.int p0), .val (.int p1), .val (.int p2), .val (.int p3), .val (.int p4), .val (.int p5), .val (.int (own_i D_)), .val (.int (own_i N_)), .val (.int (own_i K_)), .val (.int (own_i M_)), .val (.int (own_i G_)), .val (.int x11), .val (.int x12), .val (.int (-97 : Int32)), .val (.ref p1_), .val (.ref pz), .val (.ref s_), .val (.long (own_l (12 * lv))), .second, .val (.int xc), .val (.long (own_l 0)), .second, .val (.long (own_l O_)), .second, .val (.int (0 : Int32)), .val (.int (1 : Int32)), .unset, .unset]) rfl ?_
    refine g_goto X2 hx hby i0_644 ?_
    refine g_lload X2 hx hby i0_696 rfl ?_
    refine g_iload X2 hx hby i0_698 rfl ?_
    refine g_i2l X2 hx hby i0_700 ?_
    rw [own_i2l (by omega)]
    refine g_ladd X2 hx hby i0_701 ?_
    rw [own_ladd, Nat.zero_add]
    refine g_lstore X2 hx hby i0_702 (l' := #[.val (.int p0), .val (.int p1), .val (.int p2), .val (.int p3), .val (.int p4), .val (.int p5), .val (.int (own_i D_)), .val (.int (own_i N_)), .val (.int (own_i K_)), .val (.int (own_i M_)), .val (.int (own_i G_)), .val (.int x11), .val (.int x12), .val (.int (-97 : Int32)), .val (.ref p1_), .val (.ref pz), .val (.ref s_), .val (.long (own_l (12 * lv))), .second, .val (.int xc), .val (.long (own_l G_)), .second, .val (.long (own_l O_)), .second, .val (.int (0 : Int32)), .val (.int (1 : Int32)), .unset, .unset]) rfl ?_
    refine g_aload X2 hx hby i0_704 rfl rfl ?_
    refine g_aload X2 hx hby i0_706 rfl rfl ?_
    refine g_iconst X2 hx hby i0_708 (z := (0 : Int32)) (by decide) ?_
    refine g_iload X2 hx hby i0_709 rfl ?_
    refine g_callV0 X2 hx hby hZ (y0 := (⟨"com/example/ariel/ariel/cbor/CborSequence", "append", "([BII)V"⟩ : MethodName)) (y := (⟨"com/example/ariel/ariel/cbor/CborSequence", "append", "([BII)V"⟩ : MethodName)) (argsL := [(.ref pz), (.int (0 : Int32)), (.int (own_i G_))]) (rest := []) hown (wd_ hw 48 rfl) (wd_ hw 49 rfl) (notFace_of_selects (args := #[]) (mvT hZ (wd_ hw 51 rfl))) (wd_ hw 51 rfl) (wd_ hw 50 rfl) (wd_ hw 4 rfl) (wd_ hw 52 rfl) (by decide) (a := s_) (J.old.2.2.1) (apU0 l Z a0 hw s_ pz no_ nl nc io O_ 0 G_ lv hh n0 SA_ SB_ SC_ (by omega) J) e2 (by rw [hml]; rfl) pd_27 rfl rfl i0_711 (by decide) 0 rfl (by decide) (by decide) (by decide) fun T16 v16 L16 X16 q16 => ?_
    obtain ⟨rfl, J16, N16⟩ := q16
    have N0 := Fr.app N0 N16
    have Z0 := J16.old.2.1
    show Gd p e below _ T16 (mkF m 714 #[.val (.int p0), .val (.int p1), .val (.int p2), .val (.int p3), .val (.int p4), .val (.int p5), .val (.int (own_i D_)), .val (.int (own_i N_)), .val (.int (own_i K_)), .val (.int (own_i M_)), .val (.int (own_i G_)), .val (.int x11), .val (.int x12), .val (.int (-97 : Int32)), .val (.ref p1_), .val (.ref pz), .val (.ref s_), .val (.long (own_l (12 * lv))), .second, .val (.int xc), .val (.long (own_l G_)), .second, .val (.long (own_l O_)), .second, .val (.int (0 : Int32)), .val (.int (1 : Int32)), .unset, .unset] [])
    exact sgCu l Z a0 hw hx hby hml hZ hown hret hlk n0 no_ s_ pz p1_ nl nc p0 p1 p2 p3 p4 p5 x11 x12 xc D_ N_ K_ M_ G_ SA_ SB_ SC_ kl_ kc_ vl_ vc_ VB_ VC_ hM hG false O_ G_ lv hlv (by omega) (by omega)  T16 _ _ (own_bump X16 (by decide) (by decide)) rfl N0 J16
theorem sgBv (l : Launch) (Z : State) (a0 : Array Value) (hw : ∀ d ∈ tables_1, d.before a0 Z = true) {p : Program} {e : Env} {s : State} {m : MethodId} {args : Array Value} {below : List Frame} {meth : Method} {c : Code} (hx : p.tables.exec = Jvm.exec) (hby : c.code = code) (hml : c.maxLocals = maxLocals) (hZ : Z.Warmed39 s.vm) (hown : s.vm.findClass "com/example/ariel/ariel/cbor/CborSequenceFootprintPinLaw" = some m.cls) (hret : meth.sig.returnType = ret) (hlk : meth.locks = false) (n0 : Nat) (no_ s_ pz p1_ nl nc : Addr) (p0 p1 p2 p3 p4 p5 x11 x12 xc : Int32) (D_ N_ K_ M_ G_ : Nat) (SA_ : Sta Z Z.heap "com/example/ariel/ariel/cbor/CborSequence" "NOTHING" "[B" (.ref no_)) (SB_ : Sta Z Z.heap "com/example/ariel/ariel/cbor/CborSequence" "NO_LENGTHS" "[J" (.ref nl)) (SC_ : Sta Z Z.heap "com/example/ariel/ariel/cbor/CborSequence" "NO_CUTS" "[I" (.ref nc)) (kl_ kc_ : ClassId) (vl_ vc_ : List Value) (VB_ : Arv Z Z.heap nl kl_ .long (0 : Int32) vl_ (.long (0 : Int64))) (VC_ : Arv Z Z.heap nc kc_ .int (0 : Int32) vc_ (.int (0 : Int32))) (hM : M_ ≤ 40) (hG : G_ ≤ 40) (io : Bool) (O_ P_ lv : Nat) (hlv : lv ≤ 24) (hO : O_ ≤ 82) (hP : P_ ≤ 81) (x26 : Int64)
    (T0 : State) (hh : Heap) (locs : List Loc) (X0 : Stand p l e room_1 s m args below meth c T0 locs 14 590) (e0 : T0.heap = hh) (N0 : Fr n0 locs) (J : own_I Z hh n0 s_ pz nl nc io O_ P_ lv) : Gd p e below (Fin1 s below room_1.cells room_1.slots (RV fun z _ L => z = .int 1 ∧ Fr n0 L)) T0 (mkF m 608 #[.val (.int p0), .val (.int p1), .val (.int p2), .val (.int p3), .val (.int p4), .val (.int p5), .val (.int (own_i D_)), .val (.int (own_i N_)), .val (.int (own_i K_)), .val (.int (own_i M_)), .val (.int (own_i G_)), .val (.int x11), .val (.int x12), .val (.int (-97 : Int32)), .val (.ref p1_), .val (.ref pz), .val (.ref s_), .val (.long (own_l (12 * lv))), .second, .val (.int xc), .val (.long (own_l P_)), .second, .val (.long (own_l O_)), .second, .val (.int (own_b io)), .val (.int (1 : Int32)), .val (.long x26), .second] []) := by
  have Z0 := J.old.2.1
  refine g_iload X0 hx hby i0_608 rfl ?_
  refine g_if_eq X0 hx hby i0_610 (fun c610_1 => False.elim (absurd c610_1 (by decide))) fun c610_1 => ?_
  refine g_aload X0 hx hby i0_613 rfl rfl ?_
  refine g_callV0 X0 hx hby hZ (y0 := (⟨"com/example/ariel/ariel/cbor/CborSequence", "footprint", "()J"⟩ : MethodName)) (y := (⟨"com/example/ariel/ariel/cbor/CborSequence", "footprint", "()J"⟩ : MethodName)) (argsL := []) (rest := []) hown (wd_ hw 216 rfl) (wd_ hw 217 rfl) (notFace_of_selects (args := #[]) (mvT hZ (wd_ hw 219 rfl))) (wd_ hw 219 rfl) (wd_ hw 218 rfl) (wd_ hw 4 rfl) (wd_ hw 220 rfl) (by decide) (a := s_) (J.old.2.2.1) (fpU l Z a0 hw s_ pz no_ nl nc io O_ P_ 0 lv hh n0 SA_ SB_ SC_ kl_ kc_ vl_ vc_ VB_ VC_ (by omega) J) e0 (by rw [hml]; rfl) pd_26 rfl rfl i0_615 (by decide) 0 rfl (by decide) (by decide) (by decide) fun T2 v2 L2 X2 q2 => ?_
  obtain ⟨_, rfl, rfl, e2, N2⟩ := q2
  have N0 := Fr.app N0 N2
  show Gd p e below _ T2 (mkF m 618 #[.val (.int p0), .val (.int p1), .val (.int p2), .val (.int p3), .val (.int p4), .val (.int p5), .val (.int (own_i D_)), .val (.int (own_i N_)), .val (.int (own_i K_)), .val (.int (own_i M_)), .val (.int (own_i G_)), .val (.int x11), .val (.int x12), .val (.int (-97 : Int32)), .val (.ref p1_), .val (.ref pz), .val (.ref s_), .val (.long (own_l (12 * lv))), .second, .val (.int xc), .val (.long (own_l P_)), .second, .val (.long (own_l O_)), .second, .val (.int (own_b io)), .val (.int (1 : Int32)), .val (.long x26), .second] [(.long ((own_l O_) + (own_l (12 * lv))))])
  refine g_lload X2 hx hby i0_618 rfl ?_
  refine g_lload X2 hx hby i0_620 rfl ?_
  refine g_ladd X2 hx hby i0_622 ?_
  refine g_lcmp_ne X2 hx hby i0_623 i0_624 (fun c623_3 => False.elim (c623_3 rfl)) fun c623_3 => ?_
  refine g_iconst X2 hx hby i0_627 (z := (1 : Int32)) (by decide) ?_
  refine g_goto X2 hx hby i0_628 ?_
  refine g_istore X2 hx hby i0_632 (l' := #[.val (.int p0), .val (.int p1), .val (.int p2), .val (.int p3), .val (.int p4), .val (.int p5), .val (.int (own_i D_)), .val (.int (own_i N_)), .val (.int (own_i K_)), .val (.int (own_i M_)), .val (.int (own_i G_)), .val (.int x11), .val (.int x12), .val (.int (-97 : Int32)), .val (.ref p1_), .val (.ref pz), .val (.ref s_), .val (.long (own_l (12 * lv))), .second, .val (.int xc), .val (.long (own_l P_)), .second, .val (.long (own_l O_)), .second, .val (.int (own_b io)), .val (.int (1 : Int32)), .val (.long x26), .second]) rfl ?_
  refine g_lload X2 hx hby i0_634 rfl ?_
  refine g_lconst X2 hx hby i0_636 (z := (0 : Int64)) (by decide) ?_
  refine g_lcmp_ne X2 hx hby i0_637 i0_638 (fun c637_4 => ?_) (fun c637_4 => ?_)
  · have hp0 : 0 < P_ := Nat.pos_of_ne_zero (fun q => c637_4 (by rw [q]; rfl))
    refine g_iload X2 hx hby i0_647 rfl ?_
    refine g_if_eq X2 hx hby i0_649 (fun c649_5 => ?_) (fun c649_5 => ?_)
    · refine g_lload X2 hx hby i0_664 rfl ?_
      refine g_iload X2 hx hby i0_666 rfl ?_
      refine g_i2l X2 hx hby i0_668 ?_
      rw [own_i2l (by omega)]
      refine g_ladd X2 hx hby i0_669 ?_
      rw [own_ladd]
      refine g_lstore X2 hx hby i0_670 (l' := #[.val (.int p0), .val (.int p1), .val (.int p2), .val (.int p3), .val (.int p4), .val (.int p5), .val (.int (own_i D_)), .val (.int (own_i N_)), .val (.int (own_i K_)), .val (.int (own_i M_)), .val (.int (own_i G_)), .val (.int x11), .val (.int x12), .val (.int (-97 : Int32)), .val (.ref p1_), .val (.ref pz), .val (.ref s_), .val (.long (own_l (12 * lv))), .second, .val (.int xc), .val (.long (own_l P_)), .second, .val (.long (own_l O_)), .second, .val (.int (own_b io)), .val (.int (1 : Int32)), .val (.long (own_l (P_ + G_))), .second]) rfl ?_
      refine g_lload X2 hx hby i0_672 rfl ?_
      refine g_lload X2 hx hby i0_674 rfl ?_
      refine g_lcmp_le X2 hx hby i0_676 i0_677 (fun c676_6 => ?_) (fun c676_6 => ?_)
      · have hge : ¬ O_ < P_ + G_ := fun q => c676_6 ((own_llt (by omega) (by omega)).mpr q)
        refine g_iconst X2 hx hby i0_693 (z := (1 : Int32)) (by decide) ?_
        refine g_istore X2 hx hby i0_694 (l' := #[.val (.int p0), .val (.int p1), .val (.int p2), .val (.int p3), .val (.int p4), .val (.int p5), .val (.int (own_i D_)), .val (.int (own_i N_)), .val (.int (own_i K_)), .val (.int (own_i M_)), .val (.int (own_i G_)), .val (.int x11), .val (.int x12), .val (.int (-97 : Int32)), .val (.ref p1_), .val (.ref pz), .val (.ref s_), .val (.long (own_l (12 * lv))), .second, .val (.int xc), .val (.long (own_l P_)), .second, .val (.long (own_l O_)), .second, .val (.int (1 : Int32)), .val (.int (1 : Int32)), .val (.long (own_l (P_ + G_))), .second]) rfl ?_
        refine g_lload X2 hx hby i0_696 rfl ?_
        refine g_iload X2 hx hby i0_698 rfl ?_
        refine g_i2l X2 hx hby i0_700 ?_
        rw [own_i2l (by omega)]
        refine g_ladd X2 hx hby i0_701 ?_
        rw [own_ladd]
        refine g_lstore X2 hx hby i0_702 (l' := #[.val (.int p0), .val (.int p1), .val (.int p2), .val (.int p3), .val (.int p4), .val (.int p5), .val (.int (own_i D_)), .val (.int (own_i N_)), .val (.int (own_i K_)), .val (.int (own_i M_)), .val (.int (own_i G_)), .val (.int x11), .val (.int x12), .val (.int (-97 : Int32)), .val (.ref p1_), .val (.ref pz), .val (.ref s_), .val (.long (own_l (12 * lv))), .second, .val (.int xc), .val (.long (own_l (P_ + G_))), .second, .val (.long (own_l O_)), .second, .val (.int (1 : Int32)), .val (.int (1 : Int32)), .val (.long (own_l (P_ + G_))), .second]) rfl ?_
        refine g_aload X2 hx hby i0_704 rfl rfl ?_
        refine g_aload X2 hx hby i0_706 rfl rfl ?_
        refine g_iconst X2 hx hby i0_708 (z := (0 : Int32)) (by decide) ?_
        refine g_iload X2 hx hby i0_709 rfl ?_
        refine g_callV0 X2 hx hby hZ (y0 := (⟨"com/example/ariel/ariel/cbor/CborSequence", "append", "([BII)V"⟩ : MethodName)) (y := (⟨"com/example/ariel/ariel/cbor/CborSequence", "append", "([BII)V"⟩ : MethodName)) (argsL := [(.ref pz), (.int (0 : Int32)), (.int (own_i G_))]) (rest := []) hown (wd_ hw 48 rfl) (wd_ hw 49 rfl) (notFace_of_selects (args := #[]) (mvT hZ (wd_ hw 51 rfl))) (wd_ hw 51 rfl) (wd_ hw 50 rfl) (wd_ hw 4 rfl) (wd_ hw 52 rfl) (by decide) (a := s_) (J.old.2.2.1) (apU1 l Z a0 hw s_ pz no_ nl nc io O_ P_ G_ lv hh n0 SA_ SB_ SC_ (by omega) hp0 (by omega) (by omega) J) e2 (by rw [hml]; rfl) pd_27 rfl rfl i0_711 (by decide) 0 rfl (by decide) (by decide) (by decide) fun T7 v7 L7 X7 q7 => ?_
        obtain ⟨rfl, J7, N7⟩ := q7
        have N0 := Fr.app N0 N7
        have Z0 := J7.old.2.1
        show Gd p e below _ T7 (mkF m 714 #[.val (.int p0), .val (.int p1), .val (.int p2), .val (.int p3), .val (.int p4), .val (.int p5), .val (.int (own_i D_)), .val (.int (own_i N_)), .val (.int (own_i K_)), .val (.int (own_i M_)), .val (.int (own_i G_)), .val (.int x11), .val (.int x12), .val (.int (-97 : Int32)), .val (.ref p1_), .val (.ref pz), .val (.ref s_), .val (.long (own_l (12 * lv))), .second, .val (.int xc), .val (.long (own_l (P_ + G_))), .second, .val (.long (own_l O_)), .second, .val (.int (1 : Int32)), .val (.int (1 : Int32)), .val (.long (own_l (P_ + G_))), .second] [])
        rw [own_grF (by omega)] at J7
        exact sgCv l Z a0 hw hx hby hml hZ hown hret hlk n0 no_ s_ pz p1_ nl nc p0 p1 p2 p3 p4 p5 x11 x12 xc D_ N_ K_ M_ G_ SA_ SB_ SC_ kl_ kc_ vl_ vc_ VB_ VC_ hM hG true O_ (P_ + G_) lv hlv (by omega) (by omega) _ T7 _ _ (own_bump X7 (by decide) (by decide)) rfl N0 J7
      · have hlt : O_ < P_ + G_ := (own_llt (by omega) (by omega)).mp c676_6
        refine g_lload X2 hx hby i0_680 rfl ?_
        refine g_ldc2Long X2 hx hby hZ hown (wd_ hw 224 rfl) i0_682 ?_
        refine g_lload X2 hx hby i0_685 rfl ?_
        refine g_lmul X2 hx hby i0_687 ?_
        rw [own_lmul2]
        refine g_callS0 X2 hx hby hZ (y := (⟨"java/lang/Math", "max", "(JJ)J"⟩ : MethodName)) (argsL := [(.long (own_l (P_ + G_))), (.long (own_l (2 * O_)))]) (rest := []) hown (wd_ hw 225 rfl) (wd_ hw 226 rfl) (wd_ hw 7 rfl) (wd_ hw 227 rfl) (by decide) (rm36 l Z a0 hw [] (own_l (P_ + G_)) (own_l (2 * O_)) hh n0 Z0) e2 (by rw [hml]; rfl) pd_28 rfl rfl i0_688 (by decide) 0 rfl (by decide) (by decide) (by decide) fun T8 v8 L8 X8 q8 => ?_
        obtain ⟨_, rfl, r8, rfl, hr8, e8, N8⟩ := q8
        have N0 := Fr.app N0 N8
        show Gd p e below _ T8 (mkF m 691 #[.val (.int p0), .val (.int p1), .val (.int p2), .val (.int p3), .val (.int p4), .val (.int p5), .val (.int (own_i D_)), .val (.int (own_i N_)), .val (.int (own_i K_)), .val (.int (own_i M_)), .val (.int (own_i G_)), .val (.int x11), .val (.int x12), .val (.int (-97 : Int32)), .val (.ref p1_), .val (.ref pz), .val (.ref s_), .val (.long (own_l (12 * lv))), .second, .val (.int xc), .val (.long (own_l P_)), .second, .val (.long (own_l O_)), .second, .val (.int (own_b io)), .val (.int (1 : Int32)), .val (.long (own_l (P_ + G_))), .second] [(.long r8)])
        obtain rfl : r8 = own_l (max (P_ + G_) (2 * O_)) := own_mxl (by omega) (by omega) hr8
        refine g_lstore X8 hx hby i0_691 (l' := #[.val (.int p0), .val (.int p1), .val (.int p2), .val (.int p3), .val (.int p4), .val (.int p5), .val (.int (own_i D_)), .val (.int (own_i N_)), .val (.int (own_i K_)), .val (.int (own_i M_)), .val (.int (own_i G_)), .val (.int x11), .val (.int x12), .val (.int (-97 : Int32)), .val (.ref p1_), .val (.ref pz), .val (.ref s_), .val (.long (own_l (12 * lv))), .second, .val (.int xc), .val (.long (own_l P_)), .second, .val (.long (own_l (max (P_ + G_) (2 * O_)))), .second, .val (.int (own_b io)), .val (.int (1 : Int32)), .val (.long (own_l (P_ + G_))), .second]) rfl ?_
        refine g_iconst X8 hx hby i0_693 (z := (1 : Int32)) (by decide) ?_
        refine g_istore X8 hx hby i0_694 (l' := #[.val (.int p0), .val (.int p1), .val (.int p2), .val (.int p3), .val (.int p4), .val (.int p5), .val (.int (own_i D_)), .val (.int (own_i N_)), .val (.int (own_i K_)), .val (.int (own_i M_)), .val (.int (own_i G_)), .val (.int x11), .val (.int x12), .val (.int (-97 : Int32)), .val (.ref p1_), .val (.ref pz), .val (.ref s_), .val (.long (own_l (12 * lv))), .second, .val (.int xc), .val (.long (own_l P_)), .second, .val (.long (own_l (max (P_ + G_) (2 * O_)))), .second, .val (.int (1 : Int32)), .val (.int (1 : Int32)), .val (.long (own_l (P_ + G_))), .second]) rfl ?_
        refine g_lload X8 hx hby i0_696 rfl ?_
        refine g_iload X8 hx hby i0_698 rfl ?_
        refine g_i2l X8 hx hby i0_700 ?_
        rw [own_i2l (by omega)]
        refine g_ladd X8 hx hby i0_701 ?_
        rw [own_ladd]
        refine g_lstore X8 hx hby i0_702 (l' := #[.val (.int p0), .val (.int p1), .val (.int p2), .val (.int p3), .val (.int p4), .val (.int p5), .val (.int (own_i D_)), .val (.int (own_i N_)), .val (.int (own_i K_)), .val (.int (own_i M_)), .val (.int (own_i G_)), .val (.int x11), .val (.int x12), .val (.int (-97 : Int32)), .val (.ref p1_), .val (.ref pz), .val (.ref s_), .val (.long (own_l (12 * lv))), .second, .val (.int xc), .val (.long (own_l (P_ + G_))), .second, .val (.long (own_l (max (P_ + G_) (2 * O_)))), .second, .val (.int (1 : Int32)), .val (.int (1 : Int32)), .val (.long (own_l (P_ + G_))), .second]) rfl ?_
        refine g_aload X8 hx hby i0_704 rfl rfl ?_
        refine g_aload X8 hx hby i0_706 rfl rfl ?_
        refine g_iconst X8 hx hby i0_708 (z := (0 : Int32)) (by decide) ?_
        refine g_iload X8 hx hby i0_709 rfl ?_
        refine g_callV0 X8 hx hby hZ (y0 := (⟨"com/example/ariel/ariel/cbor/CborSequence", "append", "([BII)V"⟩ : MethodName)) (y := (⟨"com/example/ariel/ariel/cbor/CborSequence", "append", "([BII)V"⟩ : MethodName)) (argsL := [(.ref pz), (.int (0 : Int32)), (.int (own_i G_))]) (rest := []) hown (wd_ hw 48 rfl) (wd_ hw 49 rfl) (notFace_of_selects (args := #[]) (mvT hZ (wd_ hw 51 rfl))) (wd_ hw 51 rfl) (wd_ hw 50 rfl) (wd_ hw 4 rfl) (wd_ hw 52 rfl) (by decide) (a := s_) (J.old.2.2.1) (apU1 l Z a0 hw s_ pz no_ nl nc io O_ P_ G_ lv hh n0 SA_ SB_ SC_ (by omega) hp0 (by omega) (by omega) J) e8 (by rw [hml]; rfl) pd_27 rfl rfl i0_711 (by decide) 0 rfl (by decide) (by decide) (by decide) fun T9 v9 L9 X9 q9 => ?_
        obtain ⟨rfl, J9, N9⟩ := q9
        have N0 := Fr.app N0 N9
        have Z0 := J9.old.2.1
        show Gd p e below _ T9 (mkF m 714 #[.val (.int p0), .val (.int p1), .val (.int p2), .val (.int p3), .val (.int p4), .val (.int p5), .val (.int (own_i D_)), .val (.int (own_i N_)), .val (.int (own_i K_)), .val (.int (own_i M_)), .val (.int (own_i G_)), .val (.int x11), .val (.int x12), .val (.int (-97 : Int32)), .val (.ref p1_), .val (.ref pz), .val (.ref s_), .val (.long (own_l (12 * lv))), .second, .val (.int xc), .val (.long (own_l (P_ + G_))), .second, .val (.long (own_l (max (P_ + G_) (2 * O_)))), .second, .val (.int (1 : Int32)), .val (.int (1 : Int32)), .val (.long (own_l (P_ + G_))), .second] [])
        rw [own_grT (by omega)] at J9
        exact sgCv l Z a0 hw hx hby hml hZ hown hret hlk n0 no_ s_ pz p1_ nl nc p0 p1 p2 p3 p4 p5 x11 x12 xc D_ N_ K_ M_ G_ SA_ SB_ SC_ kl_ kc_ vl_ vc_ VB_ VC_ hM hG true (max (P_ + G_) (2 * O_)) (P_ + G_) lv hlv (by omega) (by omega) _ T9 _ _ (own_bump X9 (by decide) (by decide)) rfl N0 J9
    · obtain rfl : io = true := own_bT c649_5
      have hPO : P_ ≤ O_ := J.old.2.2.2 rfl
      refine g_lload X2 hx hby i0_652 rfl ?_
      refine g_lload X2 hx hby i0_654 rfl ?_
      refine g_lsub X2 hx hby i0_656 ?_
      rw [own_lsub hPO]
      refine g_iload X2 hx hby i0_657 rfl ?_
      refine g_i2l X2 hx hby i0_659 ?_
      rw [own_i2l (by omega)]
      refine g_lcmp_ge X2 hx hby i0_660 i0_661 (fun c660_10 => ?_) (fun c660_10 => ?_)
      · have hge : ¬ O_ < P_ + G_ := fun q => c660_10 ((own_llt (by omega) (by omega)).mpr (by omega))
        refine g_lload X2 hx hby i0_696 rfl ?_
        refine g_iload X2 hx hby i0_698 rfl ?_
        refine g_i2l X2 hx hby i0_700 ?_
        rw [own_i2l (by omega)]
        refine g_ladd X2 hx hby i0_701 ?_
        rw [own_ladd]
        refine g_lstore X2 hx hby i0_702 (l' := #[.val (.int p0), .val (.int p1), .val (.int p2), .val (.int p3), .val (.int p4), .val (.int p5), .val (.int (own_i D_)), .val (.int (own_i N_)), .val (.int (own_i K_)), .val (.int (own_i M_)), .val (.int (own_i G_)), .val (.int x11), .val (.int x12), .val (.int (-97 : Int32)), .val (.ref p1_), .val (.ref pz), .val (.ref s_), .val (.long (own_l (12 * lv))), .second, .val (.int xc), .val (.long (own_l (P_ + G_))), .second, .val (.long (own_l O_)), .second, .val (.int (own_b true)), .val (.int (1 : Int32)), .val (.long x26), .second]) rfl ?_
        refine g_aload X2 hx hby i0_704 rfl rfl ?_
        refine g_aload X2 hx hby i0_706 rfl rfl ?_
        refine g_iconst X2 hx hby i0_708 (z := (0 : Int32)) (by decide) ?_
        refine g_iload X2 hx hby i0_709 rfl ?_
        refine g_callV0 X2 hx hby hZ (y0 := (⟨"com/example/ariel/ariel/cbor/CborSequence", "append", "([BII)V"⟩ : MethodName)) (y := (⟨"com/example/ariel/ariel/cbor/CborSequence", "append", "([BII)V"⟩ : MethodName)) (argsL := [(.ref pz), (.int (0 : Int32)), (.int (own_i G_))]) (rest := []) hown (wd_ hw 48 rfl) (wd_ hw 49 rfl) (notFace_of_selects (args := #[]) (mvT hZ (wd_ hw 51 rfl))) (wd_ hw 51 rfl) (wd_ hw 50 rfl) (wd_ hw 4 rfl) (wd_ hw 52 rfl) (by decide) (a := s_) (J.old.2.2.1) (apU1 l Z a0 hw s_ pz no_ nl nc true O_ P_ G_ lv hh n0 SA_ SB_ SC_ (by omega) hp0 (by omega) (by omega) J) e2 (by rw [hml]; rfl) pd_27 rfl rfl i0_711 (by decide) 0 rfl (by decide) (by decide) (by decide) fun T11 v11 L11 X11 q11 => ?_
        obtain ⟨rfl, J11, N11⟩ := q11
        have N0 := Fr.app N0 N11
        have Z0 := J11.old.2.1
        show Gd p e below _ T11 (mkF m 714 #[.val (.int p0), .val (.int p1), .val (.int p2), .val (.int p3), .val (.int p4), .val (.int p5), .val (.int (own_i D_)), .val (.int (own_i N_)), .val (.int (own_i K_)), .val (.int (own_i M_)), .val (.int (own_i G_)), .val (.int x11), .val (.int x12), .val (.int (-97 : Int32)), .val (.ref p1_), .val (.ref pz), .val (.ref s_), .val (.long (own_l (12 * lv))), .second, .val (.int xc), .val (.long (own_l (P_ + G_))), .second, .val (.long (own_l O_)), .second, .val (.int (own_b true)), .val (.int (1 : Int32)), .val (.long x26), .second] [])
        rw [own_grF (by omega)] at J11
        exact sgCv l Z a0 hw hx hby hml hZ hown hret hlk n0 no_ s_ pz p1_ nl nc p0 p1 p2 p3 p4 p5 x11 x12 xc D_ N_ K_ M_ G_ SA_ SB_ SC_ kl_ kc_ vl_ vc_ VB_ VC_ hM hG true O_ (P_ + G_) lv hlv (by omega) (by omega) _ T11 _ _ (own_bump X11 (by decide) (by decide)) rfl N0 J11
      · refine g_lload X2 hx hby i0_664 rfl ?_
        refine g_iload X2 hx hby i0_666 rfl ?_
        refine g_i2l X2 hx hby i0_668 ?_
        rw [own_i2l (by omega)]
        refine g_ladd X2 hx hby i0_669 ?_
        rw [own_ladd]
        refine g_lstore X2 hx hby i0_670 (l' := #[.val (.int p0), .val (.int p1), .val (.int p2), .val (.int p3), .val (.int p4), .val (.int p5), .val (.int (own_i D_)), .val (.int (own_i N_)), .val (.int (own_i K_)), .val (.int (own_i M_)), .val (.int (own_i G_)), .val (.int x11), .val (.int x12), .val (.int (-97 : Int32)), .val (.ref p1_), .val (.ref pz), .val (.ref s_), .val (.long (own_l (12 * lv))), .second, .val (.int xc), .val (.long (own_l P_)), .second, .val (.long (own_l O_)), .second, .val (.int (own_b true)), .val (.int (1 : Int32)), .val (.long (own_l (P_ + G_))), .second]) rfl ?_
        refine g_lload X2 hx hby i0_672 rfl ?_
        refine g_lload X2 hx hby i0_674 rfl ?_
        refine g_lcmp_le X2 hx hby i0_676 i0_677 (fun c676_12 => ?_) (fun c676_12 => ?_)
        · have hge : ¬ O_ < P_ + G_ := fun q => c676_12 ((own_llt (by omega) (by omega)).mpr q)
          refine g_iconst X2 hx hby i0_693 (z := (1 : Int32)) (by decide) ?_
          refine g_istore X2 hx hby i0_694 (l' := #[.val (.int p0), .val (.int p1), .val (.int p2), .val (.int p3), .val (.int p4), .val (.int p5), .val (.int (own_i D_)), .val (.int (own_i N_)), .val (.int (own_i K_)), .val (.int (own_i M_)), .val (.int (own_i G_)), .val (.int x11), .val (.int x12), .val (.int (-97 : Int32)), .val (.ref p1_), .val (.ref pz), .val (.ref s_), .val (.long (own_l (12 * lv))), .second, .val (.int xc), .val (.long (own_l P_)), .second, .val (.long (own_l O_)), .second, .val (.int (1 : Int32)), .val (.int (1 : Int32)), .val (.long (own_l (P_ + G_))), .second]) rfl ?_
          refine g_lload X2 hx hby i0_696 rfl ?_
          refine g_iload X2 hx hby i0_698 rfl ?_
          refine g_i2l X2 hx hby i0_700 ?_
          rw [own_i2l (by omega)]
          refine g_ladd X2 hx hby i0_701 ?_
          rw [own_ladd]
          refine g_lstore X2 hx hby i0_702 (l' := #[.val (.int p0), .val (.int p1), .val (.int p2), .val (.int p3), .val (.int p4), .val (.int p5), .val (.int (own_i D_)), .val (.int (own_i N_)), .val (.int (own_i K_)), .val (.int (own_i M_)), .val (.int (own_i G_)), .val (.int x11), .val (.int x12), .val (.int (-97 : Int32)), .val (.ref p1_), .val (.ref pz), .val (.ref s_), .val (.long (own_l (12 * lv))), .second, .val (.int xc), .val (.long (own_l (P_ + G_))), .second, .val (.long (own_l O_)), .second, .val (.int (1 : Int32)), .val (.int (1 : Int32)), .val (.long (own_l (P_ + G_))), .second]) rfl ?_
          refine g_aload X2 hx hby i0_704 rfl rfl ?_
          refine g_aload X2 hx hby i0_706 rfl rfl ?_
          refine g_iconst X2 hx hby i0_708 (z := (0 : Int32)) (by decide) ?_
          refine g_iload X2 hx hby i0_709 rfl ?_
          refine g_callV0 X2 hx hby hZ (y0 := (⟨"com/example/ariel/ariel/cbor/CborSequence", "append", "([BII)V"⟩ : MethodName)) (y := (⟨"com/example/ariel/ariel/cbor/CborSequence", "append", "([BII)V"⟩ : MethodName)) (argsL := [(.ref pz), (.int (0 : Int32)), (.int (own_i G_))]) (rest := []) hown (wd_ hw 48 rfl) (wd_ hw 49 rfl) (notFace_of_selects (args := #[]) (mvT hZ (wd_ hw 51 rfl))) (wd_ hw 51 rfl) (wd_ hw 50 rfl) (wd_ hw 4 rfl) (wd_ hw 52 rfl) (by decide) (a := s_) (J.old.2.2.1) (apU1 l Z a0 hw s_ pz no_ nl nc true O_ P_ G_ lv hh n0 SA_ SB_ SC_ (by omega) hp0 (by omega) (by omega) J) e2 (by rw [hml]; rfl) pd_27 rfl rfl i0_711 (by decide) 0 rfl (by decide) (by decide) (by decide) fun T13 v13 L13 X13 q13 => ?_
          obtain ⟨rfl, J13, N13⟩ := q13
          have N0 := Fr.app N0 N13
          have Z0 := J13.old.2.1
          show Gd p e below _ T13 (mkF m 714 #[.val (.int p0), .val (.int p1), .val (.int p2), .val (.int p3), .val (.int p4), .val (.int p5), .val (.int (own_i D_)), .val (.int (own_i N_)), .val (.int (own_i K_)), .val (.int (own_i M_)), .val (.int (own_i G_)), .val (.int x11), .val (.int x12), .val (.int (-97 : Int32)), .val (.ref p1_), .val (.ref pz), .val (.ref s_), .val (.long (own_l (12 * lv))), .second, .val (.int xc), .val (.long (own_l (P_ + G_))), .second, .val (.long (own_l O_)), .second, .val (.int (1 : Int32)), .val (.int (1 : Int32)), .val (.long (own_l (P_ + G_))), .second] [])
          rw [own_grF (by omega)] at J13
          exact sgCv l Z a0 hw hx hby hml hZ hown hret hlk n0 no_ s_ pz p1_ nl nc p0 p1 p2 p3 p4 p5 x11 x12 xc D_ N_ K_ M_ G_ SA_ SB_ SC_ kl_ kc_ vl_ vc_ VB_ VC_ hM hG true O_ (P_ + G_) lv hlv (by omega) (by omega) _ T13 _ _ (own_bump X13 (by decide) (by decide)) rfl N0 J13
        · have hlt : O_ < P_ + G_ := (own_llt (by omega) (by omega)).mp c676_12
          refine g_lload X2 hx hby i0_680 rfl ?_
          refine g_ldc2Long X2 hx hby hZ hown (wd_ hw 224 rfl) i0_682 ?_
          refine g_lload X2 hx hby i0_685 rfl ?_
          refine g_lmul X2 hx hby i0_687 ?_
          rw [own_lmul2]
          refine g_callS0 X2 hx hby hZ (y := (⟨"java/lang/Math", "max", "(JJ)J"⟩ : MethodName)) (argsL := [(.long (own_l (P_ + G_))), (.long (own_l (2 * O_)))]) (rest := []) hown (wd_ hw 225 rfl) (wd_ hw 226 rfl) (wd_ hw 7 rfl) (wd_ hw 227 rfl) (by decide) (rm36 l Z a0 hw [] (own_l (P_ + G_)) (own_l (2 * O_)) hh n0 Z0) e2 (by rw [hml]; rfl) pd_28 rfl rfl i0_688 (by decide) 0 rfl (by decide) (by decide) (by decide) fun T14 v14 L14 X14 q14 => ?_
          obtain ⟨_, rfl, r14, rfl, hr14, e14, N14⟩ := q14
          have N0 := Fr.app N0 N14
          show Gd p e below _ T14 (mkF m 691 #[.val (.int p0), .val (.int p1), .val (.int p2), .val (.int p3), .val (.int p4), .val (.int p5), .val (.int (own_i D_)), .val (.int (own_i N_)), .val (.int (own_i K_)), .val (.int (own_i M_)), .val (.int (own_i G_)), .val (.int x11), .val (.int x12), .val (.int (-97 : Int32)), .val (.ref p1_), .val (.ref pz), .val (.ref s_), .val (.long (own_l (12 * lv))), .second, .val (.int xc), .val (.long (own_l P_)), .second, .val (.long (own_l O_)), .second, .val (.int (own_b true)), .val (.int (1 : Int32)), .val (.long (own_l (P_ + G_))), .second] [(.long r14)])
          obtain rfl : r14 = own_l (max (P_ + G_) (2 * O_)) := own_mxl (by omega) (by omega) hr14
          refine g_lstore X14 hx hby i0_691 (l' := #[.val (.int p0), .val (.int p1), .val (.int p2), .val (.int p3), .val (.int p4), .val (.int p5), .val (.int (own_i D_)), .val (.int (own_i N_)), .val (.int (own_i K_)), .val (.int (own_i M_)), .val (.int (own_i G_)), .val (.int x11), .val (.int x12), .val (.int (-97 : Int32)), .val (.ref p1_), .val (.ref pz), .val (.ref s_), .val (.long (own_l (12 * lv))), .second, .val (.int xc), .val (.long (own_l P_)), .second, .val (.long (own_l (max (P_ + G_) (2 * O_)))), .second, .val (.int (own_b true)), .val (.int (1 : Int32)), .val (.long (own_l (P_ + G_))), .second]) rfl ?_
          refine g_iconst X14 hx hby i0_693 (z := (1 : Int32)) (by decide) ?_
          refine g_istore X14 hx hby i0_694 (l' := #[.val (.int p0), .val (.int p1), .val (.int p2), .val (.int p3), .val (.int p4), .val (.int p5), .val (.int (own_i D_)), .val (.int (own_i N_)), .val (.int (own_i K_)), .val (.int (own_i M_)), .val (.int (own_i G_)), .val (.int x11), .val (.int x12), .val (.int (-97 : Int32)), .val (.ref p1_), .val (.ref pz), .val (.ref s_), .val (.long (own_l (12 * lv))), .second, .val (.int xc), .val (.long (own_l P_)), .second, .val (.long (own_l (max (P_ + G_) (2 * O_)))), .second, .val (.int (1 : Int32)), .val (.int (1 : Int32)), .val (.long (own_l (P_ + G_))), .second]) rfl ?_
          refine g_lload X14 hx hby i0_696 rfl ?_
          refine g_iload X14 hx hby i0_698 rfl ?_
          refine g_i2l X14 hx hby i0_700 ?_
          rw [own_i2l (by omega)]
          refine g_ladd X14 hx hby i0_701 ?_
          rw [own_ladd]
          refine g_lstore X14 hx hby i0_702 (l' := #[.val (.int p0), .val (.int p1), .val (.int p2), .val (.int p3), .val (.int p4), .val (.int p5), .val (.int (own_i D_)), .val (.int (own_i N_)), .val (.int (own_i K_)), .val (.int (own_i M_)), .val (.int (own_i G_)), .val (.int x11), .val (.int x12), .val (.int (-97 : Int32)), .val (.ref p1_), .val (.ref pz), .val (.ref s_), .val (.long (own_l (12 * lv))), .second, .val (.int xc), .val (.long (own_l (P_ + G_))), .second, .val (.long (own_l (max (P_ + G_) (2 * O_)))), .second, .val (.int (1 : Int32)), .val (.int (1 : Int32)), .val (.long (own_l (P_ + G_))), .second]) rfl ?_
          refine g_aload X14 hx hby i0_704 rfl rfl ?_
          refine g_aload X14 hx hby i0_706 rfl rfl ?_
          refine g_iconst X14 hx hby i0_708 (z := (0 : Int32)) (by decide) ?_
          refine g_iload X14 hx hby i0_709 rfl ?_
          refine g_callV0 X14 hx hby hZ (y0 := (⟨"com/example/ariel/ariel/cbor/CborSequence", "append", "([BII)V"⟩ : MethodName)) (y := (⟨"com/example/ariel/ariel/cbor/CborSequence", "append", "([BII)V"⟩ : MethodName)) (argsL := [(.ref pz), (.int (0 : Int32)), (.int (own_i G_))]) (rest := []) hown (wd_ hw 48 rfl) (wd_ hw 49 rfl) (notFace_of_selects (args := #[]) (mvT hZ (wd_ hw 51 rfl))) (wd_ hw 51 rfl) (wd_ hw 50 rfl) (wd_ hw 4 rfl) (wd_ hw 52 rfl) (by decide) (a := s_) (J.old.2.2.1) (apU1 l Z a0 hw s_ pz no_ nl nc true O_ P_ G_ lv hh n0 SA_ SB_ SC_ (by omega) hp0 (by omega) (by omega) J) e14 (by rw [hml]; rfl) pd_27 rfl rfl i0_711 (by decide) 0 rfl (by decide) (by decide) (by decide) fun T15 v15 L15 X15 q15 => ?_
          obtain ⟨rfl, J15, N15⟩ := q15
          have N0 := Fr.app N0 N15
          have Z0 := J15.old.2.1
          show Gd p e below _ T15 (mkF m 714 #[.val (.int p0), .val (.int p1), .val (.int p2), .val (.int p3), .val (.int p4), .val (.int p5), .val (.int (own_i D_)), .val (.int (own_i N_)), .val (.int (own_i K_)), .val (.int (own_i M_)), .val (.int (own_i G_)), .val (.int x11), .val (.int x12), .val (.int (-97 : Int32)), .val (.ref p1_), .val (.ref pz), .val (.ref s_), .val (.long (own_l (12 * lv))), .second, .val (.int xc), .val (.long (own_l (P_ + G_))), .second, .val (.long (own_l (max (P_ + G_) (2 * O_)))), .second, .val (.int (1 : Int32)), .val (.int (1 : Int32)), .val (.long (own_l (P_ + G_))), .second] [])
          rw [own_grT (by omega)] at J15
          exact sgCv l Z a0 hw hx hby hml hZ hown hret hlk n0 no_ s_ pz p1_ nl nc p0 p1 p2 p3 p4 p5 x11 x12 xc D_ N_ K_ M_ G_ SA_ SB_ SC_ kl_ kc_ vl_ vc_ VB_ VC_ hM hG true (max (P_ + G_) (2 * O_)) (P_ + G_) lv hlv (by omega) (by omega) _ T15 _ _ (own_bump X15 (by decide) (by decide)) rfl N0 J15
  · obtain rfl : P_ = 0 := (own_leq (b := 0) (by omega) (by omega)).mp c637_4
    refine g_iconst X2 hx hby i0_641 (z := (0 : Int32)) (by decide) ?_
    refine g_istore X2 hx hby i0_642 (l' := #[.val (.int p0), .val (.int p1), .val (.int p2), .val (.int p3), .val (.int p4), .val (.int p5), .val (.int (own_i D_)), .val (.int (own_i N_)), .val (.int (own_i K_)), .val (.int (own_i M_)), .val (.int (own_i G_)), .val (.int x11), .val (.int x12), .val (.int (-97 : Int32)), .val (.ref p1_), .val (.ref pz), .val (.ref s_), .val (.long (own_l (12 * lv))), .second, .val (.int xc), .val (.long (own_l 0)), .second, .val (.long (own_l O_)), .second, .val (.int (0 : Int32)), .val (.int (1 : Int32)), .val (.long x26), .second]) rfl ?_
    refine g_goto X2 hx hby i0_644 ?_
    refine g_lload X2 hx hby i0_696 rfl ?_
    refine g_iload X2 hx hby i0_698 rfl ?_
    refine g_i2l X2 hx hby i0_700 ?_
    rw [own_i2l (by omega)]
    refine g_ladd X2 hx hby i0_701 ?_
    rw [own_ladd, Nat.zero_add]
    refine g_lstore X2 hx hby i0_702 (l' := #[.val (.int p0), .val (.int p1), .val (.int p2), .val (.int p3), .val (.int p4), .val (.int p5), .val (.int (own_i D_)), .val (.int (own_i N_)), .val (.int (own_i K_)), .val (.int (own_i M_)), .val (.int (own_i G_)), .val (.int x11), .val (.int x12), .val (.int (-97 : Int32)), .val (.ref p1_), .val (.ref pz), .val (.ref s_), .val (.long (own_l (12 * lv))), .second, .val (.int xc), .val (.long (own_l G_)), .second, .val (.long (own_l O_)), .second, .val (.int (0 : Int32)), .val (.int (1 : Int32)), .val (.long x26), .second]) rfl ?_
    refine g_aload X2 hx hby i0_704 rfl rfl ?_
    refine g_aload X2 hx hby i0_706 rfl rfl ?_
    refine g_iconst X2 hx hby i0_708 (z := (0 : Int32)) (by decide) ?_
    refine g_iload X2 hx hby i0_709 rfl ?_
    refine g_callV0 X2 hx hby hZ (y0 := (⟨"com/example/ariel/ariel/cbor/CborSequence", "append", "([BII)V"⟩ : MethodName)) (y := (⟨"com/example/ariel/ariel/cbor/CborSequence", "append", "([BII)V"⟩ : MethodName)) (argsL := [(.ref pz), (.int (0 : Int32)), (.int (own_i G_))]) (rest := []) hown (wd_ hw 48 rfl) (wd_ hw 49 rfl) (notFace_of_selects (args := #[]) (mvT hZ (wd_ hw 51 rfl))) (wd_ hw 51 rfl) (wd_ hw 50 rfl) (wd_ hw 4 rfl) (wd_ hw 52 rfl) (by decide) (a := s_) (J.old.2.2.1) (apU0 l Z a0 hw s_ pz no_ nl nc io O_ 0 G_ lv hh n0 SA_ SB_ SC_ (by omega) J) e2 (by rw [hml]; rfl) pd_27 rfl rfl i0_711 (by decide) 0 rfl (by decide) (by decide) (by decide) fun T16 v16 L16 X16 q16 => ?_
    obtain ⟨rfl, J16, N16⟩ := q16
    have N0 := Fr.app N0 N16
    have Z0 := J16.old.2.1
    show Gd p e below _ T16 (mkF m 714 #[.val (.int p0), .val (.int p1), .val (.int p2), .val (.int p3), .val (.int p4), .val (.int p5), .val (.int (own_i D_)), .val (.int (own_i N_)), .val (.int (own_i K_)), .val (.int (own_i M_)), .val (.int (own_i G_)), .val (.int x11), .val (.int x12), .val (.int (-97 : Int32)), .val (.ref p1_), .val (.ref pz), .val (.ref s_), .val (.long (own_l (12 * lv))), .second, .val (.int xc), .val (.long (own_l G_)), .second, .val (.long (own_l O_)), .second, .val (.int (0 : Int32)), .val (.int (1 : Int32)), .val (.long x26), .second] [])
    exact sgCv l Z a0 hw hx hby hml hZ hown hret hlk n0 no_ s_ pz p1_ nl nc p0 p1 p2 p3 p4 p5 x11 x12 xc D_ N_ K_ M_ G_ SA_ SB_ SC_ kl_ kc_ vl_ vc_ VB_ VC_ hM hG false O_ G_ lv hlv (by omega) (by omega) _ T16 _ _ (own_bump X16 (by decide) (by decide)) rfl N0 J16
theorem sgA (l : Launch) (Z : State) (a0 : Array Value) (hw : ∀ d ∈ tables_1, d.before a0 Z = true) {p : Program} {e : Env} {s : State} {m : MethodId} {args : Array Value} {below : List Frame} {meth : Method} {c : Code} (hx : p.tables.exec = Jvm.exec) (hby : c.code = code) (hml : c.maxLocals = maxLocals) (hZ : Z.Warmed39 s.vm) (hown : s.vm.findClass "com/example/ariel/ariel/cbor/CborSequenceFootprintPinLaw" = some m.cls) (hret : meth.sig.returnType = ret) (hlk : meth.locks = false) (n0 : Nat) (no_ s_ pz p1_ nl nc : Addr) (p0 p1 p2 p3 p4 p5 x11 x12 xc : Int32) (D_ N_ K_ M_ G_ : Nat) (SA_ : Sta Z Z.heap "com/example/ariel/ariel/cbor/CborSequence" "NOTHING" "[B" (.ref no_)) (SB_ : Sta Z Z.heap "com/example/ariel/ariel/cbor/CborSequence" "NO_LENGTHS" "[J" (.ref nl)) (SC_ : Sta Z Z.heap "com/example/ariel/ariel/cbor/CborSequence" "NO_CUTS" "[I" (.ref nc)) (kl_ kc_ : ClassId) (vl_ vc_ : List Value) (VB_ : Arv Z Z.heap nl kl_ .long (0 : Int32) vl_ (.long (0 : Int64))) (VC_ : Arv Z Z.heap nc kc_ .int (0 : Int32) vc_ (.int (0 : Int32))) (hM : M_ ≤ 40) (hG : G_ ≤ 40) (io : Bool) (O_ P_ lv : Nat) (hlv : lv ≤ 24) (hO : O_ ≤ 41) (hP : P_ ≤ 41) 
    (T0 : State) (hh : Heap) (locs : List Loc) (X0 : Stand p l e room_1 s m args below meth c T0 locs 13 424) (e0 : T0.heap = hh) (N0 : Fr n0 locs) (J : own_I Z hh n0 s_ pz nl nc io O_ P_ lv) : Gd p e below (Fin1 s below room_1.cells room_1.slots (RV fun z _ L => z = .int 1 ∧ Fr n0 L)) T0 (mkF m 507 #[.val (.int p0), .val (.int p1), .val (.int p2), .val (.int p3), .val (.int p4), .val (.int p5), .val (.int (own_i D_)), .val (.int (own_i N_)), .val (.int (own_i K_)), .val (.int (own_i M_)), .val (.int (own_i G_)), .val (.int x11), .val (.int x12), .val (.int (-97 : Int32)), .val (.ref p1_), .val (.ref pz), .val (.ref s_), .val (.long (own_l (12 * lv))), .second, .val (.int xc), .val (.long (own_l P_)), .second, .val (.long (own_l O_)), .second, .val (.int (own_b io)), .unset, .unset, .unset] []) := by
  have Z0 := J.old.2.1
  refine g_aload X0 hx hby i0_507 rfl rfl ?_
  refine g_callV0 X0 hx hby hZ (y0 := (⟨"com/example/ariel/ariel/cbor/CborSequence", "footprint", "()J"⟩ : MethodName)) (y := (⟨"com/example/ariel/ariel/cbor/CborSequence", "footprint", "()J"⟩ : MethodName)) (argsL := []) (rest := []) hown (wd_ hw 216 rfl) (wd_ hw 217 rfl) (notFace_of_selects (args := #[]) (mvT hZ (wd_ hw 219 rfl))) (wd_ hw 219 rfl) (wd_ hw 218 rfl) (wd_ hw 4 rfl) (wd_ hw 220 rfl) (by decide) (a := s_) (J.old.2.2.1) (fpU l Z a0 hw s_ pz no_ nl nc io O_ P_ 0 lv hh n0 SA_ SB_ SC_ kl_ kc_ vl_ vc_ VB_ VC_ (by omega) J) e0 (by rw [hml]; rfl) pd_26 rfl rfl i0_509 (by decide) 0 rfl (by decide) (by decide) (by decide) fun T1 v1 L1 X1 q1 => ?_
  obtain ⟨_, rfl, rfl, e1, N1⟩ := q1
  have N0 := Fr.app N0 N1
  show Gd p e below _ T1 (mkF m 512 #[.val (.int p0), .val (.int p1), .val (.int p2), .val (.int p3), .val (.int p4), .val (.int p5), .val (.int (own_i D_)), .val (.int (own_i N_)), .val (.int (own_i K_)), .val (.int (own_i M_)), .val (.int (own_i G_)), .val (.int x11), .val (.int x12), .val (.int (-97 : Int32)), .val (.ref p1_), .val (.ref pz), .val (.ref s_), .val (.long (own_l (12 * lv))), .second, .val (.int xc), .val (.long (own_l P_)), .second, .val (.long (own_l O_)), .second, .val (.int (own_b io)), .unset, .unset, .unset] [(.long ((own_l O_) + (own_l (12 * lv))))])
  refine g_lload X1 hx hby i0_512 rfl ?_
  refine g_lload X1 hx hby i0_514 rfl ?_
  refine g_ladd X1 hx hby i0_516 ?_
  refine g_lcmp_ne X1 hx hby i0_517 i0_518 (fun c517_2 => False.elim (c517_2 rfl)) fun c517_2 => ?_
  refine g_iconst X1 hx hby i0_521 (z := (1 : Int32)) (by decide) ?_
  refine g_goto X1 hx hby i0_522 ?_
  refine g_istore X1 hx hby i0_526 (l' := #[.val (.int p0), .val (.int p1), .val (.int p2), .val (.int p3), .val (.int p4), .val (.int p5), .val (.int (own_i D_)), .val (.int (own_i N_)), .val (.int (own_i K_)), .val (.int (own_i M_)), .val (.int (own_i G_)), .val (.int x11), .val (.int x12), .val (.int (-97 : Int32)), .val (.ref p1_), .val (.ref pz), .val (.ref s_), .val (.long (own_l (12 * lv))), .second, .val (.int xc), .val (.long (own_l P_)), .second, .val (.long (own_l O_)), .second, .val (.int (own_b io)), .val (.int (1 : Int32)), .unset, .unset]) rfl ?_
  refine g_lload X1 hx hby i0_528 rfl ?_
  refine g_lconst X1 hx hby i0_530 (z := (0 : Int64)) (by decide) ?_
  refine g_lcmp_ne X1 hx hby i0_531 i0_532 (fun c531_3 => ?_) (fun c531_3 => ?_)
  · have hp0 : 0 < P_ := Nat.pos_of_ne_zero (fun q => c531_3 (by rw [q]; rfl))
    refine g_iload X1 hx hby i0_541 rfl ?_
    refine g_if_eq X1 hx hby i0_543 (fun c543_4 => ?_) (fun c543_4 => ?_)
    · refine g_lload X1 hx hby i0_558 rfl ?_
      refine g_iload X1 hx hby i0_560 rfl ?_
      refine g_i2l X1 hx hby i0_562 ?_
      rw [own_i2l (by omega)]
      refine g_ladd X1 hx hby i0_563 ?_
      rw [own_ladd]
      refine g_lstore X1 hx hby i0_564 (l' := #[.val (.int p0), .val (.int p1), .val (.int p2), .val (.int p3), .val (.int p4), .val (.int p5), .val (.int (own_i D_)), .val (.int (own_i N_)), .val (.int (own_i K_)), .val (.int (own_i M_)), .val (.int (own_i G_)), .val (.int x11), .val (.int x12), .val (.int (-97 : Int32)), .val (.ref p1_), .val (.ref pz), .val (.ref s_), .val (.long (own_l (12 * lv))), .second, .val (.int xc), .val (.long (own_l P_)), .second, .val (.long (own_l O_)), .second, .val (.int (own_b io)), .val (.int (1 : Int32)), .val (.long (own_l (P_ + M_))), .second]) rfl ?_
      refine g_lload X1 hx hby i0_566 rfl ?_
      refine g_lload X1 hx hby i0_568 rfl ?_
      refine g_lcmp_le X1 hx hby i0_570 i0_571 (fun c570_5 => ?_) (fun c570_5 => ?_)
      · have hge : ¬ O_ < P_ + M_ := fun q => c570_5 ((own_llt (by omega) (by omega)).mpr q)
        refine g_iconst X1 hx hby i0_587 (z := (1 : Int32)) (by decide) ?_
        refine g_istore X1 hx hby i0_588 (l' := #[.val (.int p0), .val (.int p1), .val (.int p2), .val (.int p3), .val (.int p4), .val (.int p5), .val (.int (own_i D_)), .val (.int (own_i N_)), .val (.int (own_i K_)), .val (.int (own_i M_)), .val (.int (own_i G_)), .val (.int x11), .val (.int x12), .val (.int (-97 : Int32)), .val (.ref p1_), .val (.ref pz), .val (.ref s_), .val (.long (own_l (12 * lv))), .second, .val (.int xc), .val (.long (own_l P_)), .second, .val (.long (own_l O_)), .second, .val (.int (1 : Int32)), .val (.int (1 : Int32)), .val (.long (own_l (P_ + M_))), .second]) rfl ?_
        refine g_lload X1 hx hby i0_590 rfl ?_
        refine g_iload X1 hx hby i0_592 rfl ?_
        refine g_i2l X1 hx hby i0_594 ?_
        rw [own_i2l (by omega)]
        refine g_ladd X1 hx hby i0_595 ?_
        rw [own_ladd]
        refine g_lstore X1 hx hby i0_596 (l' := #[.val (.int p0), .val (.int p1), .val (.int p2), .val (.int p3), .val (.int p4), .val (.int p5), .val (.int (own_i D_)), .val (.int (own_i N_)), .val (.int (own_i K_)), .val (.int (own_i M_)), .val (.int (own_i G_)), .val (.int x11), .val (.int x12), .val (.int (-97 : Int32)), .val (.ref p1_), .val (.ref pz), .val (.ref s_), .val (.long (own_l (12 * lv))), .second, .val (.int xc), .val (.long (own_l (P_ + M_))), .second, .val (.long (own_l O_)), .second, .val (.int (1 : Int32)), .val (.int (1 : Int32)), .val (.long (own_l (P_ + M_))), .second]) rfl ?_
        refine g_aload X1 hx hby i0_598 rfl rfl ?_
        refine g_aload X1 hx hby i0_600 rfl rfl ?_
        refine g_iconst X1 hx hby i0_602 (z := (0 : Int32)) (by decide) ?_
        refine g_iload X1 hx hby i0_603 rfl ?_
        refine g_callV0 X1 hx hby hZ (y0 := (⟨"com/example/ariel/ariel/cbor/CborSequence", "append", "([BII)V"⟩ : MethodName)) (y := (⟨"com/example/ariel/ariel/cbor/CborSequence", "append", "([BII)V"⟩ : MethodName)) (argsL := [(.ref pz), (.int (0 : Int32)), (.int (own_i M_))]) (rest := []) hown (wd_ hw 48 rfl) (wd_ hw 49 rfl) (notFace_of_selects (args := #[]) (mvT hZ (wd_ hw 51 rfl))) (wd_ hw 51 rfl) (wd_ hw 50 rfl) (wd_ hw 4 rfl) (wd_ hw 52 rfl) (by decide) (a := s_) (J.old.2.2.1) (apU1 l Z a0 hw s_ pz no_ nl nc io O_ P_ M_ lv hh n0 SA_ SB_ SC_ (by omega) hp0 (by omega) (by omega) J) e1 (by rw [hml]; rfl) pd_27 rfl rfl i0_605 (by decide) 0 rfl (by decide) (by decide) (by decide) fun T6 v6 L6 X6 q6 => ?_
        obtain ⟨rfl, J6, N6⟩ := q6
        have N0 := Fr.app N0 N6
        have Z0 := J6.old.2.1
        show Gd p e below _ T6 (mkF m 608 #[.val (.int p0), .val (.int p1), .val (.int p2), .val (.int p3), .val (.int p4), .val (.int p5), .val (.int (own_i D_)), .val (.int (own_i N_)), .val (.int (own_i K_)), .val (.int (own_i M_)), .val (.int (own_i G_)), .val (.int x11), .val (.int x12), .val (.int (-97 : Int32)), .val (.ref p1_), .val (.ref pz), .val (.ref s_), .val (.long (own_l (12 * lv))), .second, .val (.int xc), .val (.long (own_l (P_ + M_))), .second, .val (.long (own_l O_)), .second, .val (.int (1 : Int32)), .val (.int (1 : Int32)), .val (.long (own_l (P_ + M_))), .second] [])
        rw [own_grF (by omega)] at J6
        exact sgBv l Z a0 hw hx hby hml hZ hown hret hlk n0 no_ s_ pz p1_ nl nc p0 p1 p2 p3 p4 p5 x11 x12 xc D_ N_ K_ M_ G_ SA_ SB_ SC_ kl_ kc_ vl_ vc_ VB_ VC_ hM hG true O_ (P_ + M_) lv hlv (by omega) (by omega) _ T6 _ _ (own_bump X6 (by decide) (by decide)) rfl N0 J6
      · have hlt : O_ < P_ + M_ := (own_llt (by omega) (by omega)).mp c570_5
        refine g_lload X1 hx hby i0_574 rfl ?_
        refine g_ldc2Long X1 hx hby hZ hown (wd_ hw 224 rfl) i0_576 ?_
        refine g_lload X1 hx hby i0_579 rfl ?_
        refine g_lmul X1 hx hby i0_581 ?_
        rw [own_lmul2]
        refine g_callS0 X1 hx hby hZ (y := (⟨"java/lang/Math", "max", "(JJ)J"⟩ : MethodName)) (argsL := [(.long (own_l (P_ + M_))), (.long (own_l (2 * O_)))]) (rest := []) hown (wd_ hw 225 rfl) (wd_ hw 226 rfl) (wd_ hw 7 rfl) (wd_ hw 227 rfl) (by decide) (rm36 l Z a0 hw [] (own_l (P_ + M_)) (own_l (2 * O_)) hh n0 Z0) e1 (by rw [hml]; rfl) pd_28 rfl rfl i0_582 (by decide) 0 rfl (by decide) (by decide) (by decide) fun T7 v7 L7 X7 q7 => ?_
        obtain ⟨_, rfl, r7, rfl, hr7, e7, N7⟩ := q7
        have N0 := Fr.app N0 N7
        show Gd p e below _ T7 (mkF m 585 #[.val (.int p0), .val (.int p1), .val (.int p2), .val (.int p3), .val (.int p4), .val (.int p5), .val (.int (own_i D_)), .val (.int (own_i N_)), .val (.int (own_i K_)), .val (.int (own_i M_)), .val (.int (own_i G_)), .val (.int x11), .val (.int x12), .val (.int (-97 : Int32)), .val (.ref p1_), .val (.ref pz), .val (.ref s_), .val (.long (own_l (12 * lv))), .second, .val (.int xc), .val (.long (own_l P_)), .second, .val (.long (own_l O_)), .second, .val (.int (own_b io)), .val (.int (1 : Int32)), .val (.long (own_l (P_ + M_))), .second] [(.long r7)])
        obtain rfl : r7 = own_l (max (P_ + M_) (2 * O_)) := own_mxl (by omega) (by omega) hr7
        refine g_lstore X7 hx hby i0_585 (l' := #[.val (.int p0), .val (.int p1), .val (.int p2), .val (.int p3), .val (.int p4), .val (.int p5), .val (.int (own_i D_)), .val (.int (own_i N_)), .val (.int (own_i K_)), .val (.int (own_i M_)), .val (.int (own_i G_)), .val (.int x11), .val (.int x12), .val (.int (-97 : Int32)), .val (.ref p1_), .val (.ref pz), .val (.ref s_), .val (.long (own_l (12 * lv))), .second, .val (.int xc), .val (.long (own_l P_)), .second, .val (.long (own_l (max (P_ + M_) (2 * O_)))), .second, .val (.int (own_b io)), .val (.int (1 : Int32)), .val (.long (own_l (P_ + M_))), .second]) rfl ?_
        refine g_iconst X7 hx hby i0_587 (z := (1 : Int32)) (by decide) ?_
        refine g_istore X7 hx hby i0_588 (l' := #[.val (.int p0), .val (.int p1), .val (.int p2), .val (.int p3), .val (.int p4), .val (.int p5), .val (.int (own_i D_)), .val (.int (own_i N_)), .val (.int (own_i K_)), .val (.int (own_i M_)), .val (.int (own_i G_)), .val (.int x11), .val (.int x12), .val (.int (-97 : Int32)), .val (.ref p1_), .val (.ref pz), .val (.ref s_), .val (.long (own_l (12 * lv))), .second, .val (.int xc), .val (.long (own_l P_)), .second, .val (.long (own_l (max (P_ + M_) (2 * O_)))), .second, .val (.int (1 : Int32)), .val (.int (1 : Int32)), .val (.long (own_l (P_ + M_))), .second]) rfl ?_
        refine g_lload X7 hx hby i0_590 rfl ?_
        refine g_iload X7 hx hby i0_592 rfl ?_
        refine g_i2l X7 hx hby i0_594 ?_
        rw [own_i2l (by omega)]
        refine g_ladd X7 hx hby i0_595 ?_
        rw [own_ladd]
        refine g_lstore X7 hx hby i0_596 (l' := #[.val (.int p0), .val (.int p1), .val (.int p2), .val (.int p3), .val (.int p4), .val (.int p5), .val (.int (own_i D_)), .val (.int (own_i N_)), .val (.int (own_i K_)), .val (.int (own_i M_)), .val (.int (own_i G_)), .val (.int x11), .val (.int x12), .val (.int (-97 : Int32)), .val (.ref p1_), .val (.ref pz), .val (.ref s_), .val (.long (own_l (12 * lv))), .second, .val (.int xc), .val (.long (own_l (P_ + M_))), .second, .val (.long (own_l (max (P_ + M_) (2 * O_)))), .second, .val (.int (1 : Int32)), .val (.int (1 : Int32)), .val (.long (own_l (P_ + M_))), .second]) rfl ?_
        refine g_aload X7 hx hby i0_598 rfl rfl ?_
        refine g_aload X7 hx hby i0_600 rfl rfl ?_
        refine g_iconst X7 hx hby i0_602 (z := (0 : Int32)) (by decide) ?_
        refine g_iload X7 hx hby i0_603 rfl ?_
        refine g_callV0 X7 hx hby hZ (y0 := (⟨"com/example/ariel/ariel/cbor/CborSequence", "append", "([BII)V"⟩ : MethodName)) (y := (⟨"com/example/ariel/ariel/cbor/CborSequence", "append", "([BII)V"⟩ : MethodName)) (argsL := [(.ref pz), (.int (0 : Int32)), (.int (own_i M_))]) (rest := []) hown (wd_ hw 48 rfl) (wd_ hw 49 rfl) (notFace_of_selects (args := #[]) (mvT hZ (wd_ hw 51 rfl))) (wd_ hw 51 rfl) (wd_ hw 50 rfl) (wd_ hw 4 rfl) (wd_ hw 52 rfl) (by decide) (a := s_) (J.old.2.2.1) (apU1 l Z a0 hw s_ pz no_ nl nc io O_ P_ M_ lv hh n0 SA_ SB_ SC_ (by omega) hp0 (by omega) (by omega) J) e7 (by rw [hml]; rfl) pd_27 rfl rfl i0_605 (by decide) 0 rfl (by decide) (by decide) (by decide) fun T8 v8 L8 X8 q8 => ?_
        obtain ⟨rfl, J8, N8⟩ := q8
        have N0 := Fr.app N0 N8
        have Z0 := J8.old.2.1
        show Gd p e below _ T8 (mkF m 608 #[.val (.int p0), .val (.int p1), .val (.int p2), .val (.int p3), .val (.int p4), .val (.int p5), .val (.int (own_i D_)), .val (.int (own_i N_)), .val (.int (own_i K_)), .val (.int (own_i M_)), .val (.int (own_i G_)), .val (.int x11), .val (.int x12), .val (.int (-97 : Int32)), .val (.ref p1_), .val (.ref pz), .val (.ref s_), .val (.long (own_l (12 * lv))), .second, .val (.int xc), .val (.long (own_l (P_ + M_))), .second, .val (.long (own_l (max (P_ + M_) (2 * O_)))), .second, .val (.int (1 : Int32)), .val (.int (1 : Int32)), .val (.long (own_l (P_ + M_))), .second] [])
        rw [own_grT (by omega)] at J8
        exact sgBv l Z a0 hw hx hby hml hZ hown hret hlk n0 no_ s_ pz p1_ nl nc p0 p1 p2 p3 p4 p5 x11 x12 xc D_ N_ K_ M_ G_ SA_ SB_ SC_ kl_ kc_ vl_ vc_ VB_ VC_ hM hG true (max (P_ + M_) (2 * O_)) (P_ + M_) lv hlv (by omega) (by omega) _ T8 _ _ (own_bump X8 (by decide) (by decide)) rfl N0 J8
    · obtain rfl : io = true := own_bT c543_4
      have hPO : P_ ≤ O_ := J.old.2.2.2 rfl
      refine g_lload X1 hx hby i0_546 rfl ?_
      refine g_lload X1 hx hby i0_548 rfl ?_
      refine g_lsub X1 hx hby i0_550 ?_
      rw [own_lsub hPO]
      refine g_iload X1 hx hby i0_551 rfl ?_
      refine g_i2l X1 hx hby i0_553 ?_
      rw [own_i2l (by omega)]
      refine g_lcmp_ge X1 hx hby i0_554 i0_555 (fun c554_9 => ?_) (fun c554_9 => ?_)
      · have hge : ¬ O_ < P_ + M_ := fun q => c554_9 ((own_llt (by omega) (by omega)).mpr (by omega))
        refine g_lload X1 hx hby i0_590 rfl ?_
        refine g_iload X1 hx hby i0_592 rfl ?_
        refine g_i2l X1 hx hby i0_594 ?_
        rw [own_i2l (by omega)]
        refine g_ladd X1 hx hby i0_595 ?_
        rw [own_ladd]
        refine g_lstore X1 hx hby i0_596 (l' := #[.val (.int p0), .val (.int p1), .val (.int p2), .val (.int p3), .val (.int p4), .val (.int p5), .val (.int (own_i D_)), .val (.int (own_i N_)), .val (.int (own_i K_)), .val (.int (own_i M_)), .val (.int (own_i G_)), .val (.int x11), .val (.int x12), .val (.int (-97 : Int32)), .val (.ref p1_), .val (.ref pz), .val (.ref s_), .val (.long (own_l (12 * lv))), .second, .val (.int xc), .val (.long (own_l (P_ + M_))), .second, .val (.long (own_l O_)), .second, .val (.int (own_b true)), .val (.int (1 : Int32)), .unset, .unset]) rfl ?_
        refine g_aload X1 hx hby i0_598 rfl rfl ?_
        refine g_aload X1 hx hby i0_600 rfl rfl ?_
        refine g_iconst X1 hx hby i0_602 (z := (0 : Int32)) (by decide) ?_
        refine g_iload X1 hx hby i0_603 rfl ?_
        refine g_callV0 X1 hx hby hZ (y0 := (⟨"com/example/ariel/ariel/cbor/CborSequence", "append", "([BII)V"⟩ : MethodName)) (y := (⟨"com/example/ariel/ariel/cbor/CborSequence", "append", "([BII)V"⟩ : MethodName)) (argsL := [(.ref pz), (.int (0 : Int32)), (.int (own_i M_))]) (rest := []) hown (wd_ hw 48 rfl) (wd_ hw 49 rfl) (notFace_of_selects (args := #[]) (mvT hZ (wd_ hw 51 rfl))) (wd_ hw 51 rfl) (wd_ hw 50 rfl) (wd_ hw 4 rfl) (wd_ hw 52 rfl) (by decide) (a := s_) (J.old.2.2.1) (apU1 l Z a0 hw s_ pz no_ nl nc true O_ P_ M_ lv hh n0 SA_ SB_ SC_ (by omega) hp0 (by omega) (by omega) J) e1 (by rw [hml]; rfl) pd_27 rfl rfl i0_605 (by decide) 0 rfl (by decide) (by decide) (by decide) fun T10 v10 L10 X10 q10 => ?_
        obtain ⟨rfl, J10, N10⟩ := q10
        have N0 := Fr.app N0 N10
        have Z0 := J10.old.2.1
        show Gd p e below _ T10 (mkF m 608 #[.val (.int p0), .val (.int p1), .val (.int p2), .val (.int p3), .val (.int p4), .val (.int p5), .val (.int (own_i D_)), .val (.int (own_i N_)), .val (.int (own_i K_)), .val (.int (own_i M_)), .val (.int (own_i G_)), .val (.int x11), .val (.int x12), .val (.int (-97 : Int32)), .val (.ref p1_), .val (.ref pz), .val (.ref s_), .val (.long (own_l (12 * lv))), .second, .val (.int xc), .val (.long (own_l (P_ + M_))), .second, .val (.long (own_l O_)), .second, .val (.int (own_b true)), .val (.int (1 : Int32)), .unset, .unset] [])
        rw [own_grF (by omega)] at J10
        exact sgBu l Z a0 hw hx hby hml hZ hown hret hlk n0 no_ s_ pz p1_ nl nc p0 p1 p2 p3 p4 p5 x11 x12 xc D_ N_ K_ M_ G_ SA_ SB_ SC_ kl_ kc_ vl_ vc_ VB_ VC_ hM hG true O_ (P_ + M_) lv hlv (by omega) (by omega)  T10 _ _ (own_bump X10 (by decide) (by decide)) rfl N0 J10
      · refine g_lload X1 hx hby i0_558 rfl ?_
        refine g_iload X1 hx hby i0_560 rfl ?_
        refine g_i2l X1 hx hby i0_562 ?_
        rw [own_i2l (by omega)]
        refine g_ladd X1 hx hby i0_563 ?_
        rw [own_ladd]
        refine g_lstore X1 hx hby i0_564 (l' := #[.val (.int p0), .val (.int p1), .val (.int p2), .val (.int p3), .val (.int p4), .val (.int p5), .val (.int (own_i D_)), .val (.int (own_i N_)), .val (.int (own_i K_)), .val (.int (own_i M_)), .val (.int (own_i G_)), .val (.int x11), .val (.int x12), .val (.int (-97 : Int32)), .val (.ref p1_), .val (.ref pz), .val (.ref s_), .val (.long (own_l (12 * lv))), .second, .val (.int xc), .val (.long (own_l P_)), .second, .val (.long (own_l O_)), .second, .val (.int (own_b true)), .val (.int (1 : Int32)), .val (.long (own_l (P_ + M_))), .second]) rfl ?_
        refine g_lload X1 hx hby i0_566 rfl ?_
        refine g_lload X1 hx hby i0_568 rfl ?_
        refine g_lcmp_le X1 hx hby i0_570 i0_571 (fun c570_11 => ?_) (fun c570_11 => ?_)
        · have hge : ¬ O_ < P_ + M_ := fun q => c570_11 ((own_llt (by omega) (by omega)).mpr q)
          refine g_iconst X1 hx hby i0_587 (z := (1 : Int32)) (by decide) ?_
          refine g_istore X1 hx hby i0_588 (l' := #[.val (.int p0), .val (.int p1), .val (.int p2), .val (.int p3), .val (.int p4), .val (.int p5), .val (.int (own_i D_)), .val (.int (own_i N_)), .val (.int (own_i K_)), .val (.int (own_i M_)), .val (.int (own_i G_)), .val (.int x11), .val (.int x12), .val (.int (-97 : Int32)), .val (.ref p1_), .val (.ref pz), .val (.ref s_), .val (.long (own_l (12 * lv))), .second, .val (.int xc), .val (.long (own_l P_)), .second, .val (.long (own_l O_)), .second, .val (.int (1 : Int32)), .val (.int (1 : Int32)), .val (.long (own_l (P_ + M_))), .second]) rfl ?_
          refine g_lload X1 hx hby i0_590 rfl ?_
          refine g_iload X1 hx hby i0_592 rfl ?_
          refine g_i2l X1 hx hby i0_594 ?_
          rw [own_i2l (by omega)]
          refine g_ladd X1 hx hby i0_595 ?_
          rw [own_ladd]
          refine g_lstore X1 hx hby i0_596 (l' := #[.val (.int p0), .val (.int p1), .val (.int p2), .val (.int p3), .val (.int p4), .val (.int p5), .val (.int (own_i D_)), .val (.int (own_i N_)), .val (.int (own_i K_)), .val (.int (own_i M_)), .val (.int (own_i G_)), .val (.int x11), .val (.int x12), .val (.int (-97 : Int32)), .val (.ref p1_), .val (.ref pz), .val (.ref s_), .val (.long (own_l (12 * lv))), .second, .val (.int xc), .val (.long (own_l (P_ + M_))), .second, .val (.long (own_l O_)), .second, .val (.int (1 : Int32)), .val (.int (1 : Int32)), .val (.long (own_l (P_ + M_))), .second]) rfl ?_
          refine g_aload X1 hx hby i0_598 rfl rfl ?_
          refine g_aload X1 hx hby i0_600 rfl rfl ?_
          refine g_iconst X1 hx hby i0_602 (z := (0 : Int32)) (by decide) ?_
          refine g_iload X1 hx hby i0_603 rfl ?_
          refine g_callV0 X1 hx hby hZ (y0 := (⟨"com/example/ariel/ariel/cbor/CborSequence", "append", "([BII)V"⟩ : MethodName)) (y := (⟨"com/example/ariel/ariel/cbor/CborSequence", "append", "([BII)V"⟩ : MethodName)) (argsL := [(.ref pz), (.int (0 : Int32)), (.int (own_i M_))]) (rest := []) hown (wd_ hw 48 rfl) (wd_ hw 49 rfl) (notFace_of_selects (args := #[]) (mvT hZ (wd_ hw 51 rfl))) (wd_ hw 51 rfl) (wd_ hw 50 rfl) (wd_ hw 4 rfl) (wd_ hw 52 rfl) (by decide) (a := s_) (J.old.2.2.1) (apU1 l Z a0 hw s_ pz no_ nl nc true O_ P_ M_ lv hh n0 SA_ SB_ SC_ (by omega) hp0 (by omega) (by omega) J) e1 (by rw [hml]; rfl) pd_27 rfl rfl i0_605 (by decide) 0 rfl (by decide) (by decide) (by decide) fun T12 v12 L12 X12 q12 => ?_
          obtain ⟨rfl, J12, N12⟩ := q12
          have N0 := Fr.app N0 N12
          have Z0 := J12.old.2.1
          show Gd p e below _ T12 (mkF m 608 #[.val (.int p0), .val (.int p1), .val (.int p2), .val (.int p3), .val (.int p4), .val (.int p5), .val (.int (own_i D_)), .val (.int (own_i N_)), .val (.int (own_i K_)), .val (.int (own_i M_)), .val (.int (own_i G_)), .val (.int x11), .val (.int x12), .val (.int (-97 : Int32)), .val (.ref p1_), .val (.ref pz), .val (.ref s_), .val (.long (own_l (12 * lv))), .second, .val (.int xc), .val (.long (own_l (P_ + M_))), .second, .val (.long (own_l O_)), .second, .val (.int (1 : Int32)), .val (.int (1 : Int32)), .val (.long (own_l (P_ + M_))), .second] [])
          rw [own_grF (by omega)] at J12
          exact sgBv l Z a0 hw hx hby hml hZ hown hret hlk n0 no_ s_ pz p1_ nl nc p0 p1 p2 p3 p4 p5 x11 x12 xc D_ N_ K_ M_ G_ SA_ SB_ SC_ kl_ kc_ vl_ vc_ VB_ VC_ hM hG true O_ (P_ + M_) lv hlv (by omega) (by omega) _ T12 _ _ (own_bump X12 (by decide) (by decide)) rfl N0 J12
        · have hlt : O_ < P_ + M_ := (own_llt (by omega) (by omega)).mp c570_11
          refine g_lload X1 hx hby i0_574 rfl ?_
          refine g_ldc2Long X1 hx hby hZ hown (wd_ hw 224 rfl) i0_576 ?_
          refine g_lload X1 hx hby i0_579 rfl ?_
          refine g_lmul X1 hx hby i0_581 ?_
          rw [own_lmul2]
          refine g_callS0 X1 hx hby hZ (y := (⟨"java/lang/Math", "max", "(JJ)J"⟩ : MethodName)) (argsL := [(.long (own_l (P_ + M_))), (.long (own_l (2 * O_)))]) (rest := []) hown (wd_ hw 225 rfl) (wd_ hw 226 rfl) (wd_ hw 7 rfl) (wd_ hw 227 rfl) (by decide) (rm36 l Z a0 hw [] (own_l (P_ + M_)) (own_l (2 * O_)) hh n0 Z0) e1 (by rw [hml]; rfl) pd_28 rfl rfl i0_582 (by decide) 0 rfl (by decide) (by decide) (by decide) fun T13 v13 L13 X13 q13 => ?_
          obtain ⟨_, rfl, r13, rfl, hr13, e13, N13⟩ := q13
          have N0 := Fr.app N0 N13
          show Gd p e below _ T13 (mkF m 585 #[.val (.int p0), .val (.int p1), .val (.int p2), .val (.int p3), .val (.int p4), .val (.int p5), .val (.int (own_i D_)), .val (.int (own_i N_)), .val (.int (own_i K_)), .val (.int (own_i M_)), .val (.int (own_i G_)), .val (.int x11), .val (.int x12), .val (.int (-97 : Int32)), .val (.ref p1_), .val (.ref pz), .val (.ref s_), .val (.long (own_l (12 * lv))), .second, .val (.int xc), .val (.long (own_l P_)), .second, .val (.long (own_l O_)), .second, .val (.int (own_b true)), .val (.int (1 : Int32)), .val (.long (own_l (P_ + M_))), .second] [(.long r13)])
          obtain rfl : r13 = own_l (max (P_ + M_) (2 * O_)) := own_mxl (by omega) (by omega) hr13
          refine g_lstore X13 hx hby i0_585 (l' := #[.val (.int p0), .val (.int p1), .val (.int p2), .val (.int p3), .val (.int p4), .val (.int p5), .val (.int (own_i D_)), .val (.int (own_i N_)), .val (.int (own_i K_)), .val (.int (own_i M_)), .val (.int (own_i G_)), .val (.int x11), .val (.int x12), .val (.int (-97 : Int32)), .val (.ref p1_), .val (.ref pz), .val (.ref s_), .val (.long (own_l (12 * lv))), .second, .val (.int xc), .val (.long (own_l P_)), .second, .val (.long (own_l (max (P_ + M_) (2 * O_)))), .second, .val (.int (own_b true)), .val (.int (1 : Int32)), .val (.long (own_l (P_ + M_))), .second]) rfl ?_
          refine g_iconst X13 hx hby i0_587 (z := (1 : Int32)) (by decide) ?_
          refine g_istore X13 hx hby i0_588 (l' := #[.val (.int p0), .val (.int p1), .val (.int p2), .val (.int p3), .val (.int p4), .val (.int p5), .val (.int (own_i D_)), .val (.int (own_i N_)), .val (.int (own_i K_)), .val (.int (own_i M_)), .val (.int (own_i G_)), .val (.int x11), .val (.int x12), .val (.int (-97 : Int32)), .val (.ref p1_), .val (.ref pz), .val (.ref s_), .val (.long (own_l (12 * lv))), .second, .val (.int xc), .val (.long (own_l P_)), .second, .val (.long (own_l (max (P_ + M_) (2 * O_)))), .second, .val (.int (1 : Int32)), .val (.int (1 : Int32)), .val (.long (own_l (P_ + M_))), .second]) rfl ?_
          refine g_lload X13 hx hby i0_590 rfl ?_
          refine g_iload X13 hx hby i0_592 rfl ?_
          refine g_i2l X13 hx hby i0_594 ?_
          rw [own_i2l (by omega)]
          refine g_ladd X13 hx hby i0_595 ?_
          rw [own_ladd]
          refine g_lstore X13 hx hby i0_596 (l' := #[.val (.int p0), .val (.int p1), .val (.int p2), .val (.int p3), .val (.int p4), .val (.int p5), .val (.int (own_i D_)), .val (.int (own_i N_)), .val (.int (own_i K_)), .val (.int (own_i M_)), .val (.int (own_i G_)), .val (.int x11), .val (.int x12), .val (.int (-97 : Int32)), .val (.ref p1_), .val (.ref pz), .val (.ref s_), .val (.long (own_l (12 * lv))), .second, .val (.int xc), .val (.long (own_l (P_ + M_))), .second, .val (.long (own_l (max (P_ + M_) (2 * O_)))), .second, .val (.int (1 : Int32)), .val (.int (1 : Int32)), .val (.long (own_l (P_ + M_))), .second]) rfl ?_
          refine g_aload X13 hx hby i0_598 rfl rfl ?_
          refine g_aload X13 hx hby i0_600 rfl rfl ?_
          refine g_iconst X13 hx hby i0_602 (z := (0 : Int32)) (by decide) ?_
          refine g_iload X13 hx hby i0_603 rfl ?_
          refine g_callV0 X13 hx hby hZ (y0 := (⟨"com/example/ariel/ariel/cbor/CborSequence", "append", "([BII)V"⟩ : MethodName)) (y := (⟨"com/example/ariel/ariel/cbor/CborSequence", "append", "([BII)V"⟩ : MethodName)) (argsL := [(.ref pz), (.int (0 : Int32)), (.int (own_i M_))]) (rest := []) hown (wd_ hw 48 rfl) (wd_ hw 49 rfl) (notFace_of_selects (args := #[]) (mvT hZ (wd_ hw 51 rfl))) (wd_ hw 51 rfl) (wd_ hw 50 rfl) (wd_ hw 4 rfl) (wd_ hw 52 rfl) (by decide) (a := s_) (J.old.2.2.1) (apU1 l Z a0 hw s_ pz no_ nl nc true O_ P_ M_ lv hh n0 SA_ SB_ SC_ (by omega) hp0 (by omega) (by omega) J) e13 (by rw [hml]; rfl) pd_27 rfl rfl i0_605 (by decide) 0 rfl (by decide) (by decide) (by decide) fun T14 v14 L14 X14 q14 => ?_
          obtain ⟨rfl, J14, N14⟩ := q14
          have N0 := Fr.app N0 N14
          have Z0 := J14.old.2.1
          show Gd p e below _ T14 (mkF m 608 #[.val (.int p0), .val (.int p1), .val (.int p2), .val (.int p3), .val (.int p4), .val (.int p5), .val (.int (own_i D_)), .val (.int (own_i N_)), .val (.int (own_i K_)), .val (.int (own_i M_)), .val (.int (own_i G_)), .val (.int x11), .val (.int x12), .val (.int (-97 : Int32)), .val (.ref p1_), .val (.ref pz), .val (.ref s_), .val (.long (own_l (12 * lv))), .second, .val (.int xc), .val (.long (own_l (P_ + M_))), .second, .val (.long (own_l (max (P_ + M_) (2 * O_)))), .second, .val (.int (1 : Int32)), .val (.int (1 : Int32)), .val (.long (own_l (P_ + M_))), .second] [])
          rw [own_grT (by omega)] at J14
          exact sgBv l Z a0 hw hx hby hml hZ hown hret hlk n0 no_ s_ pz p1_ nl nc p0 p1 p2 p3 p4 p5 x11 x12 xc D_ N_ K_ M_ G_ SA_ SB_ SC_ kl_ kc_ vl_ vc_ VB_ VC_ hM hG true (max (P_ + M_) (2 * O_)) (P_ + M_) lv hlv (by omega) (by omega) _ T14 _ _ (own_bump X14 (by decide) (by decide)) rfl N0 J14
  · obtain rfl : P_ = 0 := (own_leq (b := 0) (by omega) (by omega)).mp c531_3
    refine g_iconst X1 hx hby i0_535 (z := (0 : Int32)) (by decide) ?_
    refine g_istore X1 hx hby i0_536 (l' := #[.val (.int p0), .val (.int p1), .val (.int p2), .val (.int p3), .val (.int p4), .val (.int p5), .val (.int (own_i D_)), .val (.int (own_i N_)), .val (.int (own_i K_)), .val (.int (own_i M_)), .val (.int (own_i G_)), .val (.int x11), .val (.int x12), .val (.int (-97 : Int32)), .val (.ref p1_), .val (.ref pz), .val (.ref s_), .val (.long (own_l (12 * lv))), .second, .val (.int xc), .val (.long (own_l 0)), .second, .val (.long (own_l O_)), .second, .val (.int (0 : Int32)), .val (.int (1 : Int32)), .unset, .unset]) rfl ?_
    refine g_goto X1 hx hby i0_538 ?_
    refine g_lload X1 hx hby i0_590 rfl ?_
    refine g_iload X1 hx hby i0_592 rfl ?_
    refine g_i2l X1 hx hby i0_594 ?_
    rw [own_i2l (by omega)]
    refine g_ladd X1 hx hby i0_595 ?_
    rw [own_ladd, Nat.zero_add]
    refine g_lstore X1 hx hby i0_596 (l' := #[.val (.int p0), .val (.int p1), .val (.int p2), .val (.int p3), .val (.int p4), .val (.int p5), .val (.int (own_i D_)), .val (.int (own_i N_)), .val (.int (own_i K_)), .val (.int (own_i M_)), .val (.int (own_i G_)), .val (.int x11), .val (.int x12), .val (.int (-97 : Int32)), .val (.ref p1_), .val (.ref pz), .val (.ref s_), .val (.long (own_l (12 * lv))), .second, .val (.int xc), .val (.long (own_l M_)), .second, .val (.long (own_l O_)), .second, .val (.int (0 : Int32)), .val (.int (1 : Int32)), .unset, .unset]) rfl ?_
    refine g_aload X1 hx hby i0_598 rfl rfl ?_
    refine g_aload X1 hx hby i0_600 rfl rfl ?_
    refine g_iconst X1 hx hby i0_602 (z := (0 : Int32)) (by decide) ?_
    refine g_iload X1 hx hby i0_603 rfl ?_
    refine g_callV0 X1 hx hby hZ (y0 := (⟨"com/example/ariel/ariel/cbor/CborSequence", "append", "([BII)V"⟩ : MethodName)) (y := (⟨"com/example/ariel/ariel/cbor/CborSequence", "append", "([BII)V"⟩ : MethodName)) (argsL := [(.ref pz), (.int (0 : Int32)), (.int (own_i M_))]) (rest := []) hown (wd_ hw 48 rfl) (wd_ hw 49 rfl) (notFace_of_selects (args := #[]) (mvT hZ (wd_ hw 51 rfl))) (wd_ hw 51 rfl) (wd_ hw 50 rfl) (wd_ hw 4 rfl) (wd_ hw 52 rfl) (by decide) (a := s_) (J.old.2.2.1) (apU0 l Z a0 hw s_ pz no_ nl nc io O_ 0 M_ lv hh n0 SA_ SB_ SC_ (by omega) J) e1 (by rw [hml]; rfl) pd_27 rfl rfl i0_605 (by decide) 0 rfl (by decide) (by decide) (by decide) fun T15 v15 L15 X15 q15 => ?_
    obtain ⟨rfl, J15, N15⟩ := q15
    have N0 := Fr.app N0 N15
    have Z0 := J15.old.2.1
    show Gd p e below _ T15 (mkF m 608 #[.val (.int p0), .val (.int p1), .val (.int p2), .val (.int p3), .val (.int p4), .val (.int p5), .val (.int (own_i D_)), .val (.int (own_i N_)), .val (.int (own_i K_)), .val (.int (own_i M_)), .val (.int (own_i G_)), .val (.int x11), .val (.int x12), .val (.int (-97 : Int32)), .val (.ref p1_), .val (.ref pz), .val (.ref s_), .val (.long (own_l (12 * lv))), .second, .val (.int xc), .val (.long (own_l M_)), .second, .val (.long (own_l O_)), .second, .val (.int (0 : Int32)), .val (.int (1 : Int32)), .unset, .unset] [])
    exact sgBu l Z a0 hw hx hby hml hZ hown hret hlk n0 no_ s_ pz p1_ nl nc p0 p1 p2 p3 p4 p5 x11 x12 xc D_ N_ K_ M_ G_ SA_ SB_ SC_ kl_ kc_ vl_ vc_ VB_ VC_ hM hG false O_ M_ lv hlv (by omega) (by omega)  T15 _ _ (own_bump X15 (by decide) (by decide)) rfl N0 J15
theorem sgD (l : Launch) (Z : State) (a0 : Array Value) (hw : ∀ d ∈ tables_1, d.before a0 Z = true) {p : Program} {e : Env} {s : State} {m : MethodId} {args : Array Value} {below : List Frame} {meth : Method} {c : Code} (hx : p.tables.exec = Jvm.exec) (hby : c.code = code) (hml : c.maxLocals = maxLocals) (hZ : Z.Warmed39 s.vm) (hown : s.vm.findClass "com/example/ariel/ariel/cbor/CborSequenceFootprintPinLaw" = some m.cls) (hret : meth.sig.returnType = ret) (hlk : meth.locks = false) (n0 : Nat) (no_ s_ pz p1_ nl nc : Addr) (p0 p1 p2 p3 p4 p5 x11 x12 xc : Int32) (D_ N_ K_ M_ G_ : Nat) (SA_ : Sta Z Z.heap "com/example/ariel/ariel/cbor/CborSequence" "NOTHING" "[B" (.ref no_)) (SB_ : Sta Z Z.heap "com/example/ariel/ariel/cbor/CborSequence" "NO_LENGTHS" "[J" (.ref nl)) (SC_ : Sta Z Z.heap "com/example/ariel/ariel/cbor/CborSequence" "NO_CUTS" "[I" (.ref nc)) (kl_ kc_ : ClassId) (vl_ vc_ : List Value) (VB_ : Arv Z Z.heap nl kl_ .long (0 : Int32) vl_ (.long (0 : Int64))) (VC_ : Arv Z Z.heap nc kc_ .int (0 : Int32) vc_ (.int (0 : Int32))) (hM : M_ ≤ 40) (hG : G_ ≤ 40) (io : Bool) (O_ P_ lv : Nat) (hlv : lv ≤ 24) (hO : O_ ≤ 41) (hP : P_ ≤ 41) 
    (T0 : State) (hh : Heap) (locs : List Loc) (X0 : Stand p l e room_1 s m args below meth c T0 locs 12 294) (e0 : T0.heap = hh) (N0 : Fr n0 locs) (J : own_I Z hh n0 s_ pz nl nc io O_ P_ lv) : Gd p e below (Fin1 s below room_1.cells room_1.slots (RV fun z _ L => z = .int 1 ∧ Fr n0 L)) T0 (mkF m 470 #[.val (.int p0), .val (.int p1), .val (.int p2), .val (.int p3), .val (.int p4), .val (.int p5), .val (.int (own_i D_)), .val (.int (own_i N_)), .val (.int (own_i K_)), .val (.int (own_i M_)), .val (.int (own_i G_)), .val (.int x11), .val (.int x12), .val (.int (-97 : Int32)), .val (.ref p1_), .val (.ref pz), .val (.ref s_), .val (.long (own_l (12 * lv))), .second, .val (.int xc), .val (.long (own_l P_)), .second, .val (.long (own_l O_)), .second, .val (.int (own_b io)), .unset, .unset, .unset] []) := by
  have Z0 := J.old.2.1
  refine g_iload X0 hx hby i0_470 rfl ?_
  refine g_if_eq X0 hx hby i0_472 (fun c472_1 => ?_) (fun c472_1 => ?_)
  · exact sgA l Z a0 hw hx hby hml hZ hown hret hlk n0 no_ s_ pz p1_ nl nc p0 p1 p2 p3 p4 p5 x11 x12 xc D_ N_ K_ M_ G_ SA_ SB_ SC_ kl_ kc_ vl_ vc_ VB_ VC_ hM hG io O_ P_ lv hlv (by omega) (by omega) T0 _ _ (own_bump X0 (by decide) (by decide)) e0 N0 J
  · refine g_aload X0 hx hby i0_475 rfl rfl ?_
    refine g_callV0 X0 hx hby hZ (y0 := (⟨"com/example/ariel/ariel/cbor/CborSequence", "detach", "()V"⟩ : MethodName)) (y := (⟨"com/example/ariel/ariel/cbor/CborSequence", "detach", "()V"⟩ : MethodName)) (argsL := []) (rest := []) hown (wd_ hw 257 rfl) (wd_ hw 258 rfl) (notFace_of_selects (args := #[]) (mvT hZ (wd_ hw 260 rfl))) (wd_ hw 260 rfl) (wd_ hw 259 rfl) (wd_ hw 4 rfl) (wd_ hw 261 rfl) (by decide) (a := s_) (J.old.2.2.1) (dtU l Z a0 hw s_ pz no_ nl nc io O_ P_ 0 lv hh n0 SA_ SB_ SC_ (by omega) J) e0 (by rw [hml]; rfl) pd_1 rfl rfl i0_477 (by decide) 0 rfl (by decide) (by decide) (by decide) fun T2 v2 L2 X2 q2 => ?_
    obtain ⟨rfl, J2, N2⟩ := q2
    have N0 := Fr.app N0 N2
    have Z0 := J2.old.2.1
    show Gd p e below _ T2 (mkF m 480 #[.val (.int p0), .val (.int p1), .val (.int p2), .val (.int p3), .val (.int p4), .val (.int p5), .val (.int (own_i D_)), .val (.int (own_i N_)), .val (.int (own_i K_)), .val (.int (own_i M_)), .val (.int (own_i G_)), .val (.int x11), .val (.int x12), .val (.int (-97 : Int32)), .val (.ref p1_), .val (.ref pz), .val (.ref s_), .val (.long (own_l (12 * lv))), .second, .val (.int xc), .val (.long (own_l P_)), .second, .val (.long (own_l O_)), .second, .val (.int (own_b io)), .unset, .unset, .unset] [])
    refine g_lload X2 hx hby i0_480 rfl ?_
    refine g_lload X2 hx hby i0_482 rfl ?_
    refine g_lcmp_lt X2 hx hby i0_484 i0_485 (fun c484_3 => ?_) (fun c484_3 => ?_)
    · refine g_lload X2 hx hby i0_500 rfl ?_
      refine g_lstore X2 hx hby i0_502 (l' := #[.val (.int p0), .val (.int p1), .val (.int p2), .val (.int p3), .val (.int p4), .val (.int p5), .val (.int (own_i D_)), .val (.int (own_i N_)), .val (.int (own_i K_)), .val (.int (own_i M_)), .val (.int (own_i G_)), .val (.int x11), .val (.int x12), .val (.int (-97 : Int32)), .val (.ref p1_), .val (.ref pz), .val (.ref s_), .val (.long (own_l (12 * lv))), .second, .val (.int xc), .val (.long (own_l P_)), .second, .val (.long (own_l P_)), .second, .val (.int (own_b io)), .unset, .unset, .unset]) rfl ?_
      rw [own_dtT (Or.inl ((own_llt (by omega) (by omega)).mp c484_3))] at J2
      refine g_iconst X2 hx hby i0_504 (z := (1 : Int32)) (by decide) ?_
      refine g_istore X2 hx hby i0_505 (l' := #[.val (.int p0), .val (.int p1), .val (.int p2), .val (.int p3), .val (.int p4), .val (.int p5), .val (.int (own_i D_)), .val (.int (own_i N_)), .val (.int (own_i K_)), .val (.int (own_i M_)), .val (.int (own_i G_)), .val (.int x11), .val (.int x12), .val (.int (-97 : Int32)), .val (.ref p1_), .val (.ref pz), .val (.ref s_), .val (.long (own_l (12 * lv))), .second, .val (.int xc), .val (.long (own_l P_)), .second, .val (.long (own_l P_)), .second, .val (.int (1 : Int32)), .unset, .unset, .unset]) rfl ?_
      exact sgA l Z a0 hw hx hby hml hZ hown hret hlk n0 no_ s_ pz p1_ nl nc p0 p1 p2 p3 p4 p5 x11 x12 xc D_ N_ K_ M_ G_ SA_ SB_ SC_ kl_ kc_ vl_ vc_ VB_ VC_ hM hG true P_ P_ lv hlv (by omega) (by omega) T2 _ _ (own_bump X2 (by decide) (by decide)) rfl N0 J2
    · refine g_lload X2 hx hby i0_488 rfl ?_
      refine g_ldc2Long X2 hx hby hZ hown (wd_ hw 224 rfl) i0_490 ?_
      refine g_lload X2 hx hby i0_493 rfl ?_
      refine g_lmul X2 hx hby i0_495 ?_
      rw [own_lmul2]
      refine g_lcmp_le X2 hx hby i0_496 i0_497 (fun c496_4 => ?_) (fun c496_4 => ?_)
      · rw [own_dtF (fun q => q.elim (fun q => c484_3 ((own_llt (by omega) (by omega)).mpr q)) (fun q => c496_4 ((own_llt (by omega) (by omega)).mpr q)))] at J2
        refine g_iconst X2 hx hby i0_504 (z := (1 : Int32)) (by decide) ?_
        refine g_istore X2 hx hby i0_505 (l' := #[.val (.int p0), .val (.int p1), .val (.int p2), .val (.int p3), .val (.int p4), .val (.int p5), .val (.int (own_i D_)), .val (.int (own_i N_)), .val (.int (own_i K_)), .val (.int (own_i M_)), .val (.int (own_i G_)), .val (.int x11), .val (.int x12), .val (.int (-97 : Int32)), .val (.ref p1_), .val (.ref pz), .val (.ref s_), .val (.long (own_l (12 * lv))), .second, .val (.int xc), .val (.long (own_l P_)), .second, .val (.long (own_l O_)), .second, .val (.int (1 : Int32)), .unset, .unset, .unset]) rfl ?_
        exact sgA l Z a0 hw hx hby hml hZ hown hret hlk n0 no_ s_ pz p1_ nl nc p0 p1 p2 p3 p4 p5 x11 x12 xc D_ N_ K_ M_ G_ SA_ SB_ SC_ kl_ kc_ vl_ vc_ VB_ VC_ hM hG true O_ P_ lv hlv (by omega) (by omega) T2 _ _ (own_bump X2 (by decide) (by decide)) rfl N0 J2
      · refine g_lload X2 hx hby i0_500 rfl ?_
        refine g_lstore X2 hx hby i0_502 (l' := #[.val (.int p0), .val (.int p1), .val (.int p2), .val (.int p3), .val (.int p4), .val (.int p5), .val (.int (own_i D_)), .val (.int (own_i N_)), .val (.int (own_i K_)), .val (.int (own_i M_)), .val (.int (own_i G_)), .val (.int x11), .val (.int x12), .val (.int (-97 : Int32)), .val (.ref p1_), .val (.ref pz), .val (.ref s_), .val (.long (own_l (12 * lv))), .second, .val (.int xc), .val (.long (own_l P_)), .second, .val (.long (own_l P_)), .second, .val (.int (own_b io)), .unset, .unset, .unset]) rfl ?_
        rw [own_dtT (Or.inr ((own_llt (by omega) (by omega)).mp c496_4))] at J2
        refine g_iconst X2 hx hby i0_504 (z := (1 : Int32)) (by decide) ?_
        refine g_istore X2 hx hby i0_505 (l' := #[.val (.int p0), .val (.int p1), .val (.int p2), .val (.int p3), .val (.int p4), .val (.int p5), .val (.int (own_i D_)), .val (.int (own_i N_)), .val (.int (own_i K_)), .val (.int (own_i M_)), .val (.int (own_i G_)), .val (.int x11), .val (.int x12), .val (.int (-97 : Int32)), .val (.ref p1_), .val (.ref pz), .val (.ref s_), .val (.long (own_l (12 * lv))), .second, .val (.int xc), .val (.long (own_l P_)), .second, .val (.long (own_l P_)), .second, .val (.int (1 : Int32)), .unset, .unset, .unset]) rfl ?_
        exact sgA l Z a0 hw hx hby hml hZ hown hret hlk n0 no_ s_ pz p1_ nl nc p0 p1 p2 p3 p4 p5 x11 x12 xc D_ N_ K_ M_ G_ SA_ SB_ SC_ kl_ kc_ vl_ vc_ VB_ VC_ hM hG true P_ P_ lv hlv (by omega) (by omega) T2 _ _ (own_bump X2 (by decide) (by decide)) rfl N0 J2
theorem sg81 (l : Launch) (Z : State) (a0 : Array Value) (hw : ∀ d ∈ tables_1, d.before a0 Z = true) {p : Program} {e : Env} {s : State} {m : MethodId} {args : Array Value} {below : List Frame} {meth : Method} {c : Code} (hx : p.tables.exec = Jvm.exec) (hby : c.code = code) (hml : c.maxLocals = maxLocals) (hZ : Z.Warmed39 s.vm) (hown : s.vm.findClass "com/example/ariel/ariel/cbor/CborSequenceFootprintPinLaw" = some m.cls) (hret : meth.sig.returnType = ret) (hlk : meth.locks = false) (n0 : Nat) (no_ nl nc : Addr) (p0 p1 p2 p3 p4 p5 x11 x12 : Int32) (D_ N_ K_ M_ G_ : Nat) (SA_ : Sta Z Z.heap "com/example/ariel/ariel/cbor/CborSequence" "NOTHING" "[B" (.ref no_)) (SB_ : Sta Z Z.heap "com/example/ariel/ariel/cbor/CborSequence" "NO_LENGTHS" "[J" (.ref nl)) (SC_ : Sta Z Z.heap "com/example/ariel/ariel/cbor/CborSequence" "NO_CUTS" "[I" (.ref nc)) (kn_ : ClassId) (vn_ : List Value) (VA_ : Arv Z Z.heap no_ kn_ .byte (0 : Int32) vn_ (.int (0 : Int32))) (kl_ kc_ : ClassId) (vl_ vc_ : List Value) (VB_ : Arv Z Z.heap nl kl_ .long (0 : Int32) vl_ (.long (0 : Int64))) (VC_ : Arv Z Z.heap nc kc_ .int (0 : Int32) vc_ (.int (0 : Int32))) (hD : D_ < 18) (hN : N_ < 24) (hK : K_ ≤ N_) (hM : M_ ≤ 40) (hG : G_ ≤ 40)
    (T0 : State) (hh : Heap) (locs : List Loc) (X0 : Stand p l e room_1 s m args below meth c T0 locs 0 0) (e0 : T0.heap = hh) (N0 : Fr n0 locs) (O : Old Z n0 hh) (Z0 : n0 ≤ hh.size) : Gd p e below (Fin1 s below room_1.cells room_1.slots (RV fun z _ L => z = .int 1 ∧ Fr n0 L)) T0 (mkF m 81 #[.val (.int p0), .val (.int p1), .val (.int p2), .val (.int p3), .val (.int p4), .val (.int p5), .val (.int (own_i D_)), .val (.int (own_i N_)), .val (.int (own_i K_)), .val (.int (own_i M_)), .val (.int (own_i G_)), .val (.int x11), .unset, .unset, .unset, .unset, .unset, .unset, .unset, .unset, .unset, .unset, .unset, .unset, .unset, .unset, .unset, .unset] [(.int x12)]) := by
  refine g_istore X0 hx hby i0_81 (l' := #[.val (.int p0), .val (.int p1), .val (.int p2), .val (.int p3), .val (.int p4), .val (.int p5), .val (.int (own_i D_)), .val (.int (own_i N_)), .val (.int (own_i K_)), .val (.int (own_i M_)), .val (.int (own_i G_)), .val (.int x11), .val (.int x12), .unset, .unset, .unset, .unset, .unset, .unset, .unset, .unset, .unset, .unset, .unset, .unset, .unset, .unset, .unset]) rfl ?_
  refine g_bipush X0 hx hby i0_83 (z := (-97 : Int32)) (by decide) ?_
  refine g_istore X0 hx hby i0_85 (l' := #[.val (.int p0), .val (.int p1), .val (.int p2), .val (.int p3), .val (.int p4), .val (.int p5), .val (.int (own_i D_)), .val (.int (own_i N_)), .val (.int (own_i K_)), .val (.int (own_i M_)), .val (.int (own_i G_)), .val (.int x11), .val (.int x12), .val (.int (-97 : Int32)), .unset, .unset, .unset, .unset, .unset, .unset, .unset, .unset, .unset, .unset, .unset, .unset, .unset, .unset]) rfl ?_
  refine g_bipush X0 hx hby i0_87 (z := (41 : Int32)) (by decide) ?_
  refine g_newarray X0 hx hby hZ (ty := .byte) rfl (wd_ hw 1 rfl) e0 i0_89 (by decide) 41 (by decide) (by decide) (by decide) (by decide) fun T1 h1 b1 k1 X1 e1 E1 hb1 V1 => ?_
  have g_b1 : n0 ≤ b1 := Nat.le_trans Z0 (Nat.le_of_eq hb1.symm)
  have O := O.ext E1
  have Z0 : n0 ≤ h1.size := Nat.le_trans Z0 E1.1
  have V1 : Arv Z h1 b1 k1 .byte (41 : Int32) [own_Z, own_Z, own_Z, own_Z, own_Z, own_Z, own_Z, own_Z, own_Z, own_Z, own_Z, own_Z, own_Z, own_Z, own_Z, own_Z, own_Z, own_Z, own_Z, own_Z, own_Z, own_Z, own_Z, own_Z, own_Z, own_Z, own_Z, own_Z, own_Z, own_Z, own_Z, own_Z, own_Z, own_Z, own_Z, own_Z, own_Z, own_Z, own_Z, own_Z, own_Z] own_Z := V1.pad (pad_rep [] _ 41)
  refine g_dup X1 hx hby i0_91 rfl ?_
  refine g_iconst X1 hx hby i0_92 (z := (0 : Int32)) (by decide) ?_
  refine g_iload X1 hx hby i0_93 rfl ?_
  refine g_bastore X1 hx hby hZ e1 V1 (i := 0) (by decide) (by decide) (by decide) (Nat.le_of_ble_eq_true rfl) i0_95 fun T2 h2 X2 e2 W2 V1 => ?_
  have V1 : Arv Z h2 b1 k1 .byte (41 : Int32) [own_X, own_Z, own_Z, own_Z, own_Z, own_Z, own_Z, own_Z, own_Z, own_Z, own_Z, own_Z, own_Z, own_Z, own_Z, own_Z, own_Z, own_Z, own_Z, own_Z, own_Z, own_Z, own_Z, own_Z, own_Z, own_Z, own_Z, own_Z, own_Z, own_Z, own_Z, own_Z, own_Z, own_Z, own_Z, own_Z, own_Z, own_Z, own_Z, own_Z, own_Z] own_Z := V1
  have O := O.wr W2 g_b1
  have Z0 : n0 ≤ h2.size := Nat.le_trans Z0 (Nat.le_of_eq W2.size.symm)
  have N0 := Fr.snoc X2 N0 g_b1
  refine g_dup X2 hx hby i0_96 rfl ?_
  refine g_iconst X2 hx hby i0_97 (z := (1 : Int32)) (by decide) ?_
  refine g_iload X2 hx hby i0_98 rfl ?_
  refine g_bastore X2 hx hby hZ e2 V1 (i := 1) (by decide) (by decide) (by decide) (Nat.le_of_ble_eq_true rfl) i0_100 fun T3 h3 X3 e3 W3 V1 => ?_
  have V1 : Arv Z h3 b1 k1 .byte (41 : Int32) [own_X, own_X, own_Z, own_Z, own_Z, own_Z, own_Z, own_Z, own_Z, own_Z, own_Z, own_Z, own_Z, own_Z, own_Z, own_Z, own_Z, own_Z, own_Z, own_Z, own_Z, own_Z, own_Z, own_Z, own_Z, own_Z, own_Z, own_Z, own_Z, own_Z, own_Z, own_Z, own_Z, own_Z, own_Z, own_Z, own_Z, own_Z, own_Z, own_Z, own_Z] own_Z := V1
  have O := O.wr W3 g_b1
  have Z0 : n0 ≤ h3.size := Nat.le_trans Z0 (Nat.le_of_eq W3.size.symm)
  have N0 := Fr.snoc X3 N0 g_b1
  refine g_dup X3 hx hby i0_101 rfl ?_
  refine g_iconst X3 hx hby i0_102 (z := (2 : Int32)) (by decide) ?_
  refine g_iload X3 hx hby i0_103 rfl ?_
  refine g_bastore X3 hx hby hZ e3 V1 (i := 2) (by decide) (by decide) (by decide) (Nat.le_of_ble_eq_true rfl) i0_105 fun T4 h4 X4 e4 W4 V1 => ?_
  have V1 : Arv Z h4 b1 k1 .byte (41 : Int32) [own_X, own_X, own_X, own_Z, own_Z, own_Z, own_Z, own_Z, own_Z, own_Z, own_Z, own_Z, own_Z, own_Z, own_Z, own_Z, own_Z, own_Z, own_Z, own_Z, own_Z, own_Z, own_Z, own_Z, own_Z, own_Z, own_Z, own_Z, own_Z, own_Z, own_Z, own_Z, own_Z, own_Z, own_Z, own_Z, own_Z, own_Z, own_Z, own_Z, own_Z] own_Z := V1
  have O := O.wr W4 g_b1
  have Z0 : n0 ≤ h4.size := Nat.le_trans Z0 (Nat.le_of_eq W4.size.symm)
  have N0 := Fr.snoc X4 N0 g_b1
  refine g_dup X4 hx hby i0_106 rfl ?_
  refine g_iconst X4 hx hby i0_107 (z := (3 : Int32)) (by decide) ?_
  refine g_iload X4 hx hby i0_108 rfl ?_
  refine g_bastore X4 hx hby hZ e4 V1 (i := 3) (by decide) (by decide) (by decide) (Nat.le_of_ble_eq_true rfl) i0_110 fun T5 h5 X5 e5 W5 V1 => ?_
  have V1 : Arv Z h5 b1 k1 .byte (41 : Int32) [own_X, own_X, own_X, own_X, own_Z, own_Z, own_Z, own_Z, own_Z, own_Z, own_Z, own_Z, own_Z, own_Z, own_Z, own_Z, own_Z, own_Z, own_Z, own_Z, own_Z, own_Z, own_Z, own_Z, own_Z, own_Z, own_Z, own_Z, own_Z, own_Z, own_Z, own_Z, own_Z, own_Z, own_Z, own_Z, own_Z, own_Z, own_Z, own_Z, own_Z] own_Z := V1
  have O := O.wr W5 g_b1
  have Z0 : n0 ≤ h5.size := Nat.le_trans Z0 (Nat.le_of_eq W5.size.symm)
  have N0 := Fr.snoc X5 N0 g_b1
  refine g_dup X5 hx hby i0_111 rfl ?_
  refine g_iconst X5 hx hby i0_112 (z := (4 : Int32)) (by decide) ?_
  refine g_iload X5 hx hby i0_113 rfl ?_
  refine g_bastore X5 hx hby hZ e5 V1 (i := 4) (by decide) (by decide) (by decide) (Nat.le_of_ble_eq_true rfl) i0_115 fun T6 h6 X6 e6 W6 V1 => ?_
  have V1 : Arv Z h6 b1 k1 .byte (41 : Int32) [own_X, own_X, own_X, own_X, own_X, own_Z, own_Z, own_Z, own_Z, own_Z, own_Z, own_Z, own_Z, own_Z, own_Z, own_Z, own_Z, own_Z, own_Z, own_Z, own_Z, own_Z, own_Z, own_Z, own_Z, own_Z, own_Z, own_Z, own_Z, own_Z, own_Z, own_Z, own_Z, own_Z, own_Z, own_Z, own_Z, own_Z, own_Z, own_Z, own_Z] own_Z := V1
  have O := O.wr W6 g_b1
  have Z0 : n0 ≤ h6.size := Nat.le_trans Z0 (Nat.le_of_eq W6.size.symm)
  have N0 := Fr.snoc X6 N0 g_b1
  refine g_dup X6 hx hby i0_116 rfl ?_
  refine g_iconst X6 hx hby i0_117 (z := (5 : Int32)) (by decide) ?_
  refine g_iload X6 hx hby i0_118 rfl ?_
  refine g_bastore X6 hx hby hZ e6 V1 (i := 5) (by decide) (by decide) (by decide) (Nat.le_of_ble_eq_true rfl) i0_120 fun T7 h7 X7 e7 W7 V1 => ?_
  have V1 : Arv Z h7 b1 k1 .byte (41 : Int32) [own_X, own_X, own_X, own_X, own_X, own_X, own_Z, own_Z, own_Z, own_Z, own_Z, own_Z, own_Z, own_Z, own_Z, own_Z, own_Z, own_Z, own_Z, own_Z, own_Z, own_Z, own_Z, own_Z, own_Z, own_Z, own_Z, own_Z, own_Z, own_Z, own_Z, own_Z, own_Z, own_Z, own_Z, own_Z, own_Z, own_Z, own_Z, own_Z, own_Z] own_Z := V1
  have O := O.wr W7 g_b1
  have Z0 : n0 ≤ h7.size := Nat.le_trans Z0 (Nat.le_of_eq W7.size.symm)
  have N0 := Fr.snoc X7 N0 g_b1
  refine g_dup X7 hx hby i0_121 rfl ?_
  refine g_bipush X7 hx hby i0_122 (z := (6 : Int32)) (by decide) ?_
  refine g_iload X7 hx hby i0_124 rfl ?_
  refine g_bastore X7 hx hby hZ e7 V1 (i := 6) (by decide) (by decide) (by decide) (Nat.le_of_ble_eq_true rfl) i0_126 fun T8 h8 X8 e8 W8 V1 => ?_
  have V1 : Arv Z h8 b1 k1 .byte (41 : Int32) [own_X, own_X, own_X, own_X, own_X, own_X, own_X, own_Z, own_Z, own_Z, own_Z, own_Z, own_Z, own_Z, own_Z, own_Z, own_Z, own_Z, own_Z, own_Z, own_Z, own_Z, own_Z, own_Z, own_Z, own_Z, own_Z, own_Z, own_Z, own_Z, own_Z, own_Z, own_Z, own_Z, own_Z, own_Z, own_Z, own_Z, own_Z, own_Z, own_Z] own_Z := V1
  have O := O.wr W8 g_b1
  have Z0 : n0 ≤ h8.size := Nat.le_trans Z0 (Nat.le_of_eq W8.size.symm)
  have N0 := Fr.snoc X8 N0 g_b1
  refine g_dup X8 hx hby i0_127 rfl ?_
  refine g_bipush X8 hx hby i0_128 (z := (7 : Int32)) (by decide) ?_
  refine g_iload X8 hx hby i0_130 rfl ?_
  refine g_bastore X8 hx hby hZ e8 V1 (i := 7) (by decide) (by decide) (by decide) (Nat.le_of_ble_eq_true rfl) i0_132 fun T9 h9 X9 e9 W9 V1 => ?_
  have V1 : Arv Z h9 b1 k1 .byte (41 : Int32) [own_X, own_X, own_X, own_X, own_X, own_X, own_X, own_X, own_Z, own_Z, own_Z, own_Z, own_Z, own_Z, own_Z, own_Z, own_Z, own_Z, own_Z, own_Z, own_Z, own_Z, own_Z, own_Z, own_Z, own_Z, own_Z, own_Z, own_Z, own_Z, own_Z, own_Z, own_Z, own_Z, own_Z, own_Z, own_Z, own_Z, own_Z, own_Z, own_Z] own_Z := V1
  have O := O.wr W9 g_b1
  have Z0 : n0 ≤ h9.size := Nat.le_trans Z0 (Nat.le_of_eq W9.size.symm)
  have N0 := Fr.snoc X9 N0 g_b1
  refine g_dup X9 hx hby i0_133 rfl ?_
  refine g_bipush X9 hx hby i0_134 (z := (8 : Int32)) (by decide) ?_
  refine g_iload X9 hx hby i0_136 rfl ?_
  refine g_bastore X9 hx hby hZ e9 V1 (i := 8) (by decide) (by decide) (by decide) (Nat.le_of_ble_eq_true rfl) i0_138 fun T10 h10 X10 e10 W10 V1 => ?_
  have V1 : Arv Z h10 b1 k1 .byte (41 : Int32) [own_X, own_X, own_X, own_X, own_X, own_X, own_X, own_X, own_X, own_Z, own_Z, own_Z, own_Z, own_Z, own_Z, own_Z, own_Z, own_Z, own_Z, own_Z, own_Z, own_Z, own_Z, own_Z, own_Z, own_Z, own_Z, own_Z, own_Z, own_Z, own_Z, own_Z, own_Z, own_Z, own_Z, own_Z, own_Z, own_Z, own_Z, own_Z, own_Z] own_Z := V1
  have O := O.wr W10 g_b1
  have Z0 : n0 ≤ h10.size := Nat.le_trans Z0 (Nat.le_of_eq W10.size.symm)
  have N0 := Fr.snoc X10 N0 g_b1
  refine g_dup X10 hx hby i0_139 rfl ?_
  refine g_bipush X10 hx hby i0_140 (z := (9 : Int32)) (by decide) ?_
  refine g_iload X10 hx hby i0_142 rfl ?_
  refine g_bastore X10 hx hby hZ e10 V1 (i := 9) (by decide) (by decide) (by decide) (Nat.le_of_ble_eq_true rfl) i0_144 fun T11 h11 X11 e11 W11 V1 => ?_
  have V1 : Arv Z h11 b1 k1 .byte (41 : Int32) [own_X, own_X, own_X, own_X, own_X, own_X, own_X, own_X, own_X, own_X, own_Z, own_Z, own_Z, own_Z, own_Z, own_Z, own_Z, own_Z, own_Z, own_Z, own_Z, own_Z, own_Z, own_Z, own_Z, own_Z, own_Z, own_Z, own_Z, own_Z, own_Z, own_Z, own_Z, own_Z, own_Z, own_Z, own_Z, own_Z, own_Z, own_Z, own_Z] own_Z := V1
  have O := O.wr W11 g_b1
  have Z0 : n0 ≤ h11.size := Nat.le_trans Z0 (Nat.le_of_eq W11.size.symm)
  have N0 := Fr.snoc X11 N0 g_b1
  refine g_dup X11 hx hby i0_145 rfl ?_
  refine g_bipush X11 hx hby i0_146 (z := (10 : Int32)) (by decide) ?_
  refine g_iload X11 hx hby i0_148 rfl ?_
  refine g_bastore X11 hx hby hZ e11 V1 (i := 10) (by decide) (by decide) (by decide) (Nat.le_of_ble_eq_true rfl) i0_150 fun T12 h12 X12 e12 W12 V1 => ?_
  have V1 : Arv Z h12 b1 k1 .byte (41 : Int32) [own_X, own_X, own_X, own_X, own_X, own_X, own_X, own_X, own_X, own_X, own_X, own_Z, own_Z, own_Z, own_Z, own_Z, own_Z, own_Z, own_Z, own_Z, own_Z, own_Z, own_Z, own_Z, own_Z, own_Z, own_Z, own_Z, own_Z, own_Z, own_Z, own_Z, own_Z, own_Z, own_Z, own_Z, own_Z, own_Z, own_Z, own_Z, own_Z] own_Z := V1
  have O := O.wr W12 g_b1
  have Z0 : n0 ≤ h12.size := Nat.le_trans Z0 (Nat.le_of_eq W12.size.symm)
  have N0 := Fr.snoc X12 N0 g_b1
  refine g_dup X12 hx hby i0_151 rfl ?_
  refine g_bipush X12 hx hby i0_152 (z := (11 : Int32)) (by decide) ?_
  refine g_iload X12 hx hby i0_154 rfl ?_
  refine g_bastore X12 hx hby hZ e12 V1 (i := 11) (by decide) (by decide) (by decide) (Nat.le_of_ble_eq_true rfl) i0_156 fun T13 h13 X13 e13 W13 V1 => ?_
  have V1 : Arv Z h13 b1 k1 .byte (41 : Int32) [own_X, own_X, own_X, own_X, own_X, own_X, own_X, own_X, own_X, own_X, own_X, own_X, own_Z, own_Z, own_Z, own_Z, own_Z, own_Z, own_Z, own_Z, own_Z, own_Z, own_Z, own_Z, own_Z, own_Z, own_Z, own_Z, own_Z, own_Z, own_Z, own_Z, own_Z, own_Z, own_Z, own_Z, own_Z, own_Z, own_Z, own_Z, own_Z] own_Z := V1
  have O := O.wr W13 g_b1
  have Z0 : n0 ≤ h13.size := Nat.le_trans Z0 (Nat.le_of_eq W13.size.symm)
  have N0 := Fr.snoc X13 N0 g_b1
  refine g_dup X13 hx hby i0_157 rfl ?_
  refine g_bipush X13 hx hby i0_158 (z := (12 : Int32)) (by decide) ?_
  refine g_iload X13 hx hby i0_160 rfl ?_
  refine g_bastore X13 hx hby hZ e13 V1 (i := 12) (by decide) (by decide) (by decide) (Nat.le_of_ble_eq_true rfl) i0_162 fun T14 h14 X14 e14 W14 V1 => ?_
  have V1 : Arv Z h14 b1 k1 .byte (41 : Int32) [own_X, own_X, own_X, own_X, own_X, own_X, own_X, own_X, own_X, own_X, own_X, own_X, own_X, own_Z, own_Z, own_Z, own_Z, own_Z, own_Z, own_Z, own_Z, own_Z, own_Z, own_Z, own_Z, own_Z, own_Z, own_Z, own_Z, own_Z, own_Z, own_Z, own_Z, own_Z, own_Z, own_Z, own_Z, own_Z, own_Z, own_Z, own_Z] own_Z := V1
  have O := O.wr W14 g_b1
  have Z0 : n0 ≤ h14.size := Nat.le_trans Z0 (Nat.le_of_eq W14.size.symm)
  have N0 := Fr.snoc X14 N0 g_b1
  refine g_dup X14 hx hby i0_163 rfl ?_
  refine g_bipush X14 hx hby i0_164 (z := (13 : Int32)) (by decide) ?_
  refine g_iload X14 hx hby i0_166 rfl ?_
  refine g_bastore X14 hx hby hZ e14 V1 (i := 13) (by decide) (by decide) (by decide) (Nat.le_of_ble_eq_true rfl) i0_168 fun T15 h15 X15 e15 W15 V1 => ?_
  have V1 : Arv Z h15 b1 k1 .byte (41 : Int32) [own_X, own_X, own_X, own_X, own_X, own_X, own_X, own_X, own_X, own_X, own_X, own_X, own_X, own_X, own_Z, own_Z, own_Z, own_Z, own_Z, own_Z, own_Z, own_Z, own_Z, own_Z, own_Z, own_Z, own_Z, own_Z, own_Z, own_Z, own_Z, own_Z, own_Z, own_Z, own_Z, own_Z, own_Z, own_Z, own_Z, own_Z, own_Z] own_Z := V1
  have O := O.wr W15 g_b1
  have Z0 : n0 ≤ h15.size := Nat.le_trans Z0 (Nat.le_of_eq W15.size.symm)
  have N0 := Fr.snoc X15 N0 g_b1
  refine g_dup X15 hx hby i0_169 rfl ?_
  refine g_bipush X15 hx hby i0_170 (z := (14 : Int32)) (by decide) ?_
  refine g_iload X15 hx hby i0_172 rfl ?_
  refine g_bastore X15 hx hby hZ e15 V1 (i := 14) (by decide) (by decide) (by decide) (Nat.le_of_ble_eq_true rfl) i0_174 fun T16 h16 X16 e16 W16 V1 => ?_
  have V1 : Arv Z h16 b1 k1 .byte (41 : Int32) [own_X, own_X, own_X, own_X, own_X, own_X, own_X, own_X, own_X, own_X, own_X, own_X, own_X, own_X, own_X, own_Z, own_Z, own_Z, own_Z, own_Z, own_Z, own_Z, own_Z, own_Z, own_Z, own_Z, own_Z, own_Z, own_Z, own_Z, own_Z, own_Z, own_Z, own_Z, own_Z, own_Z, own_Z, own_Z, own_Z, own_Z, own_Z] own_Z := V1
  have O := O.wr W16 g_b1
  have Z0 : n0 ≤ h16.size := Nat.le_trans Z0 (Nat.le_of_eq W16.size.symm)
  have N0 := Fr.snoc X16 N0 g_b1
  refine g_dup X16 hx hby i0_175 rfl ?_
  refine g_bipush X16 hx hby i0_176 (z := (15 : Int32)) (by decide) ?_
  refine g_iload X16 hx hby i0_178 rfl ?_
  refine g_bastore X16 hx hby hZ e16 V1 (i := 15) (by decide) (by decide) (by decide) (Nat.le_of_ble_eq_true rfl) i0_180 fun T17 h17 X17 e17 W17 V1 => ?_
  have V1 : Arv Z h17 b1 k1 .byte (41 : Int32) [own_X, own_X, own_X, own_X, own_X, own_X, own_X, own_X, own_X, own_X, own_X, own_X, own_X, own_X, own_X, own_X, own_Z, own_Z, own_Z, own_Z, own_Z, own_Z, own_Z, own_Z, own_Z, own_Z, own_Z, own_Z, own_Z, own_Z, own_Z, own_Z, own_Z, own_Z, own_Z, own_Z, own_Z, own_Z, own_Z, own_Z, own_Z] own_Z := V1
  have O := O.wr W17 g_b1
  have Z0 : n0 ≤ h17.size := Nat.le_trans Z0 (Nat.le_of_eq W17.size.symm)
  have N0 := Fr.snoc X17 N0 g_b1
  refine g_dup X17 hx hby i0_181 rfl ?_
  refine g_bipush X17 hx hby i0_182 (z := (16 : Int32)) (by decide) ?_
  refine g_iload X17 hx hby i0_184 rfl ?_
  refine g_bastore X17 hx hby hZ e17 V1 (i := 16) (by decide) (by decide) (by decide) (Nat.le_of_ble_eq_true rfl) i0_186 fun T18 h18 X18 e18 W18 V1 => ?_
  have V1 : Arv Z h18 b1 k1 .byte (41 : Int32) [own_X, own_X, own_X, own_X, own_X, own_X, own_X, own_X, own_X, own_X, own_X, own_X, own_X, own_X, own_X, own_X, own_X, own_Z, own_Z, own_Z, own_Z, own_Z, own_Z, own_Z, own_Z, own_Z, own_Z, own_Z, own_Z, own_Z, own_Z, own_Z, own_Z, own_Z, own_Z, own_Z, own_Z, own_Z, own_Z, own_Z, own_Z] own_Z := V1
  have O := O.wr W18 g_b1
  have Z0 : n0 ≤ h18.size := Nat.le_trans Z0 (Nat.le_of_eq W18.size.symm)
  have N0 := Fr.snoc X18 N0 g_b1
  refine g_dup X18 hx hby i0_187 rfl ?_
  refine g_bipush X18 hx hby i0_188 (z := (17 : Int32)) (by decide) ?_
  refine g_iload X18 hx hby i0_190 rfl ?_
  refine g_bastore X18 hx hby hZ e18 V1 (i := 17) (by decide) (by decide) (by decide) (Nat.le_of_ble_eq_true rfl) i0_192 fun T19 h19 X19 e19 W19 V1 => ?_
  have V1 : Arv Z h19 b1 k1 .byte (41 : Int32) [own_X, own_X, own_X, own_X, own_X, own_X, own_X, own_X, own_X, own_X, own_X, own_X, own_X, own_X, own_X, own_X, own_X, own_X, own_Z, own_Z, own_Z, own_Z, own_Z, own_Z, own_Z, own_Z, own_Z, own_Z, own_Z, own_Z, own_Z, own_Z, own_Z, own_Z, own_Z, own_Z, own_Z, own_Z, own_Z, own_Z, own_Z] own_Z := V1
  have O := O.wr W19 g_b1
  have Z0 : n0 ≤ h19.size := Nat.le_trans Z0 (Nat.le_of_eq W19.size.symm)
  have N0 := Fr.snoc X19 N0 g_b1
  refine g_dup X19 hx hby i0_193 rfl ?_
  refine g_bipush X19 hx hby i0_194 (z := (18 : Int32)) (by decide) ?_
  refine g_iload X19 hx hby i0_196 rfl ?_
  refine g_bastore X19 hx hby hZ e19 V1 (i := 18) (by decide) (by decide) (by decide) (Nat.le_of_ble_eq_true rfl) i0_198 fun T20 h20 X20 e20 W20 V1 => ?_
  have V1 : Arv Z h20 b1 k1 .byte (41 : Int32) [own_X, own_X, own_X, own_X, own_X, own_X, own_X, own_X, own_X, own_X, own_X, own_X, own_X, own_X, own_X, own_X, own_X, own_X, own_X, own_Z, own_Z, own_Z, own_Z, own_Z, own_Z, own_Z, own_Z, own_Z, own_Z, own_Z, own_Z, own_Z, own_Z, own_Z, own_Z, own_Z, own_Z, own_Z, own_Z, own_Z, own_Z] own_Z := V1
  have O := O.wr W20 g_b1
  have Z0 : n0 ≤ h20.size := Nat.le_trans Z0 (Nat.le_of_eq W20.size.symm)
  have N0 := Fr.snoc X20 N0 g_b1
  refine g_dup X20 hx hby i0_199 rfl ?_
  refine g_bipush X20 hx hby i0_200 (z := (19 : Int32)) (by decide) ?_
  refine g_iload X20 hx hby i0_202 rfl ?_
  refine g_bastore X20 hx hby hZ e20 V1 (i := 19) (by decide) (by decide) (by decide) (Nat.le_of_ble_eq_true rfl) i0_204 fun T21 h21 X21 e21 W21 V1 => ?_
  have V1 : Arv Z h21 b1 k1 .byte (41 : Int32) [own_X, own_X, own_X, own_X, own_X, own_X, own_X, own_X, own_X, own_X, own_X, own_X, own_X, own_X, own_X, own_X, own_X, own_X, own_X, own_X, own_Z, own_Z, own_Z, own_Z, own_Z, own_Z, own_Z, own_Z, own_Z, own_Z, own_Z, own_Z, own_Z, own_Z, own_Z, own_Z, own_Z, own_Z, own_Z, own_Z, own_Z] own_Z := V1
  have O := O.wr W21 g_b1
  have Z0 : n0 ≤ h21.size := Nat.le_trans Z0 (Nat.le_of_eq W21.size.symm)
  have N0 := Fr.snoc X21 N0 g_b1
  refine g_dup X21 hx hby i0_205 rfl ?_
  refine g_bipush X21 hx hby i0_206 (z := (20 : Int32)) (by decide) ?_
  refine g_iload X21 hx hby i0_208 rfl ?_
  refine g_bastore X21 hx hby hZ e21 V1 (i := 20) (by decide) (by decide) (by decide) (Nat.le_of_ble_eq_true rfl) i0_210 fun T22 h22 X22 e22 W22 V1 => ?_
  have V1 : Arv Z h22 b1 k1 .byte (41 : Int32) [own_X, own_X, own_X, own_X, own_X, own_X, own_X, own_X, own_X, own_X, own_X, own_X, own_X, own_X, own_X, own_X, own_X, own_X, own_X, own_X, own_X, own_Z, own_Z, own_Z, own_Z, own_Z, own_Z, own_Z, own_Z, own_Z, own_Z, own_Z, own_Z, own_Z, own_Z, own_Z, own_Z, own_Z, own_Z, own_Z, own_Z] own_Z := V1
  have O := O.wr W22 g_b1
  have Z0 : n0 ≤ h22.size := Nat.le_trans Z0 (Nat.le_of_eq W22.size.symm)
  have N0 := Fr.snoc X22 N0 g_b1
  refine g_dup X22 hx hby i0_211 rfl ?_
  refine g_bipush X22 hx hby i0_212 (z := (21 : Int32)) (by decide) ?_
  refine g_iload X22 hx hby i0_214 rfl ?_
  refine g_bastore X22 hx hby hZ e22 V1 (i := 21) (by decide) (by decide) (by decide) (Nat.le_of_ble_eq_true rfl) i0_216 fun T23 h23 X23 e23 W23 V1 => ?_
  have V1 : Arv Z h23 b1 k1 .byte (41 : Int32) [own_X, own_X, own_X, own_X, own_X, own_X, own_X, own_X, own_X, own_X, own_X, own_X, own_X, own_X, own_X, own_X, own_X, own_X, own_X, own_X, own_X, own_X, own_Z, own_Z, own_Z, own_Z, own_Z, own_Z, own_Z, own_Z, own_Z, own_Z, own_Z, own_Z, own_Z, own_Z, own_Z, own_Z, own_Z, own_Z, own_Z] own_Z := V1
  have O := O.wr W23 g_b1
  have Z0 : n0 ≤ h23.size := Nat.le_trans Z0 (Nat.le_of_eq W23.size.symm)
  have N0 := Fr.snoc X23 N0 g_b1
  refine g_dup X23 hx hby i0_217 rfl ?_
  refine g_bipush X23 hx hby i0_218 (z := (22 : Int32)) (by decide) ?_
  refine g_iload X23 hx hby i0_220 rfl ?_
  refine g_bastore X23 hx hby hZ e23 V1 (i := 22) (by decide) (by decide) (by decide) (Nat.le_of_ble_eq_true rfl) i0_222 fun T24 h24 X24 e24 W24 V1 => ?_
  have V1 : Arv Z h24 b1 k1 .byte (41 : Int32) [own_X, own_X, own_X, own_X, own_X, own_X, own_X, own_X, own_X, own_X, own_X, own_X, own_X, own_X, own_X, own_X, own_X, own_X, own_X, own_X, own_X, own_X, own_X, own_Z, own_Z, own_Z, own_Z, own_Z, own_Z, own_Z, own_Z, own_Z, own_Z, own_Z, own_Z, own_Z, own_Z, own_Z, own_Z, own_Z, own_Z] own_Z := V1
  have O := O.wr W24 g_b1
  have Z0 : n0 ≤ h24.size := Nat.le_trans Z0 (Nat.le_of_eq W24.size.symm)
  have N0 := Fr.snoc X24 N0 g_b1
  refine g_dup X24 hx hby i0_223 rfl ?_
  refine g_bipush X24 hx hby i0_224 (z := (23 : Int32)) (by decide) ?_
  refine g_iload X24 hx hby i0_226 rfl ?_
  refine g_bastore X24 hx hby hZ e24 V1 (i := 23) (by decide) (by decide) (by decide) (Nat.le_of_ble_eq_true rfl) i0_228 fun T25 h25 X25 e25 W25 V1 => ?_
  have V1 : Arv Z h25 b1 k1 .byte (41 : Int32) [own_X, own_X, own_X, own_X, own_X, own_X, own_X, own_X, own_X, own_X, own_X, own_X, own_X, own_X, own_X, own_X, own_X, own_X, own_X, own_X, own_X, own_X, own_X, own_X, own_Z, own_Z, own_Z, own_Z, own_Z, own_Z, own_Z, own_Z, own_Z, own_Z, own_Z, own_Z, own_Z, own_Z, own_Z, own_Z, own_Z] own_Z := V1
  have O := O.wr W25 g_b1
  have Z0 : n0 ≤ h25.size := Nat.le_trans Z0 (Nat.le_of_eq W25.size.symm)
  have N0 := Fr.snoc X25 N0 g_b1
  refine g_dup X25 hx hby i0_229 rfl ?_
  refine g_bipush X25 hx hby i0_230 (z := (24 : Int32)) (by decide) ?_
  refine g_iload X25 hx hby i0_232 rfl ?_
  refine g_bastore X25 hx hby hZ e25 V1 (i := 24) (by decide) (by decide) (by decide) (Nat.le_of_ble_eq_true rfl) i0_234 fun T26 h26 X26 e26 W26 V1 => ?_
  have V1 : Arv Z h26 b1 k1 .byte (41 : Int32) [own_X, own_X, own_X, own_X, own_X, own_X, own_X, own_X, own_X, own_X, own_X, own_X, own_X, own_X, own_X, own_X, own_X, own_X, own_X, own_X, own_X, own_X, own_X, own_X, own_X, own_Z, own_Z, own_Z, own_Z, own_Z, own_Z, own_Z, own_Z, own_Z, own_Z, own_Z, own_Z, own_Z, own_Z, own_Z, own_Z] own_Z := V1
  have O := O.wr W26 g_b1
  have Z0 : n0 ≤ h26.size := Nat.le_trans Z0 (Nat.le_of_eq W26.size.symm)
  have N0 := Fr.snoc X26 N0 g_b1
  refine g_dup X26 hx hby i0_235 rfl ?_
  refine g_bipush X26 hx hby i0_236 (z := (25 : Int32)) (by decide) ?_
  refine g_iload X26 hx hby i0_238 rfl ?_
  refine g_bastore X26 hx hby hZ e26 V1 (i := 25) (by decide) (by decide) (by decide) (Nat.le_of_ble_eq_true rfl) i0_240 fun T27 h27 X27 e27 W27 V1 => ?_
  have V1 : Arv Z h27 b1 k1 .byte (41 : Int32) [own_X, own_X, own_X, own_X, own_X, own_X, own_X, own_X, own_X, own_X, own_X, own_X, own_X, own_X, own_X, own_X, own_X, own_X, own_X, own_X, own_X, own_X, own_X, own_X, own_X, own_X, own_Z, own_Z, own_Z, own_Z, own_Z, own_Z, own_Z, own_Z, own_Z, own_Z, own_Z, own_Z, own_Z, own_Z, own_Z] own_Z := V1
  have O := O.wr W27 g_b1
  have Z0 : n0 ≤ h27.size := Nat.le_trans Z0 (Nat.le_of_eq W27.size.symm)
  have N0 := Fr.snoc X27 N0 g_b1
  refine g_dup X27 hx hby i0_241 rfl ?_
  refine g_bipush X27 hx hby i0_242 (z := (26 : Int32)) (by decide) ?_
  refine g_iload X27 hx hby i0_244 rfl ?_
  refine g_bastore X27 hx hby hZ e27 V1 (i := 26) (by decide) (by decide) (by decide) (Nat.le_of_ble_eq_true rfl) i0_246 fun T28 h28 X28 e28 W28 V1 => ?_
  have V1 : Arv Z h28 b1 k1 .byte (41 : Int32) [own_X, own_X, own_X, own_X, own_X, own_X, own_X, own_X, own_X, own_X, own_X, own_X, own_X, own_X, own_X, own_X, own_X, own_X, own_X, own_X, own_X, own_X, own_X, own_X, own_X, own_X, own_X, own_Z, own_Z, own_Z, own_Z, own_Z, own_Z, own_Z, own_Z, own_Z, own_Z, own_Z, own_Z, own_Z, own_Z] own_Z := V1
  have O := O.wr W28 g_b1
  have Z0 : n0 ≤ h28.size := Nat.le_trans Z0 (Nat.le_of_eq W28.size.symm)
  have N0 := Fr.snoc X28 N0 g_b1
  refine g_dup X28 hx hby i0_247 rfl ?_
  refine g_bipush X28 hx hby i0_248 (z := (27 : Int32)) (by decide) ?_
  refine g_iload X28 hx hby i0_250 rfl ?_
  refine g_bastore X28 hx hby hZ e28 V1 (i := 27) (by decide) (by decide) (by decide) (Nat.le_of_ble_eq_true rfl) i0_252 fun T29 h29 X29 e29 W29 V1 => ?_
  have V1 : Arv Z h29 b1 k1 .byte (41 : Int32) [own_X, own_X, own_X, own_X, own_X, own_X, own_X, own_X, own_X, own_X, own_X, own_X, own_X, own_X, own_X, own_X, own_X, own_X, own_X, own_X, own_X, own_X, own_X, own_X, own_X, own_X, own_X, own_X, own_Z, own_Z, own_Z, own_Z, own_Z, own_Z, own_Z, own_Z, own_Z, own_Z, own_Z, own_Z, own_Z] own_Z := V1
  have O := O.wr W29 g_b1
  have Z0 : n0 ≤ h29.size := Nat.le_trans Z0 (Nat.le_of_eq W29.size.symm)
  have N0 := Fr.snoc X29 N0 g_b1
  refine g_dup X29 hx hby i0_253 rfl ?_
  refine g_bipush X29 hx hby i0_254 (z := (28 : Int32)) (by decide) ?_
  refine g_iload X29 hx hby i0_256 rfl ?_
  refine g_bastore X29 hx hby hZ e29 V1 (i := 28) (by decide) (by decide) (by decide) (Nat.le_of_ble_eq_true rfl) i0_258 fun T30 h30 X30 e30 W30 V1 => ?_
  have V1 : Arv Z h30 b1 k1 .byte (41 : Int32) [own_X, own_X, own_X, own_X, own_X, own_X, own_X, own_X, own_X, own_X, own_X, own_X, own_X, own_X, own_X, own_X, own_X, own_X, own_X, own_X, own_X, own_X, own_X, own_X, own_X, own_X, own_X, own_X, own_X, own_Z, own_Z, own_Z, own_Z, own_Z, own_Z, own_Z, own_Z, own_Z, own_Z, own_Z, own_Z] own_Z := V1
  have O := O.wr W30 g_b1
  have Z0 : n0 ≤ h30.size := Nat.le_trans Z0 (Nat.le_of_eq W30.size.symm)
  have N0 := Fr.snoc X30 N0 g_b1
  refine g_dup X30 hx hby i0_259 rfl ?_
  refine g_bipush X30 hx hby i0_260 (z := (29 : Int32)) (by decide) ?_
  refine g_iload X30 hx hby i0_262 rfl ?_
  refine g_bastore X30 hx hby hZ e30 V1 (i := 29) (by decide) (by decide) (by decide) (Nat.le_of_ble_eq_true rfl) i0_264 fun T31 h31 X31 e31 W31 V1 => ?_
  have V1 : Arv Z h31 b1 k1 .byte (41 : Int32) [own_X, own_X, own_X, own_X, own_X, own_X, own_X, own_X, own_X, own_X, own_X, own_X, own_X, own_X, own_X, own_X, own_X, own_X, own_X, own_X, own_X, own_X, own_X, own_X, own_X, own_X, own_X, own_X, own_X, own_X, own_Z, own_Z, own_Z, own_Z, own_Z, own_Z, own_Z, own_Z, own_Z, own_Z, own_Z] own_Z := V1
  have O := O.wr W31 g_b1
  have Z0 : n0 ≤ h31.size := Nat.le_trans Z0 (Nat.le_of_eq W31.size.symm)
  have N0 := Fr.snoc X31 N0 g_b1
  refine g_dup X31 hx hby i0_265 rfl ?_
  refine g_bipush X31 hx hby i0_266 (z := (30 : Int32)) (by decide) ?_
  refine g_iload X31 hx hby i0_268 rfl ?_
  refine g_bastore X31 hx hby hZ e31 V1 (i := 30) (by decide) (by decide) (by decide) (Nat.le_of_ble_eq_true rfl) i0_270 fun T32 h32 X32 e32 W32 V1 => ?_
  have V1 : Arv Z h32 b1 k1 .byte (41 : Int32) [own_X, own_X, own_X, own_X, own_X, own_X, own_X, own_X, own_X, own_X, own_X, own_X, own_X, own_X, own_X, own_X, own_X, own_X, own_X, own_X, own_X, own_X, own_X, own_X, own_X, own_X, own_X, own_X, own_X, own_X, own_X, own_Z, own_Z, own_Z, own_Z, own_Z, own_Z, own_Z, own_Z, own_Z, own_Z] own_Z := V1
  have O := O.wr W32 g_b1
  have Z0 : n0 ≤ h32.size := Nat.le_trans Z0 (Nat.le_of_eq W32.size.symm)
  have N0 := Fr.snoc X32 N0 g_b1
  refine g_dup X32 hx hby i0_271 rfl ?_
  refine g_bipush X32 hx hby i0_272 (z := (31 : Int32)) (by decide) ?_
  refine g_iload X32 hx hby i0_274 rfl ?_
  refine g_bastore X32 hx hby hZ e32 V1 (i := 31) (by decide) (by decide) (by decide) (Nat.le_of_ble_eq_true rfl) i0_276 fun T33 h33 X33 e33 W33 V1 => ?_
  have V1 : Arv Z h33 b1 k1 .byte (41 : Int32) [own_X, own_X, own_X, own_X, own_X, own_X, own_X, own_X, own_X, own_X, own_X, own_X, own_X, own_X, own_X, own_X, own_X, own_X, own_X, own_X, own_X, own_X, own_X, own_X, own_X, own_X, own_X, own_X, own_X, own_X, own_X, own_X, own_Z, own_Z, own_Z, own_Z, own_Z, own_Z, own_Z, own_Z, own_Z] own_Z := V1
  have O := O.wr W33 g_b1
  have Z0 : n0 ≤ h33.size := Nat.le_trans Z0 (Nat.le_of_eq W33.size.symm)
  have N0 := Fr.snoc X33 N0 g_b1
  refine g_dup X33 hx hby i0_277 rfl ?_
  refine g_bipush X33 hx hby i0_278 (z := (32 : Int32)) (by decide) ?_
  refine g_iload X33 hx hby i0_280 rfl ?_
  refine g_bastore X33 hx hby hZ e33 V1 (i := 32) (by decide) (by decide) (by decide) (Nat.le_of_ble_eq_true rfl) i0_282 fun T34 h34 X34 e34 W34 V1 => ?_
  have V1 : Arv Z h34 b1 k1 .byte (41 : Int32) [own_X, own_X, own_X, own_X, own_X, own_X, own_X, own_X, own_X, own_X, own_X, own_X, own_X, own_X, own_X, own_X, own_X, own_X, own_X, own_X, own_X, own_X, own_X, own_X, own_X, own_X, own_X, own_X, own_X, own_X, own_X, own_X, own_X, own_Z, own_Z, own_Z, own_Z, own_Z, own_Z, own_Z, own_Z] own_Z := V1
  have O := O.wr W34 g_b1
  have Z0 : n0 ≤ h34.size := Nat.le_trans Z0 (Nat.le_of_eq W34.size.symm)
  have N0 := Fr.snoc X34 N0 g_b1
  refine g_dup X34 hx hby i0_283 rfl ?_
  refine g_bipush X34 hx hby i0_284 (z := (33 : Int32)) (by decide) ?_
  refine g_iload X34 hx hby i0_286 rfl ?_
  refine g_bastore X34 hx hby hZ e34 V1 (i := 33) (by decide) (by decide) (by decide) (Nat.le_of_ble_eq_true rfl) i0_288 fun T35 h35 X35 e35 W35 V1 => ?_
  have V1 : Arv Z h35 b1 k1 .byte (41 : Int32) [own_X, own_X, own_X, own_X, own_X, own_X, own_X, own_X, own_X, own_X, own_X, own_X, own_X, own_X, own_X, own_X, own_X, own_X, own_X, own_X, own_X, own_X, own_X, own_X, own_X, own_X, own_X, own_X, own_X, own_X, own_X, own_X, own_X, own_X, own_Z, own_Z, own_Z, own_Z, own_Z, own_Z, own_Z] own_Z := V1
  have O := O.wr W35 g_b1
  have Z0 : n0 ≤ h35.size := Nat.le_trans Z0 (Nat.le_of_eq W35.size.symm)
  have N0 := Fr.snoc X35 N0 g_b1
  refine g_dup X35 hx hby i0_289 rfl ?_
  refine g_bipush X35 hx hby i0_290 (z := (34 : Int32)) (by decide) ?_
  refine g_iload X35 hx hby i0_292 rfl ?_
  refine g_bastore X35 hx hby hZ e35 V1 (i := 34) (by decide) (by decide) (by decide) (Nat.le_of_ble_eq_true rfl) i0_294 fun T36 h36 X36 e36 W36 V1 => ?_
  have V1 : Arv Z h36 b1 k1 .byte (41 : Int32) [own_X, own_X, own_X, own_X, own_X, own_X, own_X, own_X, own_X, own_X, own_X, own_X, own_X, own_X, own_X, own_X, own_X, own_X, own_X, own_X, own_X, own_X, own_X, own_X, own_X, own_X, own_X, own_X, own_X, own_X, own_X, own_X, own_X, own_X, own_X, own_Z, own_Z, own_Z, own_Z, own_Z, own_Z] own_Z := V1
  have O := O.wr W36 g_b1
  have Z0 : n0 ≤ h36.size := Nat.le_trans Z0 (Nat.le_of_eq W36.size.symm)
  have N0 := Fr.snoc X36 N0 g_b1
  refine g_dup X36 hx hby i0_295 rfl ?_
  refine g_bipush X36 hx hby i0_296 (z := (35 : Int32)) (by decide) ?_
  refine g_iload X36 hx hby i0_298 rfl ?_
  refine g_bastore X36 hx hby hZ e36 V1 (i := 35) (by decide) (by decide) (by decide) (Nat.le_of_ble_eq_true rfl) i0_300 fun T37 h37 X37 e37 W37 V1 => ?_
  have V1 : Arv Z h37 b1 k1 .byte (41 : Int32) [own_X, own_X, own_X, own_X, own_X, own_X, own_X, own_X, own_X, own_X, own_X, own_X, own_X, own_X, own_X, own_X, own_X, own_X, own_X, own_X, own_X, own_X, own_X, own_X, own_X, own_X, own_X, own_X, own_X, own_X, own_X, own_X, own_X, own_X, own_X, own_X, own_Z, own_Z, own_Z, own_Z, own_Z] own_Z := V1
  have O := O.wr W37 g_b1
  have Z0 : n0 ≤ h37.size := Nat.le_trans Z0 (Nat.le_of_eq W37.size.symm)
  have N0 := Fr.snoc X37 N0 g_b1
  refine g_dup X37 hx hby i0_301 rfl ?_
  refine g_bipush X37 hx hby i0_302 (z := (36 : Int32)) (by decide) ?_
  refine g_iload X37 hx hby i0_304 rfl ?_
  refine g_bastore X37 hx hby hZ e37 V1 (i := 36) (by decide) (by decide) (by decide) (Nat.le_of_ble_eq_true rfl) i0_306 fun T38 h38 X38 e38 W38 V1 => ?_
  have V1 : Arv Z h38 b1 k1 .byte (41 : Int32) [own_X, own_X, own_X, own_X, own_X, own_X, own_X, own_X, own_X, own_X, own_X, own_X, own_X, own_X, own_X, own_X, own_X, own_X, own_X, own_X, own_X, own_X, own_X, own_X, own_X, own_X, own_X, own_X, own_X, own_X, own_X, own_X, own_X, own_X, own_X, own_X, own_X, own_Z, own_Z, own_Z, own_Z] own_Z := V1
  have O := O.wr W38 g_b1
  have Z0 : n0 ≤ h38.size := Nat.le_trans Z0 (Nat.le_of_eq W38.size.symm)
  have N0 := Fr.snoc X38 N0 g_b1
  refine g_dup X38 hx hby i0_307 rfl ?_
  refine g_bipush X38 hx hby i0_308 (z := (37 : Int32)) (by decide) ?_
  refine g_iload X38 hx hby i0_310 rfl ?_
  refine g_bastore X38 hx hby hZ e38 V1 (i := 37) (by decide) (by decide) (by decide) (Nat.le_of_ble_eq_true rfl) i0_312 fun T39 h39 X39 e39 W39 V1 => ?_
  have V1 : Arv Z h39 b1 k1 .byte (41 : Int32) [own_X, own_X, own_X, own_X, own_X, own_X, own_X, own_X, own_X, own_X, own_X, own_X, own_X, own_X, own_X, own_X, own_X, own_X, own_X, own_X, own_X, own_X, own_X, own_X, own_X, own_X, own_X, own_X, own_X, own_X, own_X, own_X, own_X, own_X, own_X, own_X, own_X, own_X, own_Z, own_Z, own_Z] own_Z := V1
  have O := O.wr W39 g_b1
  have Z0 : n0 ≤ h39.size := Nat.le_trans Z0 (Nat.le_of_eq W39.size.symm)
  have N0 := Fr.snoc X39 N0 g_b1
  refine g_dup X39 hx hby i0_313 rfl ?_
  refine g_bipush X39 hx hby i0_314 (z := (38 : Int32)) (by decide) ?_
  refine g_iload X39 hx hby i0_316 rfl ?_
  refine g_bastore X39 hx hby hZ e39 V1 (i := 38) (by decide) (by decide) (by decide) (Nat.le_of_ble_eq_true rfl) i0_318 fun T40 h40 X40 e40 W40 V1 => ?_
  have V1 : Arv Z h40 b1 k1 .byte (41 : Int32) [own_X, own_X, own_X, own_X, own_X, own_X, own_X, own_X, own_X, own_X, own_X, own_X, own_X, own_X, own_X, own_X, own_X, own_X, own_X, own_X, own_X, own_X, own_X, own_X, own_X, own_X, own_X, own_X, own_X, own_X, own_X, own_X, own_X, own_X, own_X, own_X, own_X, own_X, own_X, own_Z, own_Z] own_Z := V1
  have O := O.wr W40 g_b1
  have Z0 : n0 ≤ h40.size := Nat.le_trans Z0 (Nat.le_of_eq W40.size.symm)
  have N0 := Fr.snoc X40 N0 g_b1
  refine g_dup X40 hx hby i0_319 rfl ?_
  refine g_bipush X40 hx hby i0_320 (z := (39 : Int32)) (by decide) ?_
  refine g_iload X40 hx hby i0_322 rfl ?_
  refine g_bastore X40 hx hby hZ e40 V1 (i := 39) (by decide) (by decide) (by decide) (Nat.le_of_ble_eq_true rfl) i0_324 fun T41 h41 X41 e41 W41 V1 => ?_
  have V1 : Arv Z h41 b1 k1 .byte (41 : Int32) [own_X, own_X, own_X, own_X, own_X, own_X, own_X, own_X, own_X, own_X, own_X, own_X, own_X, own_X, own_X, own_X, own_X, own_X, own_X, own_X, own_X, own_X, own_X, own_X, own_X, own_X, own_X, own_X, own_X, own_X, own_X, own_X, own_X, own_X, own_X, own_X, own_X, own_X, own_X, own_X, own_Z] own_Z := V1
  have O := O.wr W41 g_b1
  have Z0 : n0 ≤ h41.size := Nat.le_trans Z0 (Nat.le_of_eq W41.size.symm)
  have N0 := Fr.snoc X41 N0 g_b1
  refine g_dup X41 hx hby i0_325 rfl ?_
  refine g_bipush X41 hx hby i0_326 (z := (40 : Int32)) (by decide) ?_
  refine g_iload X41 hx hby i0_328 rfl ?_
  refine g_bastore X41 hx hby hZ e41 V1 (i := 40) (by decide) (by decide) (by decide) (Nat.le_of_ble_eq_true rfl) i0_330 fun T42 h42 X42 e42 W42 V1 => ?_
  have V1 : Arv Z h42 b1 k1 .byte (41 : Int32) [own_X, own_X, own_X, own_X, own_X, own_X, own_X, own_X, own_X, own_X, own_X, own_X, own_X, own_X, own_X, own_X, own_X, own_X, own_X, own_X, own_X, own_X, own_X, own_X, own_X, own_X, own_X, own_X, own_X, own_X, own_X, own_X, own_X, own_X, own_X, own_X, own_X, own_X, own_X, own_X, own_X] own_Z := V1
  have O := O.wr W42 g_b1
  have Z0 : n0 ≤ h42.size := Nat.le_trans Z0 (Nat.le_of_eq W42.size.symm)
  have N0 := Fr.snoc X42 N0 g_b1
  refine g_astore X42 hx hby i0_331 rfl (l' := #[.val (.int p0), .val (.int p1), .val (.int p2), .val (.int p3), .val (.int p4), .val (.int p5), .val (.int (own_i D_)), .val (.int (own_i N_)), .val (.int (own_i K_)), .val (.int (own_i M_)), .val (.int (own_i G_)), .val (.int x11), .val (.int x12), .val (.int (-97 : Int32)), .val (.ref b1), .unset, .unset, .unset, .unset, .unset, .unset, .unset, .unset, .unset, .unset, .unset, .unset, .unset]) rfl ?_
  refine g_aload X42 hx hby i0_333 rfl rfl ?_
  refine g_bipush X42 hx hby i0_335 (z := (17 : Int32)) (by decide) ?_
  refine g_bipush X42 hx hby i0_337 (z := (64 : Int32)) (by decide) ?_
  refine g_iload X42 hx hby i0_339 rfl ?_
  refine g_ior X42 hx hby i0_341 ?_
  refine g_i2b X42 hx hby i0_342 ?_
  rw [(own_or hN).1]
  refine g_bastore X42 hx hby hZ e42 V1 (i := 17) (by decide) (by decide) (by decide) (Nat.le_of_ble_eq_true rfl) i0_343 fun T43 h43 X43 e43 W43 V1 => ?_
  have V1 : Arv Z h43 b1 k1 .byte (41 : Int32) [own_X, own_X, own_X, own_X, own_X, own_X, own_X, own_X, own_X, own_X, own_X, own_X, own_X, own_X, own_X, own_X, own_X, (.int (nar .byte (own_i (64 + N_)))), own_X, own_X, own_X, own_X, own_X, own_X, own_X, own_X, own_X, own_X, own_X, own_X, own_X, own_X, own_X, own_X, own_X, own_X, own_X, own_X, own_X, own_X, own_X] own_Z := V1
  have O := O.wr W43 g_b1
  have Z0 : n0 ≤ h43.size := Nat.le_trans Z0 (Nat.le_of_eq W43.size.symm)
  have N0 := Fr.snoc X43 N0 g_b1
  refine g_bipush X43 hx hby i0_344 (z := (40 : Int32)) (by decide) ?_
  refine g_newarray X43 hx hby hZ (ty := .byte) rfl (wd_ hw 1 rfl) e43 i0_346 (by decide) 40 (by decide) (by decide) (by decide) (by decide) fun T44 h44 b44 k44 X44 e44 E44 hb44 V44 => ?_
  have ne_b1_b44 : b1 ≠ b44 := Nat.ne_of_lt (Nat.lt_of_lt_of_le V1.lt (Nat.le_of_eq hb44.symm))
  have g_b44 : n0 ≤ b44 := Nat.le_trans Z0 (Nat.le_of_eq hb44.symm)
  have V1 := V1.ext E44
  have O := O.ext E44
  have Z0 : n0 ≤ h44.size := Nat.le_trans Z0 E44.1
  have V44 : Arv Z h44 b44 k44 .byte (40 : Int32) [own_Z, own_Z, own_Z, own_Z, own_Z, own_Z, own_Z, own_Z, own_Z, own_Z, own_Z, own_Z, own_Z, own_Z, own_Z, own_Z, own_Z, own_Z, own_Z, own_Z, own_Z, own_Z, own_Z, own_Z, own_Z, own_Z, own_Z, own_Z, own_Z, own_Z, own_Z, own_Z, own_Z, own_Z, own_Z, own_Z, own_Z, own_Z, own_Z, own_Z] own_Z := V44.pad (pad_rep [] _ 40)
  refine g_astore X44 hx hby i0_348 rfl (l' := #[.val (.int p0), .val (.int p1), .val (.int p2), .val (.int p3), .val (.int p4), .val (.int p5), .val (.int (own_i D_)), .val (.int (own_i N_)), .val (.int (own_i K_)), .val (.int (own_i M_)), .val (.int (own_i G_)), .val (.int x11), .val (.int x12), .val (.int (-97 : Int32)), .val (.ref b1), .val (.ref b44), .unset, .unset, .unset, .unset, .unset, .unset, .unset, .unset, .unset, .unset, .unset, .unset]) rfl ?_
  refine g_new X44 hx hby hZ hown (wd_ hw 2 rfl) (wd_ hw 3 rfl) (wd_ hw 4 rfl) e44 i0_350 (by decide) (by decide) fun T45 h45 b45 X45 e45 E45 hb45 A45 D45 => ?_
  have ne_b1_b45 : b1 ≠ b45 := Nat.ne_of_lt (Nat.lt_of_lt_of_le V1.lt (Nat.le_of_eq hb45.symm))
  have ne_b44_b45 : b44 ≠ b45 := Nat.ne_of_lt (Nat.lt_of_lt_of_le V44.lt (Nat.le_of_eq hb45.symm))
  have g_b45 : n0 ≤ b45 := Nat.le_trans Z0 (Nat.le_of_eq hb45.symm)
  have V1 := V1.ext E45
  have V44 := V44.ext E45
  have O := O.ext E45
  have Z0 : n0 ≤ h45.size := Nat.le_trans Z0 E45.1
  have F45_buffer : Fld Z h45 b45 "com/example/ariel/ariel/cbor/CborSequence" "buffer" "[B" .null := D45 (Or.inl (wd_ hw 21 rfl)) (ty := (.array .byte)) (by decide)
  have F45_own : Fld Z h45 b45 "com/example/ariel/ariel/cbor/CborSequence" "own" "[B" .null := D45 (Or.inl (wd_ hw 23 rfl)) (ty := (.array .byte)) (by decide)
  have F45_owed : Fld Z h45 b45 "com/example/ariel/ariel/cbor/CborSequence" "owed" "[J" .null := D45 (Or.inl (wd_ hw 26 rfl)) (ty := (.array .long)) (by decide)
  have F45_untilBreak : Fld Z h45 b45 "com/example/ariel/ariel/cbor/CborSequence" "untilBreak" "[I" .null := D45 (Or.inl (wd_ hw 29 rfl)) (ty := (.array .int)) (by decide)
  have F45_chunkedLengths : Fld Z h45 b45 "com/example/ariel/ariel/cbor/CborSequence" "chunkedLengths" "[J" .null := D45 (Or.inl (wd_ hw 33 rfl)) (ty := (.array .long)) (by decide)
  have F45_cuts : Fld Z h45 b45 "com/example/ariel/ariel/cbor/CborSequence" "cuts" "[I" .null := D45 (Or.inl (wd_ hw 37 rfl)) (ty := (.array .int)) (by decide)
  have F45_maxItemLength : Fld Z h45 b45 "com/example/ariel/ariel/cbor/CborSequence" "maxItemLength" "I" (.int (0 : Int32)) := D45 (Or.inr (wd_ hw 43 rfl)) (ty := .int) (by decide)
  have F45_maxItems : Fld Z h45 b45 "com/example/ariel/ariel/cbor/CborSequence" "maxItems" "I" (.int (0 : Int32)) := D45 (Or.inr (wd_ hw 45 rfl)) (ty := .int) (by decide)
  have F45_abridged : Fld Z h45 b45 "com/example/ariel/ariel/cbor/CborSequence" "abridged" "Z" (.int (0 : Int32)) := D45 (Or.inr (wd_ hw 47 rfl)) (ty := .boolean) (by decide)
  have F45_end : Fld Z h45 b45 "com/example/ariel/ariel/cbor/CborSequence" "end" "I" (.int (0 : Int32)) := D45 (Or.inl (wd_ hw 54 rfl)) (ty := .int) (by decide)
  have F45_start : Fld Z h45 b45 "com/example/ariel/ariel/cbor/CborSequence" "start" "I" (.int (0 : Int32)) := D45 (Or.inl (wd_ hw 56 rfl)) (ty := .int) (by decide)
  have F45_pieceLeft : Fld Z h45 b45 "com/example/ariel/ariel/cbor/CborSequence" "pieceLeft" "J" (.long (0 : Int64)) := D45 (Or.inl (wd_ hw 68 rfl)) (ty := .long) (by decide)
  have F45_inChunks : Fld Z h45 b45 "com/example/ariel/ariel/cbor/CborSequence" "inChunks" "Z" (.int (0 : Int32)) := D45 (Or.inl (wd_ hw 70 rfl)) (ty := .boolean) (by decide)
  have F45_scanned : Fld Z h45 b45 "com/example/ariel/ariel/cbor/CborSequence" "scanned" "I" (.int (0 : Int32)) := D45 (Or.inl (wd_ hw 80 rfl)) (ty := .int) (by decide)
  have F45_dropped : Fld Z h45 b45 "com/example/ariel/ariel/cbor/CborSequence" "dropped" "I" (.int (0 : Int32)) := D45 (Or.inl (wd_ hw 82 rfl)) (ty := .int) (by decide)
  have F45_stringLeft : Fld Z h45 b45 "com/example/ariel/ariel/cbor/CborSequence" "stringLeft" "J" (.long (0 : Int64)) := D45 (Or.inl (wd_ hw 88 rfl)) (ty := .long) (by decide)
  have F45_depth : Fld Z h45 b45 "com/example/ariel/ariel/cbor/CborSequence" "depth" "I" (.int (0 : Int32)) := D45 (Or.inl (wd_ hw 90 rfl)) (ty := .int) (by decide)
  have F45_stringKept : Fld Z h45 b45 "com/example/ariel/ariel/cbor/CborSequence" "stringKept" "I" (.int (0 : Int32)) := D45 (Or.inl (wd_ hw 95 rfl)) (ty := .int) (by decide)
  have F45_chunksLength : Fld Z h45 b45 "com/example/ariel/ariel/cbor/CborSequence" "chunksLength" "J" (.long (0 : Int64)) := D45 (Or.inl (wd_ hw 97 rfl)) (ty := .long) (by decide)
  have F45_keepLeft : Fld Z h45 b45 "com/example/ariel/ariel/cbor/CborSequence" "keepLeft" "J" (.long (0 : Int64)) := D45 (Or.inl (wd_ hw 106 rfl)) (ty := .long) (by decide)
  have F45_cutCount : Fld Z h45 b45 "com/example/ariel/ariel/cbor/CborSequence" "cutCount" "I" (.int (0 : Int32)) := D45 (Or.inl (wd_ hw 112 rfl)) (ty := .int) (by decide)
  have F45_chunkedCount : Fld Z h45 b45 "com/example/ariel/ariel/cbor/CborSequence" "chunkedCount" "I" (.int (0 : Int32)) := D45 (Or.inl (wd_ hw 215 rfl)) (ty := .int) (by decide)
  have Qs : own_seq Z h45 b45 [.null, .null, (.int (0 : Int32)), (.int (0 : Int32)), (.int (0 : Int32)), .null, .null, (.int (0 : Int32)), (.long (0 : Int64)), (.long (0 : Int64)), (.int (0 : Int32)), (.long (0 : Int64)), .null, (.int (0 : Int32)), .null, (.int (0 : Int32)), (.int (0 : Int32)), (.long (0 : Int64)), (.int (0 : Int32)), (.int (0 : Int32)), (.int (0 : Int32)), (.int (0 : Int32))] := ⟨A45, rfl, fun i hi => match i, hi with | 0, _ => F45_buffer | 1, _ => F45_own | 2, _ => F45_start | 3, _ => F45_end | 4, _ => F45_scanned | 5, _ => F45_owed | 6, _ => F45_untilBreak | 7, _ => F45_depth | 8, _ => F45_stringLeft | 9, _ => F45_keepLeft | 10, _ => F45_stringKept | 11, _ => F45_chunksLength | 12, _ => F45_chunkedLengths | 13, _ => F45_chunkedCount | 14, _ => F45_cuts | 15, _ => F45_cutCount | 16, _ => F45_dropped | 17, _ => F45_pieceLeft | 18, _ => F45_inChunks | 19, _ => F45_maxItemLength | 20, _ => F45_maxItems | 21, _ => F45_abridged | _ + 22, q => absurd q (by omega)⟩
  refine g_dup X45 hx hby i0_353 rfl ?_
  refine g_iload X45 hx hby i0_354 rfl ?_
  refine g_bipush X45 hx hby i0_356 (z := (41 : Int32)) (by decide) ?_
  refine g_callS0 X45 hx hby hZ (y := (⟨"java/lang/Math", "max", "(II)I"⟩ : MethodName)) (argsL := [(.int p4), (.int (41 : Int32))]) (rest := [(.ref b45), (.ref b45)]) hown (wd_ hw 5 rfl) (wd_ hw 6 rfl) (wd_ hw 7 rfl) (wd_ hw 8 rfl) (by decide) (rm1 l Z a0 hw [] p4 (41 : Int32) h45 n0 Z0) e45 (by rw [hml]; rfl) pd_4 rfl rfl i0_358 (by decide) 2 rfl (by decide) (by decide) (by decide) fun T46 v46 L46 X46 q46 => ?_
  obtain ⟨_, rfl, r46, rfl, hr46, e46, N46⟩ := q46
  have N0 := Fr.app N0 N46
  show Gd p e below _ T46 (mkF m 361 #[.val (.int p0), .val (.int p1), .val (.int p2), .val (.int p3), .val (.int p4), .val (.int p5), .val (.int (own_i D_)), .val (.int (own_i N_)), .val (.int (own_i K_)), .val (.int (own_i M_)), .val (.int (own_i G_)), .val (.int x11), .val (.int x12), .val (.int (-97 : Int32)), .val (.ref b1), .val (.ref b44), .unset, .unset, .unset, .unset, .unset, .unset, .unset, .unset, .unset, .unset, .unset, .unset] [(.int r46), (.ref b45), (.ref b45)])
  refine g_iload X46 hx hby i0_361 rfl ?_
  refine g_iconst X46 hx hby i0_363 (z := (1 : Int32)) (by decide) ?_
  refine g_callS0 X46 hx hby hZ (y := (⟨"java/lang/Math", "max", "(II)I"⟩ : MethodName)) (argsL := [(.int p5), (.int (1 : Int32))]) (rest := [(.int r46), (.ref b45), (.ref b45)]) hown (wd_ hw 5 rfl) (wd_ hw 6 rfl) (wd_ hw 7 rfl) (wd_ hw 8 rfl) (by decide) (rm1 l Z a0 hw [] p5 (1 : Int32) h45 n0 Z0) e46 (by rw [hml]; rfl) pd_4 rfl rfl i0_364 (by decide) 3 rfl (by decide) (by decide) (by decide) fun T47 v47 L47 X47 q47 => ?_
  obtain ⟨_, rfl, r47, rfl, hr47, e47, N47⟩ := q47
  have N0 := Fr.app N0 N47
  show Gd p e below _ T47 (mkF m 367 #[.val (.int p0), .val (.int p1), .val (.int p2), .val (.int p3), .val (.int p4), .val (.int p5), .val (.int (own_i D_)), .val (.int (own_i N_)), .val (.int (own_i K_)), .val (.int (own_i M_)), .val (.int (own_i G_)), .val (.int x11), .val (.int x12), .val (.int (-97 : Int32)), .val (.ref b1), .val (.ref b44), .unset, .unset, .unset, .unset, .unset, .unset, .unset, .unset, .unset, .unset, .unset, .unset] [(.int r47), (.int r46), (.ref b45), (.ref b45)])
  refine g_callInit0 X47 hx hby hZ (y := (⟨"com/example/ariel/ariel/cbor/CborSequence", "<init>", "(II)V"⟩ : MethodName)) (argsL := [(.int r46), (.int r47)]) (rest := [(.ref b45)]) rfl hown (wd_ hw 9 rfl) (wd_ hw 10 rfl) (wd_ hw 4 rfl) (wd_ hw 11 rfl) (by decide) (a := b45) (rm2 l Z a0 hw [] b45 r46 r47 no_ nl nc h45 n0 Z0 SA_ SB_ SC_ O Qs g_b45 (own_41to1 (own_mxge hr46)) (own_mxge hr47) ) e47 (by rw [hml]; rfl) pd_16 rfl rfl i0_367 (by decide) 1 rfl (by decide) (by decide) (by decide) fun T48 v48 L48 X48 q48 => ?_
  obtain ⟨rfl, ⟨od48, ub48, kq48, ku48, vq48, vu48, K48, Q48, Vq48, Vu48, g_od48, g_ub48, so48, su48, hqu48⟩, N48⟩ := q48
  have N0 := Fr.app N0 N48
  have ne_b1_od48 : b1 ≠ od48 := Nat.ne_of_lt (Nat.lt_of_lt_of_le V1.lt so48)
  have ne_b44_od48 : b44 ≠ od48 := Nat.ne_of_lt (Nat.lt_of_lt_of_le V44.lt so48)
  have ne_b45_od48 : b45 ≠ od48 := Nat.ne_of_lt (Nat.lt_of_lt_of_le Qs.lt so48)
  have ne_b1_ub48 : b1 ≠ ub48 := Nat.ne_of_lt (Nat.lt_of_lt_of_le V1.lt su48)
  have ne_b44_ub48 : b44 ≠ ub48 := Nat.ne_of_lt (Nat.lt_of_lt_of_le V44.lt su48)
  have ne_b45_ub48 : b45 ≠ ub48 := Nat.ne_of_lt (Nat.lt_of_lt_of_le Qs.lt su48)
  have V1 := V1.keep K48 (ninS ne_b1_b45 nin0)
  have V44 := V44.keep K48 (ninS ne_b44_b45 nin0)
  have O := O.keep K48 (allS g_b45 all0)
  have Z0 : n0 ≤ T48.heap.size := Nat.le_trans Z0 K48.1
  show Gd p e below _ T48 (mkF m 370 #[.val (.int p0), .val (.int p1), .val (.int p2), .val (.int p3), .val (.int p4), .val (.int p5), .val (.int (own_i D_)), .val (.int (own_i N_)), .val (.int (own_i K_)), .val (.int (own_i M_)), .val (.int (own_i G_)), .val (.int x11), .val (.int x12), .val (.int (-97 : Int32)), .val (.ref b1), .val (.ref b44), .unset, .unset, .unset, .unset, .unset, .unset, .unset, .unset, .unset, .unset, .unset, .unset] [(.ref b45)])
  refine g_astore X48 hx hby i0_370 rfl (l' := #[.val (.int p0), .val (.int p1), .val (.int p2), .val (.int p3), .val (.int p4), .val (.int p5), .val (.int (own_i D_)), .val (.int (own_i N_)), .val (.int (own_i K_)), .val (.int (own_i M_)), .val (.int (own_i G_)), .val (.int x11), .val (.int x12), .val (.int (-97 : Int32)), .val (.ref b1), .val (.ref b44), .val (.ref b45), .unset, .unset, .unset, .unset, .unset, .unset, .unset, .unset, .unset, .unset, .unset]) rfl ?_
  refine g_aload X48 hx hby i0_372 rfl rfl ?_
  refine g_aload X48 hx hby i0_374 rfl rfl ?_
  refine g_bipush X48 hx hby i0_376 (z := (17 : Int32)) (by decide) ?_
  refine g_iload X48 hx hby i0_378 rfl ?_
  refine g_isub X48 hx hby i0_380 ?_
  rw [show (17 : Int32) - own_i D_ = own_i (17 - D_) from own_isubL (a := D_) (b := 17) (by omega)]
  refine g_iload X48 hx hby i0_381 rfl ?_
  refine g_iconst X48 hx hby i0_383 (z := (1 : Int32)) (by decide) ?_
  refine g_iadd X48 hx hby i0_384 ?_
  rw [own_isucc]
  refine g_iload X48 hx hby i0_385 rfl ?_
  refine g_iadd X48 hx hby i0_387 ?_
  rw [own_iadd]
  refine g_callV0 X48 hx hby hZ (y0 := (⟨"com/example/ariel/ariel/cbor/CborSequence", "append", "([BII)V"⟩ : MethodName)) (y := (⟨"com/example/ariel/ariel/cbor/CborSequence", "append", "([BII)V"⟩ : MethodName)) (argsL := [(.ref b1), (.int (own_i (17 - D_))), (.int (own_i (D_ + 1 + K_)))]) (rest := []) hown (wd_ hw 48 rfl) (wd_ hw 49 rfl) (notFace_of_selects (args := #[]) (mvT hZ (wd_ hw 51 rfl))) (wd_ hw 51 rfl) (wd_ hw 50 rfl) (wd_ hw 4 rfl) (wd_ hw 52 rfl) (by decide) (a := b45) Q48.1 (rm6_E l Z a0 hw [] b45 b1 (own_i (17 - D_)) (own_i (D_ + 1 + K_)) no_ no_ no_ od48 ub48 nl nc (0 : Int32) (0 : Int32) (0 : Int32) (0 : Int32) (0 : Int32) r46 r47 (0 : Int64) (0 : Int64) (0 : Int64) T48.heap n0 Z0 SA_ SB_ SC_ O Q48 g_b45 (by decide)) rfl (by rw [hml]; rfl) pd_27 rfl rfl i0_388 (by decide) 0 rfl (by decide) (by decide) (by decide) fun T49 v49 L49 X49 q49 => ?_
  obtain ⟨rfl, K49, Q49, N49⟩ := q49
  have N0 := Fr.app N0 N49
  rw [own_iadd, show 17 - D_ + (D_ + 1 + K_) = 18 + K_ from by omega] at Q49
  have V1 := V1.keep K49 (ninS ne_b1_b45 nin0)
  have V44 := V44.keep K49 (ninS ne_b44_b45 nin0)
  have Vq48 := Vq48.keep K49 (ninS (Ne.symm ne_b45_od48) nin0)
  have Vu48 := Vu48.keep K49 (ninS (Ne.symm ne_b45_ub48) nin0)
  have O := O.keep K49 (allS g_b45 all0)
  have Z0 : n0 ≤ T49.heap.size := Nat.le_trans Z0 K49.1
  show Gd p e below _ T49 (mkF m 391 #[.val (.int p0), .val (.int p1), .val (.int p2), .val (.int p3), .val (.int p4), .val (.int p5), .val (.int (own_i D_)), .val (.int (own_i N_)), .val (.int (own_i K_)), .val (.int (own_i M_)), .val (.int (own_i G_)), .val (.int x11), .val (.int x12), .val (.int (-97 : Int32)), .val (.ref b1), .val (.ref b44), .val (.ref b45), .unset, .unset, .unset, .unset, .unset, .unset, .unset, .unset, .unset, .unset, .unset] [])
  refine g_aload X49 hx hby i0_391 rfl rfl ?_
  have hmx := own_mxge hr46
  have hmi := own_mxge hr47
  refine g_callV0 X49 hx hby hZ (y0 := (⟨"com/example/ariel/ariel/cbor/CborSequence", "next", "()Lcom/example/ariel/ariel/cbor/CborValue;"⟩ : MethodName)) (y := (⟨"com/example/ariel/ariel/cbor/CborSequence", "next", "()Lcom/example/ariel/ariel/cbor/CborValue;"⟩ : MethodName)) (argsL := []) (rest := []) hown (wd_ hw 57 rfl) (wd_ hw 58 rfl) (notFace_of_selects (args := #[]) (mvT hZ (wd_ hw 60 rfl))) (wd_ hw 60 rfl) (wd_ hw 59 rfl) (wd_ hw 4 rfl) (wd_ hw 61 rfl) (by decide) (a := b45) Q49.1 (rm7 l Z a0 hw [] b45 no_ b1 no_ od48 ub48 nl nc (0 : Int32) (0 : Int32) (0 : Int32) r46 r47 (0 : Int64) (0 : Int64) (0 : Int64) k1 kq48 ku48 _ _ _ (17 - D_) K_ D_ N_ T49.heap n0 Z0 SA_ SB_ SC_ O Q49 g_b45 V1 Vq48 Vu48 g_od48 g_ub48 (Ne.symm ne_b1_b45) ne_b45_od48 ne_b45_ub48 hqu48 ne_b1_od48 ne_b1_ub48 (fun j hj => (own_p1 _ _ _ j hj).trans (congrArg Value.int (by decide))) (congrArg Value.int (own_or hN).2) (by omega) hN hK hmx hmi) rfl (by rw [hml]; rfl) pd_24 rfl rfl i0_393 (by decide) 0 rfl (by decide) (by decide) (by decide) fun T50 v50 L50 X50 q50 => ?_
  obtain ⟨vv50, rfl, od50, ub50, kq50, vq50, sc50, dp50, sl50, kl50, sk50, cl50, hvv50, K50, Q50, Vq50, g_od50, hod50, hsq50, N50⟩ := q50
  have N0 := Fr.app N0 N50
  have V1 := V1.keep K50 (ninS ne_b1_b45 (ninS ne_b1_od48 (ninS ne_b1_ub48 nin0)))
  have V44 := V44.keep K50 (ninS ne_b44_b45 (ninS ne_b44_od48 (ninS ne_b44_ub48 nin0)))
  have O := O.keep K50 (allS g_b45 (allS g_od48 (allS g_ub48 all0)))
  have Z0 : n0 ≤ T50.heap.size := Nat.le_trans Z0 K50.1
  have J : own_I Z T50.heap n0 b45 b44 nl nc false 0 (own_pp D_ K_ N_) (own_lev D_) := ⟨b1, no_, od50, ub50, own_pa (17 - D_) D_ K_ N_, sc50, dp50, sk50, r46, r47, sl50, kl50, cl50, _, kn_, kq50, _, 41, _, vn_, vq50, _, Q50, V1, VA_.ext O.2, Vq50, V44, g_b45, (Ne.symm ne_b1_b45), (O.ne VA_.lt g_b45).symm, hsq50, (Ne.symm ne_b44_b45), (O.ne VA_.lt g_b44).symm, (O.ne VA_.lt g_od50).symm, own_pale (by omega) (by omega), by omega, by omega, (fun q => by cases q), (fun _ => (O.ne VA_.lt g_b1).symm), Or.inl rfl, O, Z0⟩
  show Gd p e below _ T50 (mkF m 396 #[.val (.int p0), .val (.int p1), .val (.int p2), .val (.int p3), .val (.int p4), .val (.int p5), .val (.int (own_i D_)), .val (.int (own_i N_)), .val (.int (own_i K_)), .val (.int (own_i M_)), .val (.int (own_i G_)), .val (.int x11), .val (.int x12), .val (.int (-97 : Int32)), .val (.ref b1), .val (.ref b44), .val (.ref b45), .unset, .unset, .unset, .unset, .unset, .unset, .unset, .unset, .unset, .unset, .unset] [vv50])
  refine g_pop X50 hx hby i0_396 (own_cat hvv50) ?_
  refine g_iload X50 hx hby i0_397 rfl ?_
  refine g_bipush X50 hx hby i0_399 (z := (8 : Int32)) (by decide) ?_
  refine g_icmp_gt X50 hx hby i0_401 (fun c401_51 => ?_) (fun c401_51 => ?_)
  · have h8 : ¬ D_ ≤ 8 := Nat.not_le_of_lt ((own_ilt (a := 8) (by omega) (by omega)).mp c401_51)
    refine g_iload X50 hx hby i0_408 rfl ?_
    refine g_bipush X50 hx hby i0_410 (z := (16 : Int32)) (by decide) ?_
    refine g_icmp_gt X50 hx hby i0_412 (fun c412_52 => ?_) (fun c412_52 => ?_)
    · have h16 : ¬ D_ ≤ 16 := Nat.not_le_of_lt ((own_ilt (a := 16) (by omega) (by omega)).mp c412_52)
      refine g_ldc2Long X50 hx hby hZ hown (wd_ hw 267 rfl) i0_421 ?_
      refine g_lstore X50 hx hby i0_424 (l' := #[.val (.int p0), .val (.int p1), .val (.int p2), .val (.int p3), .val (.int p4), .val (.int p5), .val (.int (own_i D_)), .val (.int (own_i N_)), .val (.int (own_i K_)), .val (.int (own_i M_)), .val (.int (own_i G_)), .val (.int x11), .val (.int x12), .val (.int (-97 : Int32)), .val (.ref b1), .val (.ref b44), .val (.ref b45), .val (.long (288 : Int64)), .second, .unset, .unset, .unset, .unset, .unset, .unset, .unset, .unset, .unset]) rfl ?_
      refine g_iload X50 hx hby i0_426 rfl ?_
      refine g_if_ne X50 hx hby i0_428 (fun c428_53 => ?_) (fun c428_53 => ?_)
      · have hnw : ¬ (D_ = 0 ∧ K_ = N_) := fun q => c428_53 (by rw [q.1]; rfl)
        refine g_iconst X50 hx hby i0_442 (z := (0 : Int32)) (by decide) ?_
        refine g_istore X50 hx hby i0_443 (l' := #[.val (.int p0), .val (.int p1), .val (.int p2), .val (.int p3), .val (.int p4), .val (.int p5), .val (.int (own_i D_)), .val (.int (own_i N_)), .val (.int (own_i K_)), .val (.int (own_i M_)), .val (.int (own_i G_)), .val (.int x11), .val (.int x12), .val (.int (-97 : Int32)), .val (.ref b1), .val (.ref b44), .val (.ref b45), .val (.long (288 : Int64)), .second, .val (.int (0 : Int32)), .unset, .unset, .unset, .unset, .unset, .unset, .unset, .unset]) rfl ?_
        refine g_iload X50 hx hby i0_445 rfl ?_
        refine g_if_eq X50 hx hby i0_447 (fun c447_54 => ?_) (fun c447_54 => False.elim (absurd c447_54 (by decide)))
        refine g_iload X50 hx hby i0_454 rfl ?_
        refine g_iconst X50 hx hby i0_456 (z := (1 : Int32)) (by decide) ?_
        refine g_iadd X50 hx hby i0_457 ?_
        rw [own_isucc]
        refine g_iload X50 hx hby i0_458 rfl ?_
        refine g_iadd X50 hx hby i0_460 ?_
        rw [own_iadd]
        refine g_i2l X50 hx hby i0_461 ?_
        rw [own_i2l (by omega)]
        refine g_lstore X50 hx hby i0_462 (l' := #[.val (.int p0), .val (.int p1), .val (.int p2), .val (.int p3), .val (.int p4), .val (.int p5), .val (.int (own_i D_)), .val (.int (own_i N_)), .val (.int (own_i K_)), .val (.int (own_i M_)), .val (.int (own_i G_)), .val (.int x11), .val (.int x12), .val (.int (-97 : Int32)), .val (.ref b1), .val (.ref b44), .val (.ref b45), .val (.long (288 : Int64)), .second, .val (.int (0 : Int32)), .val (.long (own_l (D_ + 1 + K_))), .second, .unset, .unset, .unset, .unset, .unset, .unset]) rfl ?_
        refine g_lconst X50 hx hby i0_464 (z := (0 : Int64)) (by decide) ?_
        refine g_lstore X50 hx hby i0_465 (l' := #[.val (.int p0), .val (.int p1), .val (.int p2), .val (.int p3), .val (.int p4), .val (.int p5), .val (.int (own_i D_)), .val (.int (own_i N_)), .val (.int (own_i K_)), .val (.int (own_i M_)), .val (.int (own_i G_)), .val (.int x11), .val (.int x12), .val (.int (-97 : Int32)), .val (.ref b1), .val (.ref b44), .val (.ref b45), .val (.long (288 : Int64)), .second, .val (.int (0 : Int32)), .val (.long (own_l (D_ + 1 + K_))), .second, .val (.long (0 : Int64)), .second, .unset, .unset, .unset, .unset]) rfl ?_
        refine g_iconst X50 hx hby i0_467 (z := (0 : Int32)) (by decide) ?_
        refine g_istore X50 hx hby i0_468 (l' := #[.val (.int p0), .val (.int p1), .val (.int p2), .val (.int p3), .val (.int p4), .val (.int p5), .val (.int (own_i D_)), .val (.int (own_i N_)), .val (.int (own_i K_)), .val (.int (own_i M_)), .val (.int (own_i G_)), .val (.int x11), .val (.int x12), .val (.int (-97 : Int32)), .val (.ref b1), .val (.ref b44), .val (.ref b45), .val (.long (288 : Int64)), .second, .val (.int (0 : Int32)), .val (.long (own_l (D_ + 1 + K_))), .second, .val (.long (0 : Int64)), .second, .val (.int (0 : Int32)), .unset, .unset, .unset]) rfl ?_
        rw [own_levC h8 h16] at J
        rw [own_ppF hnw] at J
        exact sgD l Z a0 hw hx hby hml hZ hown hret hlk n0 no_ b45 b44 b1 nl nc p0 p1 p2 p3 p4 p5 x11 x12 (0 : Int32) D_ N_ K_ M_ G_ SA_ SB_ SC_ kl_ kc_ vl_ vc_ VB_ VC_ hM hG false 0 (D_ + 1 + K_) 24 (by omega) (by omega) (by omega) T50 _ _ (own_bump X50 (by decide) (by decide)) rfl N0 J
      · have hd0 : D_ = 0 := (own_ieq (b := 0) (by omega) (by omega)).mp c428_53
        refine g_iload X50 hx hby i0_431 rfl ?_
        refine g_iload X50 hx hby i0_433 rfl ?_
        refine g_icmp_ne X50 hx hby i0_435 (fun c435_55 => ?_) (fun c435_55 => ?_)
        · have hnw : ¬ (D_ = 0 ∧ K_ = N_) := fun q => c435_55 (by rw [q.2])
          refine g_iconst X50 hx hby i0_442 (z := (0 : Int32)) (by decide) ?_
          refine g_istore X50 hx hby i0_443 (l' := #[.val (.int p0), .val (.int p1), .val (.int p2), .val (.int p3), .val (.int p4), .val (.int p5), .val (.int (own_i D_)), .val (.int (own_i N_)), .val (.int (own_i K_)), .val (.int (own_i M_)), .val (.int (own_i G_)), .val (.int x11), .val (.int x12), .val (.int (-97 : Int32)), .val (.ref b1), .val (.ref b44), .val (.ref b45), .val (.long (288 : Int64)), .second, .val (.int (0 : Int32)), .unset, .unset, .unset, .unset, .unset, .unset, .unset, .unset]) rfl ?_
          refine g_iload X50 hx hby i0_445 rfl ?_
          refine g_if_eq X50 hx hby i0_447 (fun c447_56 => ?_) (fun c447_56 => False.elim (absurd c447_56 (by decide)))
          refine g_iload X50 hx hby i0_454 rfl ?_
          refine g_iconst X50 hx hby i0_456 (z := (1 : Int32)) (by decide) ?_
          refine g_iadd X50 hx hby i0_457 ?_
          rw [own_isucc]
          refine g_iload X50 hx hby i0_458 rfl ?_
          refine g_iadd X50 hx hby i0_460 ?_
          rw [own_iadd]
          refine g_i2l X50 hx hby i0_461 ?_
          rw [own_i2l (by omega)]
          refine g_lstore X50 hx hby i0_462 (l' := #[.val (.int p0), .val (.int p1), .val (.int p2), .val (.int p3), .val (.int p4), .val (.int p5), .val (.int (own_i D_)), .val (.int (own_i N_)), .val (.int (own_i K_)), .val (.int (own_i M_)), .val (.int (own_i G_)), .val (.int x11), .val (.int x12), .val (.int (-97 : Int32)), .val (.ref b1), .val (.ref b44), .val (.ref b45), .val (.long (288 : Int64)), .second, .val (.int (0 : Int32)), .val (.long (own_l (D_ + 1 + K_))), .second, .unset, .unset, .unset, .unset, .unset, .unset]) rfl ?_
          refine g_lconst X50 hx hby i0_464 (z := (0 : Int64)) (by decide) ?_
          refine g_lstore X50 hx hby i0_465 (l' := #[.val (.int p0), .val (.int p1), .val (.int p2), .val (.int p3), .val (.int p4), .val (.int p5), .val (.int (own_i D_)), .val (.int (own_i N_)), .val (.int (own_i K_)), .val (.int (own_i M_)), .val (.int (own_i G_)), .val (.int x11), .val (.int x12), .val (.int (-97 : Int32)), .val (.ref b1), .val (.ref b44), .val (.ref b45), .val (.long (288 : Int64)), .second, .val (.int (0 : Int32)), .val (.long (own_l (D_ + 1 + K_))), .second, .val (.long (0 : Int64)), .second, .unset, .unset, .unset, .unset]) rfl ?_
          refine g_iconst X50 hx hby i0_467 (z := (0 : Int32)) (by decide) ?_
          refine g_istore X50 hx hby i0_468 (l' := #[.val (.int p0), .val (.int p1), .val (.int p2), .val (.int p3), .val (.int p4), .val (.int p5), .val (.int (own_i D_)), .val (.int (own_i N_)), .val (.int (own_i K_)), .val (.int (own_i M_)), .val (.int (own_i G_)), .val (.int x11), .val (.int x12), .val (.int (-97 : Int32)), .val (.ref b1), .val (.ref b44), .val (.ref b45), .val (.long (288 : Int64)), .second, .val (.int (0 : Int32)), .val (.long (own_l (D_ + 1 + K_))), .second, .val (.long (0 : Int64)), .second, .val (.int (0 : Int32)), .unset, .unset, .unset]) rfl ?_
          rw [own_levC h8 h16] at J
          rw [own_ppF hnw] at J
          exact sgD l Z a0 hw hx hby hml hZ hown hret hlk n0 no_ b45 b44 b1 nl nc p0 p1 p2 p3 p4 p5 x11 x12 (0 : Int32) D_ N_ K_ M_ G_ SA_ SB_ SC_ kl_ kc_ vl_ vc_ VB_ VC_ hM hG false 0 (D_ + 1 + K_) 24 (by omega) (by omega) (by omega) T50 _ _ (own_bump X50 (by decide) (by decide)) rfl N0 J
        · have hwh : D_ = 0 ∧ K_ = N_ := ⟨hd0, (own_ieq (by omega) (by omega)).mp c435_55⟩
          refine g_iconst X50 hx hby i0_438 (z := (1 : Int32)) (by decide) ?_
          refine g_goto X50 hx hby i0_439 ?_
          refine g_istore X50 hx hby i0_443 (l' := #[.val (.int p0), .val (.int p1), .val (.int p2), .val (.int p3), .val (.int p4), .val (.int p5), .val (.int (own_i D_)), .val (.int (own_i N_)), .val (.int (own_i K_)), .val (.int (own_i M_)), .val (.int (own_i G_)), .val (.int x11), .val (.int x12), .val (.int (-97 : Int32)), .val (.ref b1), .val (.ref b44), .val (.ref b45), .val (.long (288 : Int64)), .second, .val (.int (1 : Int32)), .unset, .unset, .unset, .unset, .unset, .unset, .unset, .unset]) rfl ?_
          refine g_iload X50 hx hby i0_445 rfl ?_
          refine g_if_eq X50 hx hby i0_447 (fun c447_57 => False.elim (absurd c447_57 (by decide))) fun c447_57 => ?_
          refine g_lconst X50 hx hby i0_450 (z := (0 : Int64)) (by decide) ?_
          refine g_goto X50 hx hby i0_451 ?_
          refine g_lstore X50 hx hby i0_462 (l' := #[.val (.int p0), .val (.int p1), .val (.int p2), .val (.int p3), .val (.int p4), .val (.int p5), .val (.int (own_i D_)), .val (.int (own_i N_)), .val (.int (own_i K_)), .val (.int (own_i M_)), .val (.int (own_i G_)), .val (.int x11), .val (.int x12), .val (.int (-97 : Int32)), .val (.ref b1), .val (.ref b44), .val (.ref b45), .val (.long (288 : Int64)), .second, .val (.int (1 : Int32)), .val (.long (0 : Int64)), .second, .unset, .unset, .unset, .unset, .unset, .unset]) rfl ?_
          refine g_lconst X50 hx hby i0_464 (z := (0 : Int64)) (by decide) ?_
          refine g_lstore X50 hx hby i0_465 (l' := #[.val (.int p0), .val (.int p1), .val (.int p2), .val (.int p3), .val (.int p4), .val (.int p5), .val (.int (own_i D_)), .val (.int (own_i N_)), .val (.int (own_i K_)), .val (.int (own_i M_)), .val (.int (own_i G_)), .val (.int x11), .val (.int x12), .val (.int (-97 : Int32)), .val (.ref b1), .val (.ref b44), .val (.ref b45), .val (.long (288 : Int64)), .second, .val (.int (1 : Int32)), .val (.long (0 : Int64)), .second, .val (.long (0 : Int64)), .second, .unset, .unset, .unset, .unset]) rfl ?_
          refine g_iconst X50 hx hby i0_467 (z := (0 : Int32)) (by decide) ?_
          refine g_istore X50 hx hby i0_468 (l' := #[.val (.int p0), .val (.int p1), .val (.int p2), .val (.int p3), .val (.int p4), .val (.int p5), .val (.int (own_i D_)), .val (.int (own_i N_)), .val (.int (own_i K_)), .val (.int (own_i M_)), .val (.int (own_i G_)), .val (.int x11), .val (.int x12), .val (.int (-97 : Int32)), .val (.ref b1), .val (.ref b44), .val (.ref b45), .val (.long (288 : Int64)), .second, .val (.int (1 : Int32)), .val (.long (0 : Int64)), .second, .val (.long (0 : Int64)), .second, .val (.int (0 : Int32)), .unset, .unset, .unset]) rfl ?_
          rw [own_levC h8 h16] at J
          rw [own_ppT hwh] at J
          exact sgD l Z a0 hw hx hby hml hZ hown hret hlk n0 no_ b45 b44 b1 nl nc p0 p1 p2 p3 p4 p5 x11 x12 (1 : Int32) D_ N_ K_ M_ G_ SA_ SB_ SC_ kl_ kc_ vl_ vc_ VB_ VC_ hM hG false 0 0 24 (by omega) (by omega) (by omega) T50 _ _ (own_bump X50 (by decide) (by decide)) rfl N0 J
    · have h16 : D_ ≤ 16 := Nat.le_of_not_lt (fun q => c412_52 ((own_ilt (a := 16) (by omega) (by omega)).mpr q))
      refine g_ldc2Long X50 hx hby hZ hown (wd_ hw 256 rfl) i0_415 ?_
      refine g_goto X50 hx hby i0_418 ?_
      refine g_lstore X50 hx hby i0_424 (l' := #[.val (.int p0), .val (.int p1), .val (.int p2), .val (.int p3), .val (.int p4), .val (.int p5), .val (.int (own_i D_)), .val (.int (own_i N_)), .val (.int (own_i K_)), .val (.int (own_i M_)), .val (.int (own_i G_)), .val (.int x11), .val (.int x12), .val (.int (-97 : Int32)), .val (.ref b1), .val (.ref b44), .val (.ref b45), .val (.long (96 : Int64)), .second, .unset, .unset, .unset, .unset, .unset, .unset, .unset, .unset, .unset]) rfl ?_
      refine g_iload X50 hx hby i0_426 rfl ?_
      refine g_if_ne X50 hx hby i0_428 (fun c428_58 => ?_) (fun c428_58 => ?_)
      · have hnw : ¬ (D_ = 0 ∧ K_ = N_) := fun q => c428_58 (by rw [q.1]; rfl)
        refine g_iconst X50 hx hby i0_442 (z := (0 : Int32)) (by decide) ?_
        refine g_istore X50 hx hby i0_443 (l' := #[.val (.int p0), .val (.int p1), .val (.int p2), .val (.int p3), .val (.int p4), .val (.int p5), .val (.int (own_i D_)), .val (.int (own_i N_)), .val (.int (own_i K_)), .val (.int (own_i M_)), .val (.int (own_i G_)), .val (.int x11), .val (.int x12), .val (.int (-97 : Int32)), .val (.ref b1), .val (.ref b44), .val (.ref b45), .val (.long (96 : Int64)), .second, .val (.int (0 : Int32)), .unset, .unset, .unset, .unset, .unset, .unset, .unset, .unset]) rfl ?_
        refine g_iload X50 hx hby i0_445 rfl ?_
        refine g_if_eq X50 hx hby i0_447 (fun c447_59 => ?_) (fun c447_59 => False.elim (absurd c447_59 (by decide)))
        refine g_iload X50 hx hby i0_454 rfl ?_
        refine g_iconst X50 hx hby i0_456 (z := (1 : Int32)) (by decide) ?_
        refine g_iadd X50 hx hby i0_457 ?_
        rw [own_isucc]
        refine g_iload X50 hx hby i0_458 rfl ?_
        refine g_iadd X50 hx hby i0_460 ?_
        rw [own_iadd]
        refine g_i2l X50 hx hby i0_461 ?_
        rw [own_i2l (by omega)]
        refine g_lstore X50 hx hby i0_462 (l' := #[.val (.int p0), .val (.int p1), .val (.int p2), .val (.int p3), .val (.int p4), .val (.int p5), .val (.int (own_i D_)), .val (.int (own_i N_)), .val (.int (own_i K_)), .val (.int (own_i M_)), .val (.int (own_i G_)), .val (.int x11), .val (.int x12), .val (.int (-97 : Int32)), .val (.ref b1), .val (.ref b44), .val (.ref b45), .val (.long (96 : Int64)), .second, .val (.int (0 : Int32)), .val (.long (own_l (D_ + 1 + K_))), .second, .unset, .unset, .unset, .unset, .unset, .unset]) rfl ?_
        refine g_lconst X50 hx hby i0_464 (z := (0 : Int64)) (by decide) ?_
        refine g_lstore X50 hx hby i0_465 (l' := #[.val (.int p0), .val (.int p1), .val (.int p2), .val (.int p3), .val (.int p4), .val (.int p5), .val (.int (own_i D_)), .val (.int (own_i N_)), .val (.int (own_i K_)), .val (.int (own_i M_)), .val (.int (own_i G_)), .val (.int x11), .val (.int x12), .val (.int (-97 : Int32)), .val (.ref b1), .val (.ref b44), .val (.ref b45), .val (.long (96 : Int64)), .second, .val (.int (0 : Int32)), .val (.long (own_l (D_ + 1 + K_))), .second, .val (.long (0 : Int64)), .second, .unset, .unset, .unset, .unset]) rfl ?_
        refine g_iconst X50 hx hby i0_467 (z := (0 : Int32)) (by decide) ?_
        refine g_istore X50 hx hby i0_468 (l' := #[.val (.int p0), .val (.int p1), .val (.int p2), .val (.int p3), .val (.int p4), .val (.int p5), .val (.int (own_i D_)), .val (.int (own_i N_)), .val (.int (own_i K_)), .val (.int (own_i M_)), .val (.int (own_i G_)), .val (.int x11), .val (.int x12), .val (.int (-97 : Int32)), .val (.ref b1), .val (.ref b44), .val (.ref b45), .val (.long (96 : Int64)), .second, .val (.int (0 : Int32)), .val (.long (own_l (D_ + 1 + K_))), .second, .val (.long (0 : Int64)), .second, .val (.int (0 : Int32)), .unset, .unset, .unset]) rfl ?_
        rw [own_levB h8 h16] at J
        rw [own_ppF hnw] at J
        exact sgD l Z a0 hw hx hby hml hZ hown hret hlk n0 no_ b45 b44 b1 nl nc p0 p1 p2 p3 p4 p5 x11 x12 (0 : Int32) D_ N_ K_ M_ G_ SA_ SB_ SC_ kl_ kc_ vl_ vc_ VB_ VC_ hM hG false 0 (D_ + 1 + K_) 8 (by omega) (by omega) (by omega) T50 _ _ (own_bump X50 (by decide) (by decide)) rfl N0 J
      · have hd0 : D_ = 0 := (own_ieq (b := 0) (by omega) (by omega)).mp c428_58
        refine g_iload X50 hx hby i0_431 rfl ?_
        refine g_iload X50 hx hby i0_433 rfl ?_
        refine g_icmp_ne X50 hx hby i0_435 (fun c435_60 => ?_) (fun c435_60 => ?_)
        · have hnw : ¬ (D_ = 0 ∧ K_ = N_) := fun q => c435_60 (by rw [q.2])
          refine g_iconst X50 hx hby i0_442 (z := (0 : Int32)) (by decide) ?_
          refine g_istore X50 hx hby i0_443 (l' := #[.val (.int p0), .val (.int p1), .val (.int p2), .val (.int p3), .val (.int p4), .val (.int p5), .val (.int (own_i D_)), .val (.int (own_i N_)), .val (.int (own_i K_)), .val (.int (own_i M_)), .val (.int (own_i G_)), .val (.int x11), .val (.int x12), .val (.int (-97 : Int32)), .val (.ref b1), .val (.ref b44), .val (.ref b45), .val (.long (96 : Int64)), .second, .val (.int (0 : Int32)), .unset, .unset, .unset, .unset, .unset, .unset, .unset, .unset]) rfl ?_
          refine g_iload X50 hx hby i0_445 rfl ?_
          refine g_if_eq X50 hx hby i0_447 (fun c447_61 => ?_) (fun c447_61 => False.elim (absurd c447_61 (by decide)))
          refine g_iload X50 hx hby i0_454 rfl ?_
          refine g_iconst X50 hx hby i0_456 (z := (1 : Int32)) (by decide) ?_
          refine g_iadd X50 hx hby i0_457 ?_
          rw [own_isucc]
          refine g_iload X50 hx hby i0_458 rfl ?_
          refine g_iadd X50 hx hby i0_460 ?_
          rw [own_iadd]
          refine g_i2l X50 hx hby i0_461 ?_
          rw [own_i2l (by omega)]
          refine g_lstore X50 hx hby i0_462 (l' := #[.val (.int p0), .val (.int p1), .val (.int p2), .val (.int p3), .val (.int p4), .val (.int p5), .val (.int (own_i D_)), .val (.int (own_i N_)), .val (.int (own_i K_)), .val (.int (own_i M_)), .val (.int (own_i G_)), .val (.int x11), .val (.int x12), .val (.int (-97 : Int32)), .val (.ref b1), .val (.ref b44), .val (.ref b45), .val (.long (96 : Int64)), .second, .val (.int (0 : Int32)), .val (.long (own_l (D_ + 1 + K_))), .second, .unset, .unset, .unset, .unset, .unset, .unset]) rfl ?_
          refine g_lconst X50 hx hby i0_464 (z := (0 : Int64)) (by decide) ?_
          refine g_lstore X50 hx hby i0_465 (l' := #[.val (.int p0), .val (.int p1), .val (.int p2), .val (.int p3), .val (.int p4), .val (.int p5), .val (.int (own_i D_)), .val (.int (own_i N_)), .val (.int (own_i K_)), .val (.int (own_i M_)), .val (.int (own_i G_)), .val (.int x11), .val (.int x12), .val (.int (-97 : Int32)), .val (.ref b1), .val (.ref b44), .val (.ref b45), .val (.long (96 : Int64)), .second, .val (.int (0 : Int32)), .val (.long (own_l (D_ + 1 + K_))), .second, .val (.long (0 : Int64)), .second, .unset, .unset, .unset, .unset]) rfl ?_
          refine g_iconst X50 hx hby i0_467 (z := (0 : Int32)) (by decide) ?_
          refine g_istore X50 hx hby i0_468 (l' := #[.val (.int p0), .val (.int p1), .val (.int p2), .val (.int p3), .val (.int p4), .val (.int p5), .val (.int (own_i D_)), .val (.int (own_i N_)), .val (.int (own_i K_)), .val (.int (own_i M_)), .val (.int (own_i G_)), .val (.int x11), .val (.int x12), .val (.int (-97 : Int32)), .val (.ref b1), .val (.ref b44), .val (.ref b45), .val (.long (96 : Int64)), .second, .val (.int (0 : Int32)), .val (.long (own_l (D_ + 1 + K_))), .second, .val (.long (0 : Int64)), .second, .val (.int (0 : Int32)), .unset, .unset, .unset]) rfl ?_
          rw [own_levB h8 h16] at J
          rw [own_ppF hnw] at J
          exact sgD l Z a0 hw hx hby hml hZ hown hret hlk n0 no_ b45 b44 b1 nl nc p0 p1 p2 p3 p4 p5 x11 x12 (0 : Int32) D_ N_ K_ M_ G_ SA_ SB_ SC_ kl_ kc_ vl_ vc_ VB_ VC_ hM hG false 0 (D_ + 1 + K_) 8 (by omega) (by omega) (by omega) T50 _ _ (own_bump X50 (by decide) (by decide)) rfl N0 J
        · have hwh : D_ = 0 ∧ K_ = N_ := ⟨hd0, (own_ieq (by omega) (by omega)).mp c435_60⟩
          refine g_iconst X50 hx hby i0_438 (z := (1 : Int32)) (by decide) ?_
          refine g_goto X50 hx hby i0_439 ?_
          refine g_istore X50 hx hby i0_443 (l' := #[.val (.int p0), .val (.int p1), .val (.int p2), .val (.int p3), .val (.int p4), .val (.int p5), .val (.int (own_i D_)), .val (.int (own_i N_)), .val (.int (own_i K_)), .val (.int (own_i M_)), .val (.int (own_i G_)), .val (.int x11), .val (.int x12), .val (.int (-97 : Int32)), .val (.ref b1), .val (.ref b44), .val (.ref b45), .val (.long (96 : Int64)), .second, .val (.int (1 : Int32)), .unset, .unset, .unset, .unset, .unset, .unset, .unset, .unset]) rfl ?_
          refine g_iload X50 hx hby i0_445 rfl ?_
          refine g_if_eq X50 hx hby i0_447 (fun c447_62 => False.elim (absurd c447_62 (by decide))) fun c447_62 => ?_
          refine g_lconst X50 hx hby i0_450 (z := (0 : Int64)) (by decide) ?_
          refine g_goto X50 hx hby i0_451 ?_
          refine g_lstore X50 hx hby i0_462 (l' := #[.val (.int p0), .val (.int p1), .val (.int p2), .val (.int p3), .val (.int p4), .val (.int p5), .val (.int (own_i D_)), .val (.int (own_i N_)), .val (.int (own_i K_)), .val (.int (own_i M_)), .val (.int (own_i G_)), .val (.int x11), .val (.int x12), .val (.int (-97 : Int32)), .val (.ref b1), .val (.ref b44), .val (.ref b45), .val (.long (96 : Int64)), .second, .val (.int (1 : Int32)), .val (.long (0 : Int64)), .second, .unset, .unset, .unset, .unset, .unset, .unset]) rfl ?_
          refine g_lconst X50 hx hby i0_464 (z := (0 : Int64)) (by decide) ?_
          refine g_lstore X50 hx hby i0_465 (l' := #[.val (.int p0), .val (.int p1), .val (.int p2), .val (.int p3), .val (.int p4), .val (.int p5), .val (.int (own_i D_)), .val (.int (own_i N_)), .val (.int (own_i K_)), .val (.int (own_i M_)), .val (.int (own_i G_)), .val (.int x11), .val (.int x12), .val (.int (-97 : Int32)), .val (.ref b1), .val (.ref b44), .val (.ref b45), .val (.long (96 : Int64)), .second, .val (.int (1 : Int32)), .val (.long (0 : Int64)), .second, .val (.long (0 : Int64)), .second, .unset, .unset, .unset, .unset]) rfl ?_
          refine g_iconst X50 hx hby i0_467 (z := (0 : Int32)) (by decide) ?_
          refine g_istore X50 hx hby i0_468 (l' := #[.val (.int p0), .val (.int p1), .val (.int p2), .val (.int p3), .val (.int p4), .val (.int p5), .val (.int (own_i D_)), .val (.int (own_i N_)), .val (.int (own_i K_)), .val (.int (own_i M_)), .val (.int (own_i G_)), .val (.int x11), .val (.int x12), .val (.int (-97 : Int32)), .val (.ref b1), .val (.ref b44), .val (.ref b45), .val (.long (96 : Int64)), .second, .val (.int (1 : Int32)), .val (.long (0 : Int64)), .second, .val (.long (0 : Int64)), .second, .val (.int (0 : Int32)), .unset, .unset, .unset]) rfl ?_
          rw [own_levB h8 h16] at J
          rw [own_ppT hwh] at J
          exact sgD l Z a0 hw hx hby hml hZ hown hret hlk n0 no_ b45 b44 b1 nl nc p0 p1 p2 p3 p4 p5 x11 x12 (1 : Int32) D_ N_ K_ M_ G_ SA_ SB_ SC_ kl_ kc_ vl_ vc_ VB_ VC_ hM hG false 0 0 8 (by omega) (by omega) (by omega) T50 _ _ (own_bump X50 (by decide) (by decide)) rfl N0 J
  · have h8 : D_ ≤ 8 := Nat.le_of_not_lt (fun q => c401_51 ((own_ilt (a := 8) (by omega) (by omega)).mpr q))
    refine g_lconst X50 hx hby i0_404 (z := (0 : Int64)) (by decide) ?_
    refine g_goto X50 hx hby i0_405 ?_
    refine g_lstore X50 hx hby i0_424 (l' := #[.val (.int p0), .val (.int p1), .val (.int p2), .val (.int p3), .val (.int p4), .val (.int p5), .val (.int (own_i D_)), .val (.int (own_i N_)), .val (.int (own_i K_)), .val (.int (own_i M_)), .val (.int (own_i G_)), .val (.int x11), .val (.int x12), .val (.int (-97 : Int32)), .val (.ref b1), .val (.ref b44), .val (.ref b45), .val (.long (0 : Int64)), .second, .unset, .unset, .unset, .unset, .unset, .unset, .unset, .unset, .unset]) rfl ?_
    refine g_iload X50 hx hby i0_426 rfl ?_
    refine g_if_ne X50 hx hby i0_428 (fun c428_63 => ?_) (fun c428_63 => ?_)
    · have hnw : ¬ (D_ = 0 ∧ K_ = N_) := fun q => c428_63 (by rw [q.1]; rfl)
      refine g_iconst X50 hx hby i0_442 (z := (0 : Int32)) (by decide) ?_
      refine g_istore X50 hx hby i0_443 (l' := #[.val (.int p0), .val (.int p1), .val (.int p2), .val (.int p3), .val (.int p4), .val (.int p5), .val (.int (own_i D_)), .val (.int (own_i N_)), .val (.int (own_i K_)), .val (.int (own_i M_)), .val (.int (own_i G_)), .val (.int x11), .val (.int x12), .val (.int (-97 : Int32)), .val (.ref b1), .val (.ref b44), .val (.ref b45), .val (.long (0 : Int64)), .second, .val (.int (0 : Int32)), .unset, .unset, .unset, .unset, .unset, .unset, .unset, .unset]) rfl ?_
      refine g_iload X50 hx hby i0_445 rfl ?_
      refine g_if_eq X50 hx hby i0_447 (fun c447_64 => ?_) (fun c447_64 => False.elim (absurd c447_64 (by decide)))
      refine g_iload X50 hx hby i0_454 rfl ?_
      refine g_iconst X50 hx hby i0_456 (z := (1 : Int32)) (by decide) ?_
      refine g_iadd X50 hx hby i0_457 ?_
      rw [own_isucc]
      refine g_iload X50 hx hby i0_458 rfl ?_
      refine g_iadd X50 hx hby i0_460 ?_
      rw [own_iadd]
      refine g_i2l X50 hx hby i0_461 ?_
      rw [own_i2l (by omega)]
      refine g_lstore X50 hx hby i0_462 (l' := #[.val (.int p0), .val (.int p1), .val (.int p2), .val (.int p3), .val (.int p4), .val (.int p5), .val (.int (own_i D_)), .val (.int (own_i N_)), .val (.int (own_i K_)), .val (.int (own_i M_)), .val (.int (own_i G_)), .val (.int x11), .val (.int x12), .val (.int (-97 : Int32)), .val (.ref b1), .val (.ref b44), .val (.ref b45), .val (.long (0 : Int64)), .second, .val (.int (0 : Int32)), .val (.long (own_l (D_ + 1 + K_))), .second, .unset, .unset, .unset, .unset, .unset, .unset]) rfl ?_
      refine g_lconst X50 hx hby i0_464 (z := (0 : Int64)) (by decide) ?_
      refine g_lstore X50 hx hby i0_465 (l' := #[.val (.int p0), .val (.int p1), .val (.int p2), .val (.int p3), .val (.int p4), .val (.int p5), .val (.int (own_i D_)), .val (.int (own_i N_)), .val (.int (own_i K_)), .val (.int (own_i M_)), .val (.int (own_i G_)), .val (.int x11), .val (.int x12), .val (.int (-97 : Int32)), .val (.ref b1), .val (.ref b44), .val (.ref b45), .val (.long (0 : Int64)), .second, .val (.int (0 : Int32)), .val (.long (own_l (D_ + 1 + K_))), .second, .val (.long (0 : Int64)), .second, .unset, .unset, .unset, .unset]) rfl ?_
      refine g_iconst X50 hx hby i0_467 (z := (0 : Int32)) (by decide) ?_
      refine g_istore X50 hx hby i0_468 (l' := #[.val (.int p0), .val (.int p1), .val (.int p2), .val (.int p3), .val (.int p4), .val (.int p5), .val (.int (own_i D_)), .val (.int (own_i N_)), .val (.int (own_i K_)), .val (.int (own_i M_)), .val (.int (own_i G_)), .val (.int x11), .val (.int x12), .val (.int (-97 : Int32)), .val (.ref b1), .val (.ref b44), .val (.ref b45), .val (.long (0 : Int64)), .second, .val (.int (0 : Int32)), .val (.long (own_l (D_ + 1 + K_))), .second, .val (.long (0 : Int64)), .second, .val (.int (0 : Int32)), .unset, .unset, .unset]) rfl ?_
      rw [own_levA h8] at J
      rw [own_ppF hnw] at J
      exact sgD l Z a0 hw hx hby hml hZ hown hret hlk n0 no_ b45 b44 b1 nl nc p0 p1 p2 p3 p4 p5 x11 x12 (0 : Int32) D_ N_ K_ M_ G_ SA_ SB_ SC_ kl_ kc_ vl_ vc_ VB_ VC_ hM hG false 0 (D_ + 1 + K_) 0 (by omega) (by omega) (by omega) T50 _ _ (own_bump X50 (by decide) (by decide)) rfl N0 J
    · have hd0 : D_ = 0 := (own_ieq (b := 0) (by omega) (by omega)).mp c428_63
      refine g_iload X50 hx hby i0_431 rfl ?_
      refine g_iload X50 hx hby i0_433 rfl ?_
      refine g_icmp_ne X50 hx hby i0_435 (fun c435_65 => ?_) (fun c435_65 => ?_)
      · have hnw : ¬ (D_ = 0 ∧ K_ = N_) := fun q => c435_65 (by rw [q.2])
        refine g_iconst X50 hx hby i0_442 (z := (0 : Int32)) (by decide) ?_
        refine g_istore X50 hx hby i0_443 (l' := #[.val (.int p0), .val (.int p1), .val (.int p2), .val (.int p3), .val (.int p4), .val (.int p5), .val (.int (own_i D_)), .val (.int (own_i N_)), .val (.int (own_i K_)), .val (.int (own_i M_)), .val (.int (own_i G_)), .val (.int x11), .val (.int x12), .val (.int (-97 : Int32)), .val (.ref b1), .val (.ref b44), .val (.ref b45), .val (.long (0 : Int64)), .second, .val (.int (0 : Int32)), .unset, .unset, .unset, .unset, .unset, .unset, .unset, .unset]) rfl ?_
        refine g_iload X50 hx hby i0_445 rfl ?_
        refine g_if_eq X50 hx hby i0_447 (fun c447_66 => ?_) (fun c447_66 => False.elim (absurd c447_66 (by decide)))
        refine g_iload X50 hx hby i0_454 rfl ?_
        refine g_iconst X50 hx hby i0_456 (z := (1 : Int32)) (by decide) ?_
        refine g_iadd X50 hx hby i0_457 ?_
        rw [own_isucc]
        refine g_iload X50 hx hby i0_458 rfl ?_
        refine g_iadd X50 hx hby i0_460 ?_
        rw [own_iadd]
        refine g_i2l X50 hx hby i0_461 ?_
        rw [own_i2l (by omega)]
        refine g_lstore X50 hx hby i0_462 (l' := #[.val (.int p0), .val (.int p1), .val (.int p2), .val (.int p3), .val (.int p4), .val (.int p5), .val (.int (own_i D_)), .val (.int (own_i N_)), .val (.int (own_i K_)), .val (.int (own_i M_)), .val (.int (own_i G_)), .val (.int x11), .val (.int x12), .val (.int (-97 : Int32)), .val (.ref b1), .val (.ref b44), .val (.ref b45), .val (.long (0 : Int64)), .second, .val (.int (0 : Int32)), .val (.long (own_l (D_ + 1 + K_))), .second, .unset, .unset, .unset, .unset, .unset, .unset]) rfl ?_
        refine g_lconst X50 hx hby i0_464 (z := (0 : Int64)) (by decide) ?_
        refine g_lstore X50 hx hby i0_465 (l' := #[.val (.int p0), .val (.int p1), .val (.int p2), .val (.int p3), .val (.int p4), .val (.int p5), .val (.int (own_i D_)), .val (.int (own_i N_)), .val (.int (own_i K_)), .val (.int (own_i M_)), .val (.int (own_i G_)), .val (.int x11), .val (.int x12), .val (.int (-97 : Int32)), .val (.ref b1), .val (.ref b44), .val (.ref b45), .val (.long (0 : Int64)), .second, .val (.int (0 : Int32)), .val (.long (own_l (D_ + 1 + K_))), .second, .val (.long (0 : Int64)), .second, .unset, .unset, .unset, .unset]) rfl ?_
        refine g_iconst X50 hx hby i0_467 (z := (0 : Int32)) (by decide) ?_
        refine g_istore X50 hx hby i0_468 (l' := #[.val (.int p0), .val (.int p1), .val (.int p2), .val (.int p3), .val (.int p4), .val (.int p5), .val (.int (own_i D_)), .val (.int (own_i N_)), .val (.int (own_i K_)), .val (.int (own_i M_)), .val (.int (own_i G_)), .val (.int x11), .val (.int x12), .val (.int (-97 : Int32)), .val (.ref b1), .val (.ref b44), .val (.ref b45), .val (.long (0 : Int64)), .second, .val (.int (0 : Int32)), .val (.long (own_l (D_ + 1 + K_))), .second, .val (.long (0 : Int64)), .second, .val (.int (0 : Int32)), .unset, .unset, .unset]) rfl ?_
        rw [own_levA h8] at J
        rw [own_ppF hnw] at J
        exact sgD l Z a0 hw hx hby hml hZ hown hret hlk n0 no_ b45 b44 b1 nl nc p0 p1 p2 p3 p4 p5 x11 x12 (0 : Int32) D_ N_ K_ M_ G_ SA_ SB_ SC_ kl_ kc_ vl_ vc_ VB_ VC_ hM hG false 0 (D_ + 1 + K_) 0 (by omega) (by omega) (by omega) T50 _ _ (own_bump X50 (by decide) (by decide)) rfl N0 J
      · have hwh : D_ = 0 ∧ K_ = N_ := ⟨hd0, (own_ieq (by omega) (by omega)).mp c435_65⟩
        refine g_iconst X50 hx hby i0_438 (z := (1 : Int32)) (by decide) ?_
        refine g_goto X50 hx hby i0_439 ?_
        refine g_istore X50 hx hby i0_443 (l' := #[.val (.int p0), .val (.int p1), .val (.int p2), .val (.int p3), .val (.int p4), .val (.int p5), .val (.int (own_i D_)), .val (.int (own_i N_)), .val (.int (own_i K_)), .val (.int (own_i M_)), .val (.int (own_i G_)), .val (.int x11), .val (.int x12), .val (.int (-97 : Int32)), .val (.ref b1), .val (.ref b44), .val (.ref b45), .val (.long (0 : Int64)), .second, .val (.int (1 : Int32)), .unset, .unset, .unset, .unset, .unset, .unset, .unset, .unset]) rfl ?_
        refine g_iload X50 hx hby i0_445 rfl ?_
        refine g_if_eq X50 hx hby i0_447 (fun c447_67 => False.elim (absurd c447_67 (by decide))) fun c447_67 => ?_
        refine g_lconst X50 hx hby i0_450 (z := (0 : Int64)) (by decide) ?_
        refine g_goto X50 hx hby i0_451 ?_
        refine g_lstore X50 hx hby i0_462 (l' := #[.val (.int p0), .val (.int p1), .val (.int p2), .val (.int p3), .val (.int p4), .val (.int p5), .val (.int (own_i D_)), .val (.int (own_i N_)), .val (.int (own_i K_)), .val (.int (own_i M_)), .val (.int (own_i G_)), .val (.int x11), .val (.int x12), .val (.int (-97 : Int32)), .val (.ref b1), .val (.ref b44), .val (.ref b45), .val (.long (0 : Int64)), .second, .val (.int (1 : Int32)), .val (.long (0 : Int64)), .second, .unset, .unset, .unset, .unset, .unset, .unset]) rfl ?_
        refine g_lconst X50 hx hby i0_464 (z := (0 : Int64)) (by decide) ?_
        refine g_lstore X50 hx hby i0_465 (l' := #[.val (.int p0), .val (.int p1), .val (.int p2), .val (.int p3), .val (.int p4), .val (.int p5), .val (.int (own_i D_)), .val (.int (own_i N_)), .val (.int (own_i K_)), .val (.int (own_i M_)), .val (.int (own_i G_)), .val (.int x11), .val (.int x12), .val (.int (-97 : Int32)), .val (.ref b1), .val (.ref b44), .val (.ref b45), .val (.long (0 : Int64)), .second, .val (.int (1 : Int32)), .val (.long (0 : Int64)), .second, .val (.long (0 : Int64)), .second, .unset, .unset, .unset, .unset]) rfl ?_
        refine g_iconst X50 hx hby i0_467 (z := (0 : Int32)) (by decide) ?_
        refine g_istore X50 hx hby i0_468 (l' := #[.val (.int p0), .val (.int p1), .val (.int p2), .val (.int p3), .val (.int p4), .val (.int p5), .val (.int (own_i D_)), .val (.int (own_i N_)), .val (.int (own_i K_)), .val (.int (own_i M_)), .val (.int (own_i G_)), .val (.int x11), .val (.int x12), .val (.int (-97 : Int32)), .val (.ref b1), .val (.ref b44), .val (.ref b45), .val (.long (0 : Int64)), .second, .val (.int (1 : Int32)), .val (.long (0 : Int64)), .second, .val (.long (0 : Int64)), .second, .val (.int (0 : Int32)), .unset, .unset, .unset]) rfl ?_
        rw [own_levA h8] at J
        rw [own_ppT hwh] at J
        exact sgD l Z a0 hw hx hby hml hZ hown hret hlk n0 no_ b45 b44 b1 nl nc p0 p1 p2 p3 p4 p5 x11 x12 (1 : Int32) D_ N_ K_ M_ G_ SA_ SB_ SC_ kl_ kc_ vl_ vc_ VB_ VC_ hM hG false 0 0 0 (by omega) (by omega) (by omega) T50 _ _ (own_bump X50 (by decide) (by decide)) rfl N0 J
theorem sg65 (l : Launch) (Z : State) (a0 : Array Value) (hw : ∀ d ∈ tables_1, d.before a0 Z = true) {p : Program} {e : Env} {s : State} {m : MethodId} {args : Array Value} {below : List Frame} {meth : Method} {c : Code} (hx : p.tables.exec = Jvm.exec) (hby : c.code = code) (hml : c.maxLocals = maxLocals) (hZ : Z.Warmed39 s.vm) (hown : s.vm.findClass "com/example/ariel/ariel/cbor/CborSequenceFootprintPinLaw" = some m.cls) (hret : meth.sig.returnType = ret) (hlk : meth.locks = false) (n0 : Nat) (no_ nl nc : Addr) (p0 p1 p2 p3 p4 p5 x11 x12 : Int32) (D_ N_ K_ M_ G_ : Nat) (SA_ : Sta Z Z.heap "com/example/ariel/ariel/cbor/CborSequence" "NOTHING" "[B" (.ref no_)) (SB_ : Sta Z Z.heap "com/example/ariel/ariel/cbor/CborSequence" "NO_LENGTHS" "[J" (.ref nl)) (SC_ : Sta Z Z.heap "com/example/ariel/ariel/cbor/CborSequence" "NO_CUTS" "[I" (.ref nc)) (kn_ : ClassId) (vn_ : List Value) (VA_ : Arv Z Z.heap no_ kn_ .byte (0 : Int32) vn_ (.int (0 : Int32))) (kl_ kc_ : ClassId) (vl_ vc_ : List Value) (VB_ : Arv Z Z.heap nl kl_ .long (0 : Int32) vl_ (.long (0 : Int64))) (VC_ : Arv Z Z.heap nc kc_ .int (0 : Int32) vc_ (.int (0 : Int32))) (hD : D_ < 18) (hN : N_ < 24) (hK : K_ ≤ N_) (hM : M_ ≤ 40) (hG : G_ ≤ 40)
    (T0 : State) (hh : Heap) (locs : List Loc) (X0 : Stand p l e room_1 s m args below meth c T0 locs 0 0) (e0 : T0.heap = hh) (N0 : Fr n0 locs) (O : Old Z n0 hh) (Z0 : n0 ≤ hh.size) : Gd p e below (Fin1 s below room_1.cells room_1.slots (RV fun z _ L => z = .int 1 ∧ Fr n0 L)) T0 (mkF m 65 #[.val (.int p0), .val (.int p1), .val (.int p2), .val (.int p3), .val (.int p4), .val (.int p5), .val (.int (own_i D_)), .val (.int (own_i N_)), .val (.int (own_i K_)), .val (.int (own_i M_)), .val (.int (own_i G_)), .unset, .unset, .unset, .unset, .unset, .unset, .unset, .unset, .unset, .unset, .unset, .unset, .unset, .unset, .unset, .unset, .unset] [(.int x11)]) := by
  refine g_istore X0 hx hby i0_65 (l' := #[.val (.int p0), .val (.int p1), .val (.int p2), .val (.int p3), .val (.int p4), .val (.int p5), .val (.int (own_i D_)), .val (.int (own_i N_)), .val (.int (own_i K_)), .val (.int (own_i M_)), .val (.int (own_i G_)), .val (.int x11), .unset, .unset, .unset, .unset, .unset, .unset, .unset, .unset, .unset, .unset, .unset, .unset, .unset, .unset, .unset, .unset]) rfl ?_
  refine g_iloadN X0 hx hby i0_67 rfl ?_
  refine g_bipush X0 hx hby i0_68 (z := (17 : Int32)) (by decide) ?_
  refine g_iushr X0 hx hby i0_70 ?_
  refine g_iconst X0 hx hby i0_71 (z := (1 : Int32)) (by decide) ?_
  refine g_iand X0 hx hby i0_72 ?_
  refine g_if_eq X0 hx hby i0_73 (fun c73_1 => ?_) (fun c73_1 => ?_)
  · refine g_iconst X0 hx hby i0_80 (z := (0 : Int32)) (by decide) ?_
    exact sg81 l Z a0 hw hx hby hml hZ hown hret hlk n0 no_ nl nc p0 p1 p2 p3 p4 p5 x11 (0 : Int32) D_ N_ K_ M_ G_ SA_ SB_ SC_ kn_ vn_ VA_ kl_ kc_ vl_ vc_ VB_ VC_ hD hN hK hM hG T0 _ _ X0 e0 N0 O Z0
  · refine g_iconst X0 hx hby i0_76 (z := (1 : Int32)) (by decide) ?_
    refine g_goto X0 hx hby i0_77 ?_
    exact sg81 l Z a0 hw hx hby hml hZ hown hret hlk n0 no_ nl nc p0 p1 p2 p3 p4 p5 x11 (1 : Int32) D_ N_ K_ M_ G_ SA_ SB_ SC_ kn_ vn_ VA_ kl_ kc_ vl_ vc_ VB_ VC_ hD hN hK hM hG T0 _ _ X0 e0 N0 O Z0
theorem pn_com_example_ariel_ariel_cbor_CborSequenceFootprintPinLaw : plainName "com/example/ariel/ariel/cbor/CborSequenceFootprintPinLaw" = true := by first | (simp [plainName, overriddenIn]; done) | decide +kernel
theorem ef_0 (m : MethodId) (p0 : Int32) (p1 : Int32) (p2 : Int32) (p3 : Int32) (p4 : Int32) (p5 : Int32) : entryFrame m #[(.int p0), (.int p1), (.int p2), (.int p3), (.int p4), (.int p5)] maxLocals = mkF m 0 #[.val (.int p0), .val (.int p1), .val (.int p2), .val (.int p3), .val (.int p4), .val (.int p5), .unset, .unset, .unset, .unset, .unset, .unset, .unset, .unset, .unset, .unset, .unset, .unset, .unset, .unset, .unset, .unset, .unset, .unset, .unset, .unset, .unset, .unset] [] := by first | (simp [entryFrame, mkF, argsToLocals, Value.category, maxLocals]; done) | rfl
theorem rm0 (l : Launch) (Z : State) (a0 : Array Value) (hw : ∀ d ∈ tables_1, d.before a0 Z = true) (ws : List Jvm.Cond) (p0 : Int32) (p1 : Int32) (p2 : Int32) (p3 : Int32) (p4 : Int32) (p5 : Int32) (no_ nl nc : Addr) (kn_ : ClassId) (vn_ : List Value) (kl_ kc_ : ClassId) (vl_ vc_ : List Value) (h0 : Heap) (n0 : Nat) (Z0 : n0 ≤ h0.size) (SA_ : Sta Z Z.heap "com/example/ariel/ariel/cbor/CborSequence" "NOTHING" "[B" (.ref no_)) (SB_ : Sta Z Z.heap "com/example/ariel/ariel/cbor/CborSequence" "NO_LENGTHS" "[J" (.ref nl)) (SC_ : Sta Z Z.heap "com/example/ariel/ariel/cbor/CborSequence" "NO_CUTS" "[I" (.ref nc)) (VA_ : Arv Z Z.heap no_ kn_ .byte (0 : Int32) vn_ (.int (0 : Int32))) (VB_ : Arv Z Z.heap nl kl_ .long (0 : Int32) vl_ (.long (0 : Int64))) (VC_ : Arv Z Z.heap nc kc_ .int (0 : Int32) vc_ (.int (0 : Int32))) (O : Old Z n0 h0) :
    Met1 l x code maxLocals ret ws room_1 #[(.int p0), (.int p1), (.int p2), (.int p3), (.int p4), (.int p5)] Z h0 (RV fun z _ L => z = .int 1 ∧ Fr n0 L) := by
  refine met_of (plainFor_of_name pn_com_example_ariel_ariel_cbor_CborSequenceFootprintPinLaw) ?_
  intro p e s m below meth c T0 X0 hx hby hml hZ hown hnm hret hlk e0 es
  have N0 := Fr.nil n0
  refine Gd.cast (ef_0 m p0 p1 p2 p3 p4 p5) ?_
  replace hown : s.vm.findClass "com/example/ariel/ariel/cbor/CborSequenceFootprintPinLaw" = some m.cls := hown
  refine g_iloadN X0 hx hby i0_0 rfl ?_
  refine g_ldcInt X0 hx hby hZ hown (wd_ hw 0 rfl) i0_1 ?_
  refine g_iand X0 hx hby i0_3 ?_
  refine g_bipush X0 hx hby i0_4 (z := (18 : Int32)) (by decide) ?_
  refine g_irem X0 hx hby i0_6 (by decide) ?_
  obtain ⟨D_, hD_0, eD_⟩ := own_rem (m := 18) (own_m31 _) (by omega) (by omega)
  rw [show ((p0 &&& (2147483647 : Int32)) % (18 : Int32)) = own_i D_ from eD_]
  refine g_istore X0 hx hby i0_7 (l' := #[.val (.int p0), .val (.int p1), .val (.int p2), .val (.int p3), .val (.int p4), .val (.int p5), .val (.int (own_i D_)), .unset, .unset, .unset, .unset, .unset, .unset, .unset, .unset, .unset, .unset, .unset, .unset, .unset, .unset, .unset, .unset, .unset, .unset, .unset, .unset, .unset]) rfl ?_
  refine g_iloadN X0 hx hby i0_9 rfl ?_
  refine g_bipush X0 hx hby i0_10 (z := (8 : Int32)) (by decide) ?_
  refine g_iushr X0 hx hby i0_12 ?_
  refine g_sipush X0 hx hby i0_13 (z := (255 : Int32)) (by decide) ?_
  refine g_iand X0 hx hby i0_16 ?_
  refine g_bipush X0 hx hby i0_17 (z := (24 : Int32)) (by decide) ?_
  refine g_irem X0 hx hby i0_19 (by decide) ?_
  obtain ⟨N_, hN_0, eN_⟩ := own_rem (m := 24) (own_m8 _) (by omega) (by omega)
  rw [show ((((p0.toUInt32 >>> ((8 : Int32) &&& 31).toUInt32).toInt32) &&& (255 : Int32)) % (24 : Int32)) = own_i N_ from eN_]
  refine g_istore X0 hx hby i0_20 (l' := #[.val (.int p0), .val (.int p1), .val (.int p2), .val (.int p3), .val (.int p4), .val (.int p5), .val (.int (own_i D_)), .val (.int (own_i N_)), .unset, .unset, .unset, .unset, .unset, .unset, .unset, .unset, .unset, .unset, .unset, .unset, .unset, .unset, .unset, .unset, .unset, .unset, .unset, .unset]) rfl ?_
  refine g_iloadN X0 hx hby i0_22 rfl ?_
  refine g_ldcInt X0 hx hby hZ hown (wd_ hw 0 rfl) i0_23 ?_
  refine g_iand X0 hx hby i0_25 ?_
  refine g_iload X0 hx hby i0_26 rfl ?_
  refine g_iconst X0 hx hby i0_28 (z := (1 : Int32)) (by decide) ?_
  refine g_iadd X0 hx hby i0_29 ?_
  rw [own_isucc]
  refine g_irem X0 hx hby i0_30 (own_ne0 (by omega) (by omega)) ?_
  obtain ⟨K_, hK_0, eK_⟩ := own_rem (m := N_ + 1) (own_m31 _) (by omega) (by omega)
  rw [show ((p1 &&& (2147483647 : Int32)) % (own_i (N_ + 1))) = own_i K_ from eK_]
  refine g_istore X0 hx hby i0_31 (l' := #[.val (.int p0), .val (.int p1), .val (.int p2), .val (.int p3), .val (.int p4), .val (.int p5), .val (.int (own_i D_)), .val (.int (own_i N_)), .val (.int (own_i K_)), .unset, .unset, .unset, .unset, .unset, .unset, .unset, .unset, .unset, .unset, .unset, .unset, .unset, .unset, .unset, .unset, .unset, .unset, .unset]) rfl ?_
  refine g_iloadN X0 hx hby i0_33 rfl ?_
  refine g_ldcInt X0 hx hby hZ hown (wd_ hw 0 rfl) i0_34 ?_
  refine g_iand X0 hx hby i0_36 ?_
  refine g_bipush X0 hx hby i0_37 (z := (41 : Int32)) (by decide) ?_
  refine g_irem X0 hx hby i0_39 (by decide) ?_
  obtain ⟨M_, hM_0, eM_⟩ := own_rem (m := 41) (own_m31 _) (by omega) (by omega)
  rw [show ((p2 &&& (2147483647 : Int32)) % (41 : Int32)) = own_i M_ from eM_]
  refine g_istore X0 hx hby i0_40 (l' := #[.val (.int p0), .val (.int p1), .val (.int p2), .val (.int p3), .val (.int p4), .val (.int p5), .val (.int (own_i D_)), .val (.int (own_i N_)), .val (.int (own_i K_)), .val (.int (own_i M_)), .unset, .unset, .unset, .unset, .unset, .unset, .unset, .unset, .unset, .unset, .unset, .unset, .unset, .unset, .unset, .unset, .unset, .unset]) rfl ?_
  refine g_iloadN X0 hx hby i0_42 rfl ?_
  refine g_ldcInt X0 hx hby hZ hown (wd_ hw 0 rfl) i0_43 ?_
  refine g_iand X0 hx hby i0_45 ?_
  refine g_bipush X0 hx hby i0_46 (z := (41 : Int32)) (by decide) ?_
  refine g_irem X0 hx hby i0_48 (by decide) ?_
  obtain ⟨G_, hG_0, eG_⟩ := own_rem (m := 41) (own_m31 _) (by omega) (by omega)
  rw [show ((p3 &&& (2147483647 : Int32)) % (41 : Int32)) = own_i G_ from eG_]
  refine g_istore X0 hx hby i0_49 (l' := #[.val (.int p0), .val (.int p1), .val (.int p2), .val (.int p3), .val (.int p4), .val (.int p5), .val (.int (own_i D_)), .val (.int (own_i N_)), .val (.int (own_i K_)), .val (.int (own_i M_)), .val (.int (own_i G_)), .unset, .unset, .unset, .unset, .unset, .unset, .unset, .unset, .unset, .unset, .unset, .unset, .unset, .unset, .unset, .unset, .unset]) rfl ?_
  refine g_iloadN X0 hx hby i0_51 rfl ?_
  refine g_bipush X0 hx hby i0_52 (z := (16 : Int32)) (by decide) ?_
  refine g_iushr X0 hx hby i0_54 ?_
  refine g_iconst X0 hx hby i0_55 (z := (1 : Int32)) (by decide) ?_
  refine g_iand X0 hx hby i0_56 ?_
  refine g_if_eq X0 hx hby i0_57 (fun c57_1 => ?_) (fun c57_1 => ?_)
  · refine g_iconst X0 hx hby i0_64 (z := (0 : Int32)) (by decide) ?_
    exact sg65 l Z a0 hw hx hby hml hZ hown hret hlk n0 no_ nl nc p0 p1 p2 p3 p4 p5 (0 : Int32) (0 : Int32) D_ N_ K_ M_ G_ SA_ SB_ SC_ kn_ vn_ VA_ kl_ kc_ vl_ vc_ VB_ VC_ hD_0 hN_0 (Nat.le_of_lt_succ hK_0) (Nat.le_of_lt_succ hM_0) (Nat.le_of_lt_succ hG_0) T0 _ _ X0 e0 N0 O Z0
  · refine g_iconst X0 hx hby i0_60 (z := (1 : Int32)) (by decide) ?_
    refine g_goto X0 hx hby i0_61 ?_
    exact sg65 l Z a0 hw hx hby hml hZ hown hret hlk n0 no_ nl nc p0 p1 p2 p3 p4 p5 (1 : Int32) (0 : Int32) D_ N_ K_ M_ G_ SA_ SB_ SC_ kn_ vn_ VA_ kl_ kc_ vl_ vc_ VB_ VC_ hD_0 hN_0 (Nat.le_of_lt_succ hK_0) (Nat.le_of_lt_succ hM_0) (Nat.le_of_lt_succ hG_0) T0 _ _ X0 e0 N0 O Z0
theorem comes_1 {Post : Tables → Env → Array Value → State → Outcome → State → Prop} (hpost : ∀ tb e args s v u, (limb_1_1.after args s (.returned v) u = true ∧ limb_1_2.after args s (.returned v) u = true ∧ True) → FrameEnd s (.returned v) u (Jvm.fieldLocs frame_1_writes args s ++ Jvm.arrayLocs frame_1_arrays args s ++ Jvm.staticLocs frame_1_statics s) 32 1024 → Post tb e args s (.returned v) u) :
    ArmFor flags0 classFile x code maxLocals ret World_1 tables_1 room_1 Calls_1 rest_1 Pre_1 Post := by
  intro l hfl _ _ p e ha hc hk s m args below hf hA hF happ hP
  obtain ⟨hcalls, hrest, hpre⟩ := hP
  obtain ⟨-, -, -, hnamed, -, -, -, hat⟩ := (Spec.applies_iff hf).mp happ
  obtain ⟨hg, hn⟩ := and_e (Cond.before_iff.mp (show (Jvm.Cond.and given_1 narrow_1).before args s = true from hpre))
  obtain ⟨hcount, g0⟩ := and_e hg
  obtain ⟨a0, g1⟩ := and_e g0
  obtain ⟨a1, g2⟩ := and_e g1
  obtain ⟨a2, g3⟩ := and_e g2
  obtain ⟨a3, g4⟩ := and_e g3
  obtain ⟨a4, g5⟩ := and_e g4
  obtain ⟨w0, w1, w2, w3, w4, w5, rfl⟩ : ∃ w0 w1 w2 w3 w4 w5 : Value, args = #[w0, w1, w2, w3, w4, w5] := by
    have hs : args.size = 6 := by simpa [Cond.value, given_1] using hcount
    obtain ⟨L⟩ := args
    match L, hs with
    | [w0, w1, w2, w3, w4, w5], _ => exact ⟨w0, w1, w2, w3, w4, w5, rfl⟩
  have hw := fun d (hd : d ∈ tables_1) => atoms_spec (ws := Jvm.Cond.code x code maxLocals ret :: tables_1) hat d (List.mem_cons_of_mem _ hd)
  have hfit : Fit s := fun {y c} hc i hi => by
    obtain ⟨ha, rfl⟩ := Array.getElem?_eq_some_iff.mp hc
    have q := List.all_eq_true.mp ((Array.all_eq_true_iff_forall_mem.mp hF) _ (Array.getElem_mem ha)) i (List.mem_range.mpr hi)
    simpa [Array.getElem?_eq_getElem hi] using q
  obtain ⟨i0, ei0⟩ := is_v a0
  obtain rfl : w0 = (.int i0) := Option.some.inj ei0
  obtain ⟨i1, ei1⟩ := is_v a1
  obtain rfl : w1 = (.int i1) := Option.some.inj ei1
  obtain ⟨i2, ei2⟩ := is_v a2
  obtain rfl : w2 = (.int i2) := Option.some.inj ei2
  obtain ⟨i3, ei3⟩ := is_v a3
  obtain rfl : w3 = (.int i3) := Option.some.inj ei3
  obtain ⟨i4, ei4⟩ := is_v a4
  obtain rfl : w4 = (.int i4) := Option.some.inj ei4
  obtain ⟨i5, ei5⟩ := is_v g5
  obtain rfl : w5 = (.int i5) := Option.some.inj ei5
  obtain ⟨y0, hn⟩ := and_e hn
  obtain ⟨y1, hn⟩ := and_e hn
  obtain ⟨y2, hn⟩ := and_e hn
  obtain ⟨y3, hn⟩ := and_e hn
  obtain ⟨y4, hn⟩ := and_e hn
  obtain ⟨y5, y6⟩ := and_e hn
  obtain ⟨adA, evA⟩ := len_v (eqv_i (Term.int_eval (0)) y2)
  obtain ⟨cA, AA, lA, eA, haA⟩ := own_arr evA y0 y2
  have VA := Arv.start (vs := []) (dv := (.int (0 : Int32))) hfit AA lA eA (by decide) (by decide) trivial
  obtain ⟨adB, evB⟩ := len_v (eqv_i (Term.int_eval (0)) y4)
  obtain ⟨cB, AB, lB, eB, haB⟩ := own_arr evB y3 y4
  have VB := Arv.start (vs := []) (dv := (.long (0 : Int64))) hfit AB lB eB (by decide) (by decide) trivial
  obtain ⟨adC, evC⟩ := len_v (eqv_i (Term.int_eval (0)) y6)
  obtain ⟨cC, AC, lC, eC, haC⟩ := own_arr evC y5 y6
  have VC := Arv.start (vs := []) (dv := (.int (0 : Int32))) hfit AC lC eC (by decide) (by decide) trivial
  obtain ⟨n, o, h1, h2, h3, _, L, rfl, ⟨_, rfl, rfl, N⟩, hq⟩ := rm0 l s _ hw tables_1 i0 i1 i2 i3 i4 i5 adA adB adC _ _ _ _ _ _ s.heap s.heap.size (Nat.le_refl _) (Sta.start evA (Or.inr ⟨(wd_ hw 4 rfl), (wd_ hw 19 rfl)⟩)) (Sta.start evB (Or.inr ⟨(wd_ hw 4 rfl), (wd_ hw 31 rfl)⟩)) (Sta.start evC (Or.inr ⟨(wd_ hw 4 rfl), (wd_ hw 35 rfl)⟩)) VA VB VC (Old.start s) p e ha hc hk s m _ below hf ((Spec.applies_iff_loose hf).mp happ).1 ⟨rfl, State.Warmed39.refl s, rfl⟩ trivial
  refine ⟨n, _, h1, h2, h3, hpost _ _ _ _ _ _ ⟨Cond.after_iff.mpr rfl, Cond.after_iff.mpr (eq_i res_at (Term.int_eval (1)) rfl), trivial⟩ ⟨hq.1, hq.2.1, (hq.2.2.sift fun y hy => Or.inr (N y hy)).mono (by decide) (by decide)⟩⟩
theorem main_1_1 : Claimed_1_1 := comes_1 fun _ _ _ _ _ _ h hF => ⟨h.1, hF⟩
theorem main_1_2 : Claimed_1_2 := comes_1 fun _ _ _ _ _ _ h hF => ⟨h.2.1, hF⟩
end Jvm.Pilot.@@N@@
namespace Jvm.Pilot.@@N@@
open Jvm Jvm.ClassFile Sem Op Lib Jvm.Free Jvm.Stand Jvm.Pilot.@@N@@.Jvm.D
/-! MADE BY PROGRAM (witnessworld.py) out of the Statement's table words and the real class files: 25 classes; the members and pool entries that the words name. The judged class is class 1, her method 1. -/
namespace start1
open Jvm.ClassFile
def u (s : String) : CpInfo := .utf8 (stringToUtf16 s)
/-- a pool by its gaps: so many unusable entries, then the entry; so many at the end -/
def gap : Nat → List CpInfo → List CpInfo
  | 0, r => r
  | n + 1, r => .unusable :: gap n r
def poolList (es : List (Nat × CpInfo)) (last : Nat) : List CpInfo := es.foldr (fun e r => gap e.1 (e.2 :: r)) (gap last [])
def pool (es : List (Nat × CpInfo)) (last : Nat) : Array CpInfo := ⟨poolList es last⟩
def fileOf (pool : Array CpInfo) (this : Nat) (attrs : Array Attribute := #[]) (ms : Array MethodInfo := #[]) (fl : Nat := 33) (sup : Nat := 0) (ifs : Array Nat := #[]) (fds : Array FieldInfo := #[]) : ClassFile where
  minorVersion := 0
  majorVersion := 65
  constantPool := pool
  accessFlags := fl
  thisClass := this
  superClass := sup
  interfaces := ifs
  fields := fds
  methods := ms
  attributes := attrs
def plain (name : String) (sup : Option ClassId) : Class where
  name := name
  kind := .ordinary
  loader := none
  accessFlags := 33
  super := sup
  interfaces := #[]
  cf := none
  fields := #[]
  methods := #[]
  instanceTypes := #[]
  staticTypes := #[]
  resolved := #[]
  callSites := []
  init := .initialized
  statics := none
  mirror := none

def pool0 : Array CpInfo := pool [(5, u "<init>"), (0, u "()V"), (1, .class_ 10), (1, u "java/lang/Object")] 113

def k0c0 : Code := { maxStack := 0, maxLocals := 1, code := object_method_1_code, exceptionTable := #[], attributes := #[] }
def k0m0 : Method := { name := "<init>", desc := "()V", sig := { parameters := [], returnType := none }, accessFlags := 1, code := some k0c0 }
/-- java/lang/Object -/
def k0 : Class := { plain "java/lang/Object" none with
  accessFlags := 33
  interfaces := #[]
  cf := some (fileOf pool0 8 #[] #[{ accessFlags := 1, nameIndex := 5, descriptorIndex := 6, attributes := #[] }] 33 0 #[] #[])
  fields := #[]
  methods := #[k0m0]
  instanceTypes := #[]
  staticTypes := #[]
  resolved := Array.replicate 124 none
  statics := none }

def pool1 : Array CpInfo := pool [(2, .class_ 4), (1, u "java/lang/Object"), (0, u "<init>"), (0, u "()V"), (0, .integer 2147483647), (0, .class_ 9), (0, u "com/example/ariel/ariel/cbor/CborSequence"), (0, .methodref 11 12), (0, .class_ 13), (0, .nameAndType 14 15), (0, u "java/lang/Math"), (0, u "max"), (0, u "(II)I"), (0, .methodref 8 17), (0, .nameAndType 5 18), (0, u "(II)V"), (0, .methodref 8 20), (0, .nameAndType 21 22), (0, u "append"), (0, u "([BII)V"), (0, .methodref 8 24), (0, .nameAndType 25 26), (0, u "next"), (0, u "()Lcom/example/ariel/ariel/cbor/CborValue;"), (0, .long 96), (1, .long 288), (1, .methodref 8 32), (0, .nameAndType 33 6), (0, u "detach"), (0, .long 2), (1, .methodref 8 37), (0, .nameAndType 38 39), (0, u "footprint"), (0, u "()J"), (0, .methodref 11 41), (0, .nameAndType 14 42), (0, u "(JJ)J"), (0, .class_ 44), (0, u "com/example/ariel/ariel/cbor/CborSequenceFootprintPinLaw"), (2, u "law"), (0, u "(IIIIII)Z")] 8

def k1m0 : Method := { name := "<init>", desc := "()V", sig := { parameters := [], returnType := none }, accessFlags := 1, code := none }
def k1c1 : Code := { maxStack := 6, maxLocals := 28, code := code, exceptionTable := #[], attributes := #[] }
def k1m1 : Method := { name := "law", desc := "(IIIIII)Z", sig := { parameters := [.int, .int, .int, .int, .int, .int], returnType := some .boolean }, accessFlags := 9, code := some k1c1 }
/-- com/example/ariel/ariel/cbor/CborSequenceFootprintPinLaw -/
def k1 : Class := { plain "com/example/ariel/ariel/cbor/CborSequenceFootprintPinLaw" (some 0) with
  accessFlags := 49
  interfaces := #[]
  cf := some (fileOf pool1 43 #[] #[{ accessFlags := 1, nameIndex := 5, descriptorIndex := 6, attributes := #[] }, { accessFlags := 9, nameIndex := 47, descriptorIndex := 48, attributes := #[] }] 49 2 #[] #[])
  fields := #[]
  methods := #[k1m0, k1m1]
  instanceTypes := #[]
  staticTypes := #[]
  resolved := Array.replicate 57 none
  statics := none }

def pool2 : Array CpInfo := pool [(5, .class_ 7), (1, u "com/example/ariel/ariel/cbor/CborSequence"), (0, u "<init>"), (0, u "(I)V"), (2, u "(II)V"), (0, .methodref 5 14), (0, .nameAndType 8 15), (0, u "(IIZ)V"), (0, .methodref 17 18), (0, .class_ 19), (0, .nameAndType 8 20), (0, u "java/lang/Object"), (0, u "()V"), (0, .fieldref 5 22), (0, .nameAndType 23 24), (0, u "NOTHING"), (0, u "[B"), (0, .fieldref 5 26), (0, .nameAndType 27 24), (0, u "buffer"), (0, .fieldref 5 29), (0, .nameAndType 30 24), (0, u "own"), (0, .fieldref 5 32), (0, .nameAndType 33 34), (0, u "owed"), (0, u "[J"), (0, .fieldref 5 36), (0, .nameAndType 37 38), (0, u "untilBreak"), (0, u "[I"), (0, .fieldref 5 40), (0, .nameAndType 41 34), (0, u "NO_LENGTHS"), (0, .fieldref 5 43), (0, .nameAndType 44 34), (0, u "chunkedLengths"), (0, .fieldref 5 46), (0, .nameAndType 47 38), (0, u "NO_CUTS"), (0, .fieldref 5 49), (0, .nameAndType 50 38), (0, u "cuts"), (9, .methodref 61 62), (0, .class_ 63), (0, .nameAndType 64 9), (0, u "com/example/ariel/ariel/cbor/CborReader"), (0, u "checkMaxItems"), (0, .fieldref 5 66), (0, .nameAndType 67 68), (0, u "maxItemLength"), (0, u "I"), (0, .fieldref 5 70), (0, .nameAndType 71 68), (0, u "maxItems"), (0, .fieldref 5 73), (0, .nameAndType 74 75), (0, u "abridged"), (0, u "Z"), (2, u "append"), (0, u "([BII)V"), (0, .fieldref 5 81), (0, .nameAndType 82 68), (0, u "end"), (0, .fieldref 5 84), (0, .nameAndType 85 68), (0, u "start"), (0, .fieldref 5 87), (0, .nameAndType 88 68), (0, u "dropped"), (0, .methodref 90 91), (0, .class_ 92), (0, .nameAndType 93 94), (0, u "java/lang/Math"), (0, u "max"), (0, u "(II)I"), (0, .methodref 5 96), (0, .nameAndType 97 98), (0, u "moveHeldTo"), (0, u "([B)V"), (0, .methodref 100 101), (0, .class_ 102), (0, .nameAndType 103 104), (0, u "java/lang/System"), (0, u "arraycopy"), (0, u "(Ljava/lang/Object;ILjava/lang/Object;II)V"), (0, .methodref 5 106), (0, .nameAndType 107 108), (0, u "pending"), (0, u "()I"), (0, .methodref 5 110), (0, .nameAndType 111 112), (0, u "inByteString"), (0, u "()Z"), (5, .methodref 5 119), (0, .nameAndType 120 121), (0, u "nextWhole"), (0, u "()Lcom/example/ariel/ariel/cbor/CborValue;"), (0, .fieldref 5 123), (0, .nameAndType 124 68), (0, u "scanned"), (0, .fieldref 5 126), (0, .nameAndType 127 128), (0, u "pieceLeft"), (0, u "J"), (0, .methodref 130 131), (0, .class_ 132), (0, .nameAndType 133 134), (0, u "java/lang/Long"), (0, u "compareUnsigned"), (0, u "(JJ)I"), (0, .fieldref 5 136), (0, .nameAndType 137 75), (0, u "inChunks"), (1, .class_ 141), (1, u "com/example/ariel/ariel/cbor/CborSequence$ByteStringSink"), (7, .methodref 61 150), (0, .nameAndType 151 9), (0, u "checkInitialByte"), (0, .methodref 61 153), (0, .nameAndType 154 155), (0, u "argumentSize"), (0, u "(I)I"), (4, .long 4), (1, .long 8), (1, .long 12), (1, .methodref 5 167), (0, .nameAndType 168 112), (0, u "scan"), (0, .methodref 5 170), (0, .nameAndType 171 9), (0, u "checkHeld"), (0, .fieldref 5 173), (0, .nameAndType 174 68), (0, u "cutCount"), (0, .methodref 5 176), (0, .nameAndType 177 178), (0, u "copyHeld"), (0, u "(I[B)I"), (0, .methodref 5 180), (0, .nameAndType 181 20), (0, u "dropCuts"), (0, .methodref 61 183), (0, .nameAndType 8 184), (0, u "([BIIIZ[J)V"), (0, .methodref 61 186), (0, .nameAndType 187 121), (0, u "read"), (0, .fieldref 5 189), (0, .nameAndType 190 68), (0, u "chunkedCount"), (0, .fieldref 5 192), (0, .nameAndType 193 128), (0, u "stringLeft"), (0, .fieldref 5 195), (0, .nameAndType 196 128), (0, u "keepLeft"), (3, .methodref 5 201), (0, .nameAndType 202 112), (0, u "itemDone"), (0, .fieldref 5 204), (0, .nameAndType 205 68), (0, u "depth"), (3, .fieldref 5 210), (0, .nameAndType 211 128), (0, u "chunksLength"), (4, .fieldref 5 217), (0, .nameAndType 218 68), (0, u "stringKept"), (0, .methodref 61 220), (0, .nameAndType 221 9), (0, u "checkDepth"), (0, .methodref 5 223), (0, .nameAndType 224 225), (0, u "open"), (0, u "(IJ)V"), (0, .methodref 5 227), (0, .nameAndType 228 229), (0, u "kept"), (0, u "(J)J"), (0, .long 4611686018427387903), (1, .long 18446744073709551615), (1, .long 2), (13, .methodref 249 250), (0, .class_ 251), (0, .nameAndType 252 253), (0, u "java/util/Arrays"), (0, u "copyOf"), (0, u "([JI)[J"), (0, .methodref 249 255), (0, .nameAndType 252 256), (0, u "([II)[I"), (0, u "LEVELS"), (2, u "DEFINITE"), (6, u "detach"), (0, u "next"), (4, u "footprint"), (0, u "()J")] 24

def k2m0 : Method := { name := "<init>", desc := "()V", sig := { parameters := [], returnType := none }, accessFlags := 1, code := none }
def k2c1 : Code := { maxStack := 4, maxLocals := 3, code := prog_32_method_3_code, exceptionTable := #[], attributes := #[] }
def k2m1 : Method := { name := "<init>", desc := "(II)V", sig := { parameters := [.int, .int], returnType := none }, accessFlags := 1, code := some k2c1 }
def k2c2 : Code := { maxStack := 3, maxLocals := 4, code := prog_32_method_4_code, exceptionTable := #[], attributes := #[] }
def k2m2 : Method := { name := "<init>", desc := "(IIZ)V", sig := { parameters := [.int, .int, .boolean], returnType := none }, accessFlags := 2, code := some k2c2 }
def k2c3 : Code := { maxStack := 5, maxLocals := 6, code := prog_32_method_7_code, exceptionTable := #[], attributes := #[] }
def k2m3 : Method := { name := "append", desc := "([BII)V", sig := { parameters := [(.array .byte), .int, .int], returnType := none }, accessFlags := 1, code := some k2c3 }
def k2c4 : Code := { maxStack := 3, maxLocals := 2, code := prog_32_method_8_code, exceptionTable := #[], attributes := #[] }
def k2m4 : Method := { name := "detach", desc := "()V", sig := { parameters := [], returnType := none }, accessFlags := 1, code := some k2c4 }
def k2c5 : Code := { maxStack := 3, maxLocals := 1, code := prog_32_method_9_code, exceptionTable := #[], attributes := #[] }
def k2m5 : Method := { name := "next", desc := "()Lcom/example/ariel/ariel/cbor/CborValue;", sig := { parameters := [], returnType := some (.object "com/example/ariel/ariel/cbor/CborValue") }, accessFlags := 1, code := some k2c5 }
def k2c6 : Code := { maxStack := 2, maxLocals := 1, code := prog_32_method_11_code, exceptionTable := #[], attributes := #[] }
def k2m6 : Method := { name := "pending", desc := "()I", sig := { parameters := [], returnType := some .int }, accessFlags := 1, code := some k2c6 }
def k2c7 : Code := { maxStack := 4, maxLocals := 1, code := prog_32_method_12_code, exceptionTable := #[], attributes := #[] }
def k2m7 : Method := { name := "inByteString", desc := "()Z", sig := { parameters := [], returnType := some .boolean }, accessFlags := 1, code := some k2c7 }
def k2c8 : Code := { maxStack := 6, maxLocals := 1, code := prog_32_method_13_code, exceptionTable := #[], attributes := #[] }
def k2m8 : Method := { name := "footprint", desc := "()J", sig := { parameters := [], returnType := some .long }, accessFlags := 1, code := some k2c8 }
def k2c9 : Code := { maxStack := 8, maxLocals := 6, code := prog_32_method_14_code, exceptionTable := #[], attributes := #[] }
def k2m9 : Method := { name := "nextWhole", desc := "()Lcom/example/ariel/ariel/cbor/CborValue;", sig := { parameters := [], returnType := some (.object "com/example/ariel/ariel/cbor/CborValue") }, accessFlags := 2, code := some k2c9 }
def k2c10 : Code := { maxStack := 5, maxLocals := 10, code := prog_32_method_15_code, exceptionTable := #[], attributes := #[] }
def k2m10 : Method := { name := "scan", desc := "()Z", sig := { parameters := [], returnType := some .boolean }, accessFlags := 2, code := some k2c10 }
def k2c11 : Code := { maxStack := 3, maxLocals := 2, code := prog_32_method_16_code, exceptionTable := #[], attributes := #[] }
def k2m11 : Method := { name := "checkHeld", desc := "(I)V", sig := { parameters := [.int], returnType := none }, accessFlags := 2, code := some k2c11 }
def k2c12 : Code := { maxStack := 4, maxLocals := 5, code := prog_32_method_17_code, exceptionTable := #[], attributes := #[] }
def k2m12 : Method := { name := "kept", desc := "(J)J", sig := { parameters := [.long], returnType := some .long }, accessFlags := 2, code := some k2c12 }
def k2c13 : Code := { maxStack := 6, maxLocals := 6, code := prog_32_method_21_code, exceptionTable := #[], attributes := #[] }
def k2m13 : Method := { name := "copyHeld", desc := "(I[B)I", sig := { parameters := [.int, (.array .byte)], returnType := some .int }, accessFlags := 2, code := some k2c13 }
def k2c14 : Code := { maxStack := 2, maxLocals := 1, code := prog_32_method_22_code, exceptionTable := #[], attributes := #[] }
def k2m14 : Method := { name := "dropCuts", desc := "()V", sig := { parameters := [], returnType := none }, accessFlags := 2, code := some k2c14 }
def k2c15 : Code := { maxStack := 4, maxLocals := 2, code := prog_32_method_23_code, exceptionTable := #[], attributes := #[] }
def k2m15 : Method := { name := "moveHeldTo", desc := "([B)V", sig := { parameters := [(.array .byte)], returnType := none }, accessFlags := 2, code := some k2c15 }
def k2c16 : Code := { maxStack := 5, maxLocals := 4, code := prog_32_method_24_code, exceptionTable := #[], attributes := #[] }
def k2m16 : Method := { name := "open", desc := "(IJ)V", sig := { parameters := [.int, .long], returnType := none }, accessFlags := 2, code := some k2c16 }
def k2c17 : Code := { maxStack := 6, maxLocals := 1, code := prog_32_method_25_code, exceptionTable := #[], attributes := #[] }
def k2m17 : Method := { name := "itemDone", desc := "()Z", sig := { parameters := [], returnType := some .boolean }, accessFlags := 2, code := some k2c17 }
/-- com/example/ariel/ariel/cbor/CborSequence -/
def k2 : Class := { plain "com/example/ariel/ariel/cbor/CborSequence" (some 0) with
  accessFlags := 49
  interfaces := #[]
  cf := some (fileOf pool2 5 #[.nestMembers #[139]] #[{ accessFlags := 1, nameIndex := 8, descriptorIndex := 20, attributes := #[] }, { accessFlags := 1, nameIndex := 8, descriptorIndex := 12, attributes := #[] }, { accessFlags := 2, nameIndex := 8, descriptorIndex := 15, attributes := #[] }, { accessFlags := 1, nameIndex := 78, descriptorIndex := 79, attributes := #[] }, { accessFlags := 1, nameIndex := 267, descriptorIndex := 20, attributes := #[] }, { accessFlags := 1, nameIndex := 268, descriptorIndex := 121, attributes := #[] }, { accessFlags := 1, nameIndex := 107, descriptorIndex := 108, attributes := #[] }, { accessFlags := 1, nameIndex := 111, descriptorIndex := 112, attributes := #[] }, { accessFlags := 1, nameIndex := 273, descriptorIndex := 274, attributes := #[] }, { accessFlags := 2, nameIndex := 120, descriptorIndex := 121, attributes := #[] }, { accessFlags := 2, nameIndex := 168, descriptorIndex := 112, attributes := #[] }, { accessFlags := 2, nameIndex := 171, descriptorIndex := 9, attributes := #[] }, { accessFlags := 2, nameIndex := 228, descriptorIndex := 229, attributes := #[] }, { accessFlags := 2, nameIndex := 177, descriptorIndex := 178, attributes := #[] }, { accessFlags := 2, nameIndex := 181, descriptorIndex := 20, attributes := #[] }, { accessFlags := 2, nameIndex := 97, descriptorIndex := 98, attributes := #[] }, { accessFlags := 2, nameIndex := 224, descriptorIndex := 225, attributes := #[] }, { accessFlags := 2, nameIndex := 202, descriptorIndex := 112, attributes := #[] }] 49 17 #[] #[{ accessFlags := 26, nameIndex := 23, descriptorIndex := 24, attributes := #[] }, { accessFlags := 26, nameIndex := 41, descriptorIndex := 34, attributes := #[] }, { accessFlags := 26, nameIndex := 47, descriptorIndex := 38, attributes := #[] }, { accessFlags := 26, nameIndex := 257, descriptorIndex := 68, attributes := #[] }, { accessFlags := 26, nameIndex := 260, descriptorIndex := 68, attributes := #[] }, { accessFlags := 18, nameIndex := 67, descriptorIndex := 68, attributes := #[] }, { accessFlags := 18, nameIndex := 71, descriptorIndex := 68, attributes := #[] }, { accessFlags := 18, nameIndex := 74, descriptorIndex := 75, attributes := #[] }, { accessFlags := 2, nameIndex := 27, descriptorIndex := 24, attributes := #[] }, { accessFlags := 2, nameIndex := 30, descriptorIndex := 24, attributes := #[] }, { accessFlags := 2, nameIndex := 85, descriptorIndex := 68, attributes := #[] }, { accessFlags := 2, nameIndex := 82, descriptorIndex := 68, attributes := #[] }, { accessFlags := 2, nameIndex := 124, descriptorIndex := 68, attributes := #[] }, { accessFlags := 2, nameIndex := 33, descriptorIndex := 34, attributes := #[] }, { accessFlags := 2, nameIndex := 37, descriptorIndex := 38, attributes := #[] }, { accessFlags := 2, nameIndex := 205, descriptorIndex := 68, attributes := #[] }, { accessFlags := 2, nameIndex := 193, descriptorIndex := 128, attributes := #[] }, { accessFlags := 2, nameIndex := 196, descriptorIndex := 128, attributes := #[] }, { accessFlags := 2, nameIndex := 218, descriptorIndex := 68, attributes := #[] }, { accessFlags := 2, nameIndex := 211, descriptorIndex := 128, attributes := #[] }, { accessFlags := 2, nameIndex := 44, descriptorIndex := 34, attributes := #[] }, { accessFlags := 2, nameIndex := 190, descriptorIndex := 68, attributes := #[] }, { accessFlags := 2, nameIndex := 50, descriptorIndex := 38, attributes := #[] }, { accessFlags := 2, nameIndex := 174, descriptorIndex := 68, attributes := #[] }, { accessFlags := 2, nameIndex := 88, descriptorIndex := 68, attributes := #[] }, { accessFlags := 2, nameIndex := 127, descriptorIndex := 128, attributes := #[] }, { accessFlags := 2, nameIndex := 137, descriptorIndex := 75, attributes := #[] }])
  fields := #[{ name := "NOTHING", type := (.array .byte), accessFlags := 26, slot := 0, constantValue := 0 }, { name := "NO_LENGTHS", type := (.array .long), accessFlags := 26, slot := 1, constantValue := 0 }, { name := "NO_CUTS", type := (.array .int), accessFlags := 26, slot := 2, constantValue := 0 }, { name := "LEVELS", type := .int, accessFlags := 26, slot := 3, constantValue := 0 }, { name := "DEFINITE", type := .int, accessFlags := 26, slot := 4, constantValue := 0 }, { name := "maxItemLength", type := .int, accessFlags := 18, slot := 0, constantValue := 0 }, { name := "maxItems", type := .int, accessFlags := 18, slot := 1, constantValue := 0 }, { name := "abridged", type := .boolean, accessFlags := 18, slot := 2, constantValue := 0 }, { name := "buffer", type := (.array .byte), accessFlags := 2, slot := 3, constantValue := 0 }, { name := "own", type := (.array .byte), accessFlags := 2, slot := 4, constantValue := 0 }, { name := "start", type := .int, accessFlags := 2, slot := 5, constantValue := 0 }, { name := "end", type := .int, accessFlags := 2, slot := 6, constantValue := 0 }, { name := "scanned", type := .int, accessFlags := 2, slot := 7, constantValue := 0 }, { name := "owed", type := (.array .long), accessFlags := 2, slot := 8, constantValue := 0 }, { name := "untilBreak", type := (.array .int), accessFlags := 2, slot := 9, constantValue := 0 }, { name := "depth", type := .int, accessFlags := 2, slot := 10, constantValue := 0 }, { name := "stringLeft", type := .long, accessFlags := 2, slot := 11, constantValue := 0 }, { name := "keepLeft", type := .long, accessFlags := 2, slot := 12, constantValue := 0 }, { name := "stringKept", type := .int, accessFlags := 2, slot := 13, constantValue := 0 }, { name := "chunksLength", type := .long, accessFlags := 2, slot := 14, constantValue := 0 }, { name := "chunkedLengths", type := (.array .long), accessFlags := 2, slot := 15, constantValue := 0 }, { name := "chunkedCount", type := .int, accessFlags := 2, slot := 16, constantValue := 0 }, { name := "cuts", type := (.array .int), accessFlags := 2, slot := 17, constantValue := 0 }, { name := "cutCount", type := .int, accessFlags := 2, slot := 18, constantValue := 0 }, { name := "dropped", type := .int, accessFlags := 2, slot := 19, constantValue := 0 }, { name := "pieceLeft", type := .long, accessFlags := 2, slot := 20, constantValue := 0 }, { name := "inChunks", type := .boolean, accessFlags := 2, slot := 21, constantValue := 0 }]
  methods := #[k2m0, k2m1, k2m2, k2m3, k2m4, k2m5, k2m6, k2m7, k2m8, k2m9, k2m10, k2m11, k2m12, k2m13, k2m14, k2m15, k2m16, k2m17]
  instanceTypes := #[.int, .int, .boolean, (.array .byte), (.array .byte), .int, .int, .int, (.array .long), (.array .int), .int, .long, .long, .int, .long, (.array .long), .int, (.array .int), .int, .int, .long, .boolean]
  staticTypes := #[(.array .byte), (.array .long), (.array .int), .int, .int]
  resolved := Array.replicate 299 none
  statics := some 0 }

def pool3 : Array CpInfo := pool [(1, .class_ 2), (0, u "java/lang/Math"), (1, .class_ 6), (1, u "java/lang/Object"), (0, u "<init>"), (0, u "()V"), (89, .class_ 100), (1, u "java/lang/Math$RandomNumberGeneratorHolder"), (20, u "(JJ)J"), (50, u "negativeZeroFloatBits"), (0, u "J"), (2, u "negativeZeroDoubleBits"), (21, u "max"), (2, u "min"), (43, u "$assertionsDisabled"), (0, u "Z"), (88, u "(II)I"), (2, u "twoToTheDoubleScaleDown"), (0, u "D"), (4, u "twoToTheDoubleScaleUp"), (9, u "E"), (3, u "PI"), (2, u "TAU"), (2, u "DEGREES_TO_RADIANS"), (0, u "RADIANS_TO_DEGREES")] 94

def k3m0 : Method := { name := "<init>", desc := "()V", sig := { parameters := [], returnType := none }, accessFlags := 2, code := none }
def k3c1 : Code := { maxStack := 2, maxLocals := 2, code := jdk_29_method_65_code, exceptionTable := #[], attributes := #[] }
def k3m1 : Method := { name := "max", desc := "(II)I", sig := { parameters := [.int, .int], returnType := some .int }, accessFlags := 9, code := some k3c1 }
def k3c2 : Code := { maxStack := 4, maxLocals := 4, code := jdk_29_method_66_code, exceptionTable := #[], attributes := #[] }
def k3m2 : Method := { name := "max", desc := "(JJ)J", sig := { parameters := [.long, .long], returnType := some .long }, accessFlags := 9, code := some k3c2 }
def k3c3 : Code := { maxStack := 2, maxLocals := 2, code := jdk_29_method_69_code, exceptionTable := #[], attributes := #[] }
def k3m3 : Method := { name := "min", desc := "(II)I", sig := { parameters := [.int, .int], returnType := some .int }, accessFlags := 9, code := some k3c3 }
/-- java/lang/Math -/
def k3 : Class := { plain "java/lang/Math" (some 0) with
  accessFlags := 49
  interfaces := #[]
  cf := some (fileOf pool3 1 #[.nestMembers #[98]] #[{ accessFlags := 2, nameIndex := 7, descriptorIndex := 8, attributes := #[] }, { accessFlags := 9, nameIndex := 198, descriptorIndex := 335, attributes := #[] }, { accessFlags := 9, nameIndex := 198, descriptorIndex := 121, attributes := #[] }, { accessFlags := 9, nameIndex := 201, descriptorIndex := 335, attributes := #[] }] 49 4 #[] #[{ accessFlags := 25, nameIndex := 354, descriptorIndex := 339, attributes := #[] }, { accessFlags := 25, nameIndex := 358, descriptorIndex := 339, attributes := #[] }, { accessFlags := 25, nameIndex := 361, descriptorIndex := 339, attributes := #[] }, { accessFlags := 26, nameIndex := 364, descriptorIndex := 339, attributes := #[] }, { accessFlags := 26, nameIndex := 365, descriptorIndex := 339, attributes := #[] }, { accessFlags := 26, nameIndex := 172, descriptorIndex := 173, attributes := #[] }, { accessFlags := 26, nameIndex := 176, descriptorIndex := 173, attributes := #[] }, { accessFlags := 8, nameIndex := 344, descriptorIndex := 339, attributes := #[] }, { accessFlags := 8, nameIndex := 338, descriptorIndex := 339, attributes := #[] }, { accessFlags := 4120, nameIndex := 245, descriptorIndex := 246, attributes := #[] }])
  fields := #[{ name := "E", type := .double, accessFlags := 25, slot := 0, constantValue := 0 }, { name := "PI", type := .double, accessFlags := 25, slot := 1, constantValue := 0 }, { name := "TAU", type := .double, accessFlags := 25, slot := 2, constantValue := 0 }, { name := "DEGREES_TO_RADIANS", type := .double, accessFlags := 26, slot := 3, constantValue := 0 }, { name := "RADIANS_TO_DEGREES", type := .double, accessFlags := 26, slot := 4, constantValue := 0 }, { name := "negativeZeroFloatBits", type := .long, accessFlags := 26, slot := 5, constantValue := 0 }, { name := "negativeZeroDoubleBits", type := .long, accessFlags := 26, slot := 6, constantValue := 0 }, { name := "twoToTheDoubleScaleUp", type := .double, accessFlags := 8, slot := 7, constantValue := 0 }, { name := "twoToTheDoubleScaleDown", type := .double, accessFlags := 8, slot := 8, constantValue := 0 }, { name := "$assertionsDisabled", type := .boolean, accessFlags := 4120, slot := 9, constantValue := 0 }]
  methods := #[k3m0, k3m1, k3m2, k3m3]
  instanceTypes := #[]
  staticTypes := #[.double, .double, .double, .double, .double, .long, .long, .double, .double, .boolean]
  resolved := Array.replicate 460 none
  statics := none }

def pool4 : Array CpInfo := pool [(5, .class_ 7), (1, u "com/example/ariel/ariel/cbor/CborReader"), (0, u "<init>"), (3, u "([BIIIZ[J)V"), (0, .methodref 14 15), (0, .class_ 16), (0, .nameAndType 8 17), (0, u "java/lang/Object"), (0, u "()V"), (0, .methodref 19 20), (0, .class_ 21), (0, .nameAndType 22 23), (0, u "java/util/Objects"), (0, u "checkFromIndexSize"), (0, u "(III)I"), (0, .methodref 5 25), (0, .nameAndType 26 27), (0, u "checkMaxItems"), (0, u "(I)V"), (0, .fieldref 5 29), (0, .nameAndType 30 31), (0, u "source"), (0, u "[B"), (0, .fieldref 5 33), (0, .nameAndType 34 35), (0, u "position"), (0, u "I"), (0, .fieldref 5 37), (0, .nameAndType 38 35), (0, u "limit"), (0, .fieldref 5 40), (0, .nameAndType 41 35), (0, u "maxItems"), (0, .fieldref 5 43), (0, .nameAndType 44 45), (0, u "abridged"), (0, u "Z"), (0, .fieldref 5 47), (0, .nameAndType 48 49), (0, u "chunkedLengths"), (0, u "[J"), (6, u "read"), (0, u "()Lcom/example/ariel/ariel/cbor/CborValue;"), (19, .fieldref 5 78), (0, .nameAndType 79 35), (0, u "itemsLeft"), (0, .methodref 5 81), (0, .nameAndType 82 83), (0, u "item"), (0, u "(I)Lcom/example/ariel/ariel/cbor/CborValue;"), (0, .class_ 85), (0, u "com/example/ariel/ariel/cbor/CborReader$Truncated"), (2, u "TRUNCATED"), (0, u "Lcom/example/ariel/ariel/cbor/CborReader$Truncated;"), (0, .methodref 5 91), (0, .nameAndType 92 27), (0, u "checkInitialByte"), (0, .methodref 5 94), (0, .nameAndType 95 17), (0, u "takeItem"), (4, .methodref 5 101), (0, .nameAndType 102 103), (0, u "argument"), (0, u "(I)J"), (23, .methodref 5 128), (0, .nameAndType 129 130), (0, u "present"), (0, u "(JI)J"), (0, .methodref 5 132), (0, .nameAndType 133 134), (0, u "take"), (0, u "(J)[B"), (0, .methodref 5 136), (0, .nameAndType 137 138), (0, u "byteString"), (0, u "([BJ)Lcom/example/ariel/ariel/cbor/CborValue;"), (18, .methodref 5 158), (0, .nameAndType 159 27), (0, u "checkDepth"), (14, .long 32), (50, u "([B)V"), (6, u "chunkedRead"), (26, .methodref 260 261), (0, .class_ 262), (0, .nameAndType 263 264), (0, u "java/lang/Long"), (0, u "compareUnsigned"), (0, u "(JJ)I"), (0, .class_ 266), (0, u "com/example/ariel/ariel/cbor/CborBytes"), (0, .methodref 265 268), (0, .nameAndType 8 225), (5, .methodref 5 275), (0, .nameAndType 276 277), (0, u "checkRoomFor"), (0, u "(J)V"), (45, .methodref 5 324), (0, .nameAndType 325 326), (0, u "argumentSize"), (0, u "(I)I"), (4, .methodref 332 333), (0, .class_ 334), (0, .nameAndType 335 336), (0, u "java/util/Arrays"), (0, u "copyOfRange"), (0, u "([BII)[B"), (10, u "MAX_DEPTH"), (2, u "BREAK"), (1, u "INDEFINITE"), (1, u "UNTIL_BREAK")] 43

def k4c0 : Code := { maxStack := 3, maxLocals := 7, code := prog_30_method_3_code, exceptionTable := #[], attributes := #[] }
def k4m0 : Method := { name := "<init>", desc := "([BIIIZ[J)V", sig := { parameters := [(.array .byte), .int, .int, .int, .boolean, (.array .long)], returnType := none }, accessFlags := 0, code := some k4c0 }
def k4c1 : Code := { maxStack := 2, maxLocals := 3, code := prog_30_method_8_code, exceptionTable := #[{ startPc := 13, endPc := 18, handlerPc := 19, catchType := 84 }], attributes := #[] }
def k4m1 : Method := { name := "read", desc := "()Lcom/example/ariel/ariel/cbor/CborValue;", sig := { parameters := [], returnType := some (.object "com/example/ariel/ariel/cbor/CborValue") }, accessFlags := 1, code := some k4c1 }
def k4c2 : Code := { maxStack := 7, maxLocals := 6, code := prog_30_method_9_code, exceptionTable := #[], attributes := #[] }
def k4m2 : Method := { name := "item", desc := "(I)Lcom/example/ariel/ariel/cbor/CborValue;", sig := { parameters := [.int], returnType := some (.object "com/example/ariel/ariel/cbor/CborValue") }, accessFlags := 2, code := some k4c2 }
def k4c3 : Code := { maxStack := 3, maxLocals := 4, code := prog_30_method_15_code, exceptionTable := #[], attributes := #[] }
def k4m3 : Method := { name := "present", desc := "(JI)J", sig := { parameters := [.long, .int], returnType := some .long }, accessFlags := 2, code := some k4c3 }
def k4c4 : Code := { maxStack := 5, maxLocals := 3, code := prog_30_method_18_code, exceptionTable := #[], attributes := #[] }
def k4m4 : Method := { name := "byteString", desc := "([BJ)Lcom/example/ariel/ariel/cbor/CborValue;", sig := { parameters := [(.array .byte), .long], returnType := some (.object "com/example/ariel/ariel/cbor/CborValue") }, accessFlags := 10, code := some k4c4 }
def k4c5 : Code := { maxStack := 3, maxLocals := 1, code := prog_30_method_21_code, exceptionTable := #[], attributes := #[] }
def k4m5 : Method := { name := "takeItem", desc := "()V", sig := { parameters := [], returnType := none }, accessFlags := 2, code := some k4c5 }
def k4c6 : Code := { maxStack := 4, maxLocals := 3, code := prog_30_method_22_code, exceptionTable := #[], attributes := #[] }
def k4m6 : Method := { name := "checkRoomFor", desc := "(J)V", sig := { parameters := [.long], returnType := none }, accessFlags := 2, code := some k4c6 }
def k4c7 : Code := { maxStack := 3, maxLocals := 1, code := prog_30_method_23_code, exceptionTable := #[], attributes := #[] }
def k4m7 : Method := { name := "checkMaxItems", desc := "(I)V", sig := { parameters := [.int], returnType := none }, accessFlags := 8, code := some k4c7 }
def k4c8 : Code := { maxStack := 3, maxLocals := 3, code := prog_30_method_25_code, exceptionTable := #[], attributes := #[] }
def k4m8 : Method := { name := "checkInitialByte", desc := "(I)V", sig := { parameters := [.int], returnType := none }, accessFlags := 8, code := some k4c8 }
def k4c9 : Code := { maxStack := 3, maxLocals := 1, code := prog_30_method_27_code, exceptionTable := #[], attributes := #[] }
def k4m9 : Method := { name := "checkDepth", desc := "(I)V", sig := { parameters := [.int], returnType := none }, accessFlags := 8, code := some k4c9 }
def k4c10 : Code := { maxStack := 3, maxLocals := 1, code := prog_30_method_28_code, exceptionTable := #[], attributes := #[] }
def k4m10 : Method := { name := "argumentSize", desc := "(I)I", sig := { parameters := [.int], returnType := some .int }, accessFlags := 8, code := some k4c10 }
def k4c11 : Code := { maxStack := 3, maxLocals := 5, code := prog_30_method_30_code, exceptionTable := #[], attributes := #[] }
def k4m11 : Method := { name := "argument", desc := "(I)J", sig := { parameters := [.int], returnType := some .long }, accessFlags := 2, code := some k4c11 }
def k4c12 : Code := { maxStack := 5, maxLocals := 4, code := prog_30_method_32_code, exceptionTable := #[], attributes := #[] }
def k4m12 : Method := { name := "take", desc := "(J)[B", sig := { parameters := [.long], returnType := some (.array .byte) }, accessFlags := 2, code := some k4c12 }
/-- com/example/ariel/ariel/cbor/CborReader -/
def k4 : Class := { plain "com/example/ariel/ariel/cbor/CborReader" (some 0) with
  accessFlags := 49
  interfaces := #[]
  cf := some (fileOf pool4 5 #[.nestMembers #[84]] #[{ accessFlags := 0, nameIndex := 8, descriptorIndex := 12, attributes := #[] }, { accessFlags := 1, nameIndex := 56, descriptorIndex := 57, attributes := #[] }, { accessFlags := 2, nameIndex := 82, descriptorIndex := 83, attributes := #[] }, { accessFlags := 2, nameIndex := 129, descriptorIndex := 130, attributes := #[] }, { accessFlags := 10, nameIndex := 137, descriptorIndex := 138, attributes := #[] }, { accessFlags := 2, nameIndex := 95, descriptorIndex := 17, attributes := #[] }, { accessFlags := 2, nameIndex := 276, descriptorIndex := 277, attributes := #[] }, { accessFlags := 8, nameIndex := 26, descriptorIndex := 27, attributes := #[] }, { accessFlags := 8, nameIndex := 92, descriptorIndex := 27, attributes := #[] }, { accessFlags := 8, nameIndex := 159, descriptorIndex := 27, attributes := #[] }, { accessFlags := 8, nameIndex := 325, descriptorIndex := 326, attributes := #[] }, { accessFlags := 2, nameIndex := 102, descriptorIndex := 103, attributes := #[] }, { accessFlags := 2, nameIndex := 133, descriptorIndex := 134, attributes := #[] }] 49 14 #[] #[{ accessFlags := 25, nameIndex := 347, descriptorIndex := 35, attributes := #[] }, { accessFlags := 24, nameIndex := 350, descriptorIndex := 35, attributes := #[] }, { accessFlags := 24, nameIndex := 352, descriptorIndex := 35, attributes := #[] }, { accessFlags := 26, nameIndex := 354, descriptorIndex := 35, attributes := #[] }, { accessFlags := 26, nameIndex := 88, descriptorIndex := 89, attributes := #[] }, { accessFlags := 18, nameIndex := 30, descriptorIndex := 31, attributes := #[] }, { accessFlags := 18, nameIndex := 38, descriptorIndex := 35, attributes := #[] }, { accessFlags := 18, nameIndex := 41, descriptorIndex := 35, attributes := #[] }, { accessFlags := 18, nameIndex := 44, descriptorIndex := 45, attributes := #[] }, { accessFlags := 18, nameIndex := 48, descriptorIndex := 49, attributes := #[] }, { accessFlags := 2, nameIndex := 232, descriptorIndex := 35, attributes := #[] }, { accessFlags := 2, nameIndex := 34, descriptorIndex := 35, attributes := #[] }, { accessFlags := 2, nameIndex := 79, descriptorIndex := 35, attributes := #[] }])
  fields := #[{ name := "MAX_DEPTH", type := .int, accessFlags := 25, slot := 0, constantValue := 0 }, { name := "BREAK", type := .int, accessFlags := 24, slot := 1, constantValue := 0 }, { name := "INDEFINITE", type := .int, accessFlags := 24, slot := 2, constantValue := 0 }, { name := "UNTIL_BREAK", type := .int, accessFlags := 26, slot := 3, constantValue := 0 }, { name := "TRUNCATED", type := (.object "com/example/ariel/ariel/cbor/CborReader$Truncated"), accessFlags := 26, slot := 4, constantValue := 0 }, { name := "source", type := (.array .byte), accessFlags := 18, slot := 0, constantValue := 0 }, { name := "limit", type := .int, accessFlags := 18, slot := 1, constantValue := 0 }, { name := "maxItems", type := .int, accessFlags := 18, slot := 2, constantValue := 0 }, { name := "abridged", type := .boolean, accessFlags := 18, slot := 3, constantValue := 0 }, { name := "chunkedLengths", type := (.array .long), accessFlags := 18, slot := 4, constantValue := 0 }, { name := "chunkedRead", type := .int, accessFlags := 2, slot := 5, constantValue := 0 }, { name := "position", type := .int, accessFlags := 2, slot := 6, constantValue := 0 }, { name := "itemsLeft", type := .int, accessFlags := 2, slot := 7, constantValue := 0 }]
  methods := #[k4m0, k4m1, k4m2, k4m3, k4m4, k4m5, k4m6, k4m7, k4m8, k4m9, k4m10, k4m11, k4m12]
  instanceTypes := #[(.array .byte), .int, .int, .boolean, (.array .long), .int, .int, .int]
  staticTypes := #[.int, .int, .int, .int, (.object "com/example/ariel/ariel/cbor/CborReader$Truncated")]
  resolved := Array.replicate 398 none
  statics := none }

def pool5 : Array CpInfo := pool [(2, .class_ 4), (1, u "java/lang/Object"), (0, u "<init>"), (0, u "()V"), (35, .class_ 44), (1, u "java/util/Objects"), (61, .class_ 108), (1, u "jdk/internal/util/Preconditions"), (5, u "(IIILjava/util/function/BiFunction;)I"), (0, .methodref 106 116), (0, .nameAndType 117 114), (0, u "checkFromIndexSize"), (57, u "(III)I")] 8

def k5m0 : Method := { name := "<init>", desc := "()V", sig := { parameters := [], returnType := none }, accessFlags := 2, code := none }
def k5c1 : Code := { maxStack := 4, maxLocals := 3, code := jdk_31_method_19_code, exceptionTable := #[], attributes := #[] }
def k5m1 : Method := { name := "checkFromIndexSize", desc := "(III)I", sig := { parameters := [.int, .int, .int], returnType := some .int }, accessFlags := 9, code := some k5c1 }
/-- java/util/Objects -/
def k5 : Class := { plain "java/util/Objects" (some 0) with
  accessFlags := 49
  interfaces := #[]
  cf := some (fileOf pool5 42 #[] #[{ accessFlags := 2, nameIndex := 5, descriptorIndex := 6, attributes := #[] }, { accessFlags := 9, nameIndex := 117, descriptorIndex := 175, attributes := #[] }] 49 2 #[] #[])
  fields := #[]
  methods := #[k5m0, k5m1]
  instanceTypes := #[]
  staticTypes := #[]
  resolved := Array.replicate 184 none
  statics := none }

def pool6 : Array CpInfo := pool [(2, .class_ 4), (1, u "java/lang/Object"), (0, u "<init>"), (0, u "()V"), (17, .class_ 26), (1, u "jdk/internal/util/Preconditions"), (22, u "checkFromIndexSize"), (5, .class_ 56), (0, u "jdk/internal/util/Preconditions$4"), (57, .class_ 115), (0, u "jdk/internal/util/Preconditions$1"), (7, u "SIOOBE_FORMATTER"), (0, u "Ljava/util/function/BiFunction;"), (0, .class_ 126), (0, u "jdk/internal/util/Preconditions$2"), (3, u "AIOOBE_FORMATTER"), (0, .class_ 132), (0, u "jdk/internal/util/Preconditions$3"), (3, u "IOOBE_FORMATTER"), (46, u "(IIILjava/util/function/BiFunction;)I")] 10

def k6m0 : Method := { name := "<init>", desc := "()V", sig := { parameters := [], returnType := none }, accessFlags := 1, code := none }
def k6c1 : Code := { maxStack := 4, maxLocals := 4, code := jdk_41_method_13_code, exceptionTable := #[], attributes := #[] }
def k6m1 : Method := { name := "checkFromIndexSize", desc := "(IIILjava/util/function/BiFunction;)I", sig := { parameters := [.int, .int, .int, (.object "java/util/function/BiFunction")], returnType := some .int }, accessFlags := 9, code := some k6c1 }
/-- jdk/internal/util/Preconditions -/
def k6 : Class := { plain "jdk/internal/util/Preconditions" (some 0) with
  accessFlags := 33
  interfaces := #[]
  cf := some (fileOf pool6 24 #[.nestMembers #[55, 131, 125, 114]] #[{ accessFlags := 1, nameIndex := 5, descriptorIndex := 6, attributes := #[] }, { accessFlags := 9, nameIndex := 49, descriptorIndex := 183, attributes := #[] }] 33 2 #[] #[{ accessFlags := 25, nameIndex := 123, descriptorIndex := 124, attributes := #[] }, { accessFlags := 25, nameIndex := 130, descriptorIndex := 124, attributes := #[] }, { accessFlags := 25, nameIndex := 136, descriptorIndex := 124, attributes := #[] }])
  fields := #[{ name := "SIOOBE_FORMATTER", type := (.object "java/util/function/BiFunction"), accessFlags := 25, slot := 0, constantValue := 0 }, { name := "AIOOBE_FORMATTER", type := (.object "java/util/function/BiFunction"), accessFlags := 25, slot := 1, constantValue := 0 }, { name := "IOOBE_FORMATTER", type := (.object "java/util/function/BiFunction"), accessFlags := 25, slot := 2, constantValue := 0 }]
  methods := #[k6m0, k6m1]
  instanceTypes := #[]
  staticTypes := #[(.object "java/util/function/BiFunction"), (.object "java/util/function/BiFunction"), (.object "java/util/function/BiFunction")]
  resolved := Array.replicate 194 none
  statics := none }

def pool7 : Array CpInfo := pool [(1, .class_ 2), (0, u "java/io/Serializable"), (0, .class_ 4), (0, u "java/lang/Object")] 2

/-- java/io/Serializable -/
def k7 : Class := { plain "java/io/Serializable" (some 0) with
  accessFlags := 1537
  interfaces := #[]
  cf := some (fileOf pool7 1 #[] #[] 1537 3 #[] #[])
  fields := #[]
  methods := #[]
  instanceTypes := #[]
  staticTypes := #[]
  resolved := Array.replicate 7 none
  statics := none }

def pool8 : Array CpInfo := pool [(2, .class_ 4), (1, u "java/lang/Object"), (0, u "<init>"), (0, u "()V"), (1, .class_ 10), (1, u "java/lang/Number"), (2, .class_ 14), (0, u "java/io/Serializable"), (0, u "serialVersionUID"), (0, u "J")] 20

def k8m0 : Method := { name := "<init>", desc := "()V", sig := { parameters := [], returnType := none }, accessFlags := 1, code := none }
/-- java/lang/Number -/
def k8 : Class := { plain "java/lang/Number" (some 0) with
  accessFlags := 1057
  interfaces := #[7]
  cf := some (fileOf pool8 8 #[] #[{ accessFlags := 1, nameIndex := 5, descriptorIndex := 6, attributes := #[] }] 1057 2 #[13] #[{ accessFlags := 26, nameIndex := 15, descriptorIndex := 16, attributes := #[] }])
  fields := #[{ name := "serialVersionUID", type := .long, accessFlags := 26, slot := 0, constantValue := 0 }]
  methods := #[k8m0]
  instanceTypes := #[]
  staticTypes := #[.long]
  resolved := Array.replicate 37 none
  statics := none }

def pool9 : Array CpInfo := pool [(1, .class_ 2), (0, u "java/lang/Comparable"), (0, .class_ 4), (0, u "java/lang/Object")] 7

/-- java/lang/Comparable -/
def k9 : Class := { plain "java/lang/Comparable" (some 0) with
  accessFlags := 1537
  interfaces := #[]
  cf := some (fileOf pool9 1 #[] #[] 1537 3 #[] #[])
  fields := #[]
  methods := #[]
  instanceTypes := #[]
  staticTypes := #[]
  resolved := Array.replicate 12 none
  statics := none }

def pool10 : Array CpInfo := pool [(1, .class_ 2), (0, u "java/lang/constant/Constable"), (0, .class_ 4), (0, u "java/lang/Object")] 6

/-- java/lang/constant/Constable -/
def k10 : Class := { plain "java/lang/constant/Constable" (some 0) with
  accessFlags := 1537
  interfaces := #[]
  cf := some (fileOf pool10 1 #[] #[] 1537 3 #[] #[])
  fields := #[]
  methods := #[]
  instanceTypes := #[]
  staticTypes := #[]
  resolved := Array.replicate 11 none
  statics := none }

def pool11 : Array CpInfo := pool [(1, .class_ 2), (0, u "java/lang/constant/ConstantDesc"), (0, .class_ 4), (0, u "java/lang/Object")] 32

/-- java/lang/constant/ConstantDesc -/
def k11 : Class := { plain "java/lang/constant/ConstantDesc" (some 0) with
  accessFlags := 1537
  interfaces := #[]
  cf := some (fileOf pool11 1 #[] #[] 1537 3 #[] #[])
  fields := #[]
  methods := #[]
  instanceTypes := #[]
  staticTypes := #[]
  resolved := Array.replicate 37 none
  statics := none }

def pool12 : Array CpInfo := pool [(1, .class_ 2), (0, u "java/lang/Long"), (165, .long 9223372036854775808), (66, .class_ 237), (1, u "java/lang/Long$LongCache"), (33, .class_ 272), (0, u "java/lang/Number"), (2, u "value"), (0, u "J"), (25, .methodref 1 303), (0, .nameAndType 304 305), (0, u "compare"), (0, u "(JJ)I"), (55, u "TYPE"), (0, u "Ljava/lang/Class;"), (0, .class_ 364), (0, u "java/lang/Comparable"), (0, .class_ 366), (0, u "java/lang/constant/Constable"), (0, .class_ 368), (0, u "java/lang/constant/ConstantDesc"), (0, u "MIN_VALUE"), (1, u "MAX_VALUE"), (4, u "SIZE"), (0, u "I"), (1, u "BYTES"), (1, u "serialVersionUID"), (87, u "compareUnsigned")] 54

def k12c0 : Code := { maxStack := 4, maxLocals := 4, code := jdk_35_method_42_code, exceptionTable := #[], attributes := #[] }
def k12m0 : Method := { name := "compare", desc := "(JJ)I", sig := { parameters := [.long, .long], returnType := some .int }, accessFlags := 9, code := some k12c0 }
def k12c1 : Code := { maxStack := 6, maxLocals := 4, code := jdk_35_method_43_code, exceptionTable := #[], attributes := #[] }
def k12m1 : Method := { name := "compareUnsigned", desc := "(JJ)I", sig := { parameters := [.long, .long], returnType := some .int }, accessFlags := 9, code := some k12c1 }
/-- java/lang/Long -/
def k12 : Class := { plain "java/lang/Long" (some 8) with
  accessFlags := 49
  interfaces := #[9, 10, 11]
  cf := some (fileOf pool12 1 #[.nestMembers #[235]] #[{ accessFlags := 9, nameIndex := 304, descriptorIndex := 305, attributes := #[] }, { accessFlags := 9, nameIndex := 469, descriptorIndex := 305, attributes := #[] }] 49 271 #[363, 365, 367] #[{ accessFlags := 25, nameIndex := 369, descriptorIndex := 276, attributes := #[] }, { accessFlags := 25, nameIndex := 371, descriptorIndex := 276, attributes := #[] }, { accessFlags := 25, nameIndex := 361, descriptorIndex := 362, attributes := #[] }, { accessFlags := 18, nameIndex := 275, descriptorIndex := 276, attributes := #[] }, { accessFlags := 25, nameIndex := 376, descriptorIndex := 377, attributes := #[] }, { accessFlags := 25, nameIndex := 379, descriptorIndex := 377, attributes := #[] }, { accessFlags := 26, nameIndex := 381, descriptorIndex := 276, attributes := #[] }])
  fields := #[{ name := "MIN_VALUE", type := .long, accessFlags := 25, slot := 0, constantValue := 0 }, { name := "MAX_VALUE", type := .long, accessFlags := 25, slot := 1, constantValue := 0 }, { name := "TYPE", type := (.object "java/lang/Class"), accessFlags := 25, slot := 2, constantValue := 0 }, { name := "value", type := .long, accessFlags := 18, slot := 0, constantValue := 0 }, { name := "SIZE", type := .int, accessFlags := 25, slot := 3, constantValue := 0 }, { name := "BYTES", type := .int, accessFlags := 25, slot := 4, constantValue := 0 }, { name := "serialVersionUID", type := .long, accessFlags := 26, slot := 5, constantValue := 0 }]
  methods := #[k12m0, k12m1]
  instanceTypes := #[.long]
  staticTypes := #[.long, .long, (.object "java/lang/Class"), .int, .int, .long]
  resolved := Array.replicate 524 none
  statics := none }

def pool13 : Array CpInfo := pool [(2, .class_ 4), (1, u "java/lang/Object"), (0, u "<init>"), (0, u "()V"), (7, .class_ 16), (1, u "java/util/Arrays"), (57, .class_ 76), (1, u "java/util/Arrays$NaturalOrder"), (36, .class_ 115), (1, u "java/util/Arrays$LegacyMergeSort"), (1, u "Z"), (21, u "copyOfRange"), (10, .methodref 151 152), (0, .class_ 153), (0, .nameAndType 154 155), (0, u "java/lang/System"), (0, u "arraycopy"), (0, u "(Ljava/lang/Object;ILjava/lang/Object;II)V"), (146, u "copyOf"), (1, .methodref 305 306), (0, .class_ 307), (0, .nameAndType 308 309), (0, u "java/lang/Math"), (0, u "min"), (0, u "(II)I"), (29, .methodref 14 340), (0, .nameAndType 341 342), (0, u "copyOfRangeByte"), (0, u "([BII)[B"), (0, .methodref 14 344), (0, .nameAndType 345 346), (0, u "checkLength"), (0, u "(II)V"), (28, .class_ 376), (0, u "java/util/Arrays$ArrayList"), (68, u "$assertionsDisabled"), (269, u "MIN_ARRAY_SORT_GRAN"), (0, u "I"), (2, u "INSERTIONSORT_THRESHOLD"), (151, u "([II)[I"), (0, u "([JI)[J"), (102, .class_ 976), (0, u "java/util/Arrays$ArrayItr")] 52

def k13m0 : Method := { name := "<init>", desc := "()V", sig := { parameters := [], returnType := none }, accessFlags := 2, code := none }
def k13c1 : Code := { maxStack := 6, maxLocals := 3, code := jdk_65_method_123_code, exceptionTable := #[], attributes := #[] }
def k13m1 : Method := { name := "copyOf", desc := "([II)[I", sig := { parameters := [(.array .int), .int], returnType := some (.array .int) }, accessFlags := 9, code := some k13c1 }
def k13c2 : Code := { maxStack := 6, maxLocals := 3, code := jdk_65_method_124_code, exceptionTable := #[], attributes := #[] }
def k13m2 : Method := { name := "copyOf", desc := "([JI)[J", sig := { parameters := [(.array .long), .int], returnType := some (.array .long) }, accessFlags := 9, code := some k13c2 }
def k13c3 : Code := { maxStack := 4, maxLocals := 2, code := jdk_65_method_131_code, exceptionTable := #[], attributes := #[] }
def k13m3 : Method := { name := "checkLength", desc := "(II)V", sig := { parameters := [.int, .int], returnType := none }, accessFlags := 10, code := some k13c3 }
def k13c4 : Code := { maxStack := 3, maxLocals := 3, code := jdk_65_method_132_code, exceptionTable := #[], attributes := #[] }
def k13m4 : Method := { name := "copyOfRange", desc := "([BII)[B", sig := { parameters := [(.array .byte), .int, .int], returnType := some (.array .byte) }, accessFlags := 9, code := some k13c4 }
def k13c5 : Code := { maxStack := 6, maxLocals := 5, code := jdk_65_method_133_code, exceptionTable := #[], attributes := #[] }
def k13m5 : Method := { name := "copyOfRangeByte", desc := "([BII)[B", sig := { parameters := [(.array .byte), .int, .int], returnType := some (.array .byte) }, accessFlags := 10, code := some k13c5 }
/-- java/util/Arrays -/
def k13 : Class := { plain "java/util/Arrays" (some 0) with
  accessFlags := 49
  interfaces := #[]
  cf := some (fileOf pool13 14 #[.nestMembers #[975, 375, 113, 74]] #[{ accessFlags := 2, nameIndex := 5, descriptorIndex := 6, attributes := #[] }, { accessFlags := 9, nameIndex := 302, descriptorIndex := 871, attributes := #[] }, { accessFlags := 9, nameIndex := 302, descriptorIndex := 872, attributes := #[] }, { accessFlags := 10, nameIndex := 345, descriptorIndex := 346, attributes := #[] }, { accessFlags := 9, nameIndex := 139, descriptorIndex := 342, attributes := #[] }, { accessFlags := 10, nameIndex := 341, descriptorIndex := 342, attributes := #[] }] 49 2 #[] #[{ accessFlags := 26, nameIndex := 715, descriptorIndex := 716, attributes := #[] }, { accessFlags := 26, nameIndex := 719, descriptorIndex := 716, attributes := #[] }, { accessFlags := 4120, nameIndex := 445, descriptorIndex := 117, attributes := #[] }])
  fields := #[{ name := "MIN_ARRAY_SORT_GRAN", type := .int, accessFlags := 26, slot := 0, constantValue := 0 }, { name := "INSERTIONSORT_THRESHOLD", type := .int, accessFlags := 26, slot := 1, constantValue := 0 }, { name := "$assertionsDisabled", type := .boolean, accessFlags := 4120, slot := 2, constantValue := 0 }]
  methods := #[k13m0, k13m1, k13m2, k13m3, k13m4, k13m5]
  instanceTypes := #[]
  staticTypes := #[.int, .int, .boolean]
  resolved := Array.replicate 1029 none
  statics := none }

def pool14 : Array CpInfo := pool [(2, .class_ 4), (1, u "java/lang/Object"), (0, u "<init>"), (0, u "()V"), (1, .class_ 10), (1, u "java/lang/System"), (0, u "allowSecurityManager"), (0, u "I"), (16, u "cons"), (0, u "Ljava/io/Console;"), (77, .class_ 110), (1, u "java/lang/System$CallersHolder"), (43, u "initialErrStream"), (0, u "Ljava/io/PrintStream;"), (19, u "security"), (0, u "Ljava/lang/SecurityManager;"), (31, .class_ 209), (0, u "java/lang/System$1"), (7, u "props"), (0, u "Ljava/util/Properties;"), (2, u "lineSeparator"), (0, u "Ljava/lang/String;"), (96, .class_ 321), (1, u "java/lang/System$LoggerFinder"), (5, .class_ 328), (0, u "java/lang/System$Logger"), (67, u "err"), (2, u "out"), (91, u "notSupportedJnuEncoding"), (15, u "in"), (17, u "initialIn"), (0, u "Ljava/io/InputStream;"), (35, u "bootLayer"), (0, u "Ljava/lang/ModuleLayer;"), (99, .class_ 664), (0, u "java/lang/System$2"), (9, u "NEVER"), (2, u "MAYBE"), (49, u "arraycopy"), (0, u "(Ljava/lang/Object;ILjava/lang/Object;II)V"), (72, .class_ 802), (0, u "java/lang/System$Logger$Level")] 31

def k14m0 : Method := { name := "<init>", desc := "()V", sig := { parameters := [], returnType := none }, accessFlags := 2, code := none }
def k14m1 : Method := { name := "arraycopy", desc := "(Ljava/lang/Object;ILjava/lang/Object;II)V", sig := { parameters := [(.object "java/lang/Object"), .int, (.object "java/lang/Object"), .int, .int], returnType := none }, accessFlags := 265, code := none }
/-- java/lang/System -/
def k14 : Class := { plain "java/lang/System" (some 0) with
  accessFlags := 49
  interfaces := #[]
  cf := some (fileOf pool14 8 #[.nestMembers #[319, 327, 801, 108, 663, 208]] #[{ accessFlags := 2, nameIndex := 5, descriptorIndex := 6, attributes := #[] }, { accessFlags := 265, nameIndex := 727, descriptorIndex := 728, attributes := #[] }] 49 2 #[] #[{ accessFlags := 25, nameIndex := 507, descriptorIndex := 526, attributes := #[] }, { accessFlags := 25, nameIndex := 399, descriptorIndex := 155, attributes := #[] }, { accessFlags := 25, nameIndex := 396, descriptorIndex := 155, attributes := #[] }, { accessFlags := 10, nameIndex := 525, descriptorIndex := 526, attributes := #[] }, { accessFlags := 26, nameIndex := 674, descriptorIndex := 12, attributes := #[] }, { accessFlags := 26, nameIndex := 677, descriptorIndex := 12, attributes := #[] }, { accessFlags := 10, nameIndex := 11, descriptorIndex := 12, attributes := #[] }, { accessFlags := 74, nameIndex := 175, descriptorIndex := 176, attributes := #[] }, { accessFlags := 10, nameIndex := 491, descriptorIndex := 222, attributes := #[] }, { accessFlags := 74, nameIndex := 29, descriptorIndex := 30, attributes := #[] }, { accessFlags := 74, nameIndex := 154, descriptorIndex := 155, attributes := #[] }, { accessFlags := 10, nameIndex := 217, descriptorIndex := 218, attributes := #[] }, { accessFlags := 10, nameIndex := 221, descriptorIndex := 222, attributes := #[] }, { accessFlags := 8, nameIndex := 562, descriptorIndex := 563, attributes := #[] }])
  fields := #[{ name := "in", type := (.object "java/io/InputStream"), accessFlags := 25, slot := 0, constantValue := 0 }, { name := "out", type := (.object "java/io/PrintStream"), accessFlags := 25, slot := 1, constantValue := 0 }, { name := "err", type := (.object "java/io/PrintStream"), accessFlags := 25, slot := 2, constantValue := 0 }, { name := "initialIn", type := (.object "java/io/InputStream"), accessFlags := 10, slot := 3, constantValue := 0 }, { name := "NEVER", type := .int, accessFlags := 26, slot := 4, constantValue := 0 }, { name := "MAYBE", type := .int, accessFlags := 26, slot := 5, constantValue := 0 }, { name := "allowSecurityManager", type := .int, accessFlags := 10, slot := 6, constantValue := 0 }, { name := "security", type := (.object "java/lang/SecurityManager"), accessFlags := 74, slot := 7, constantValue := 0 }, { name := "notSupportedJnuEncoding", type := (.object "java/lang/String"), accessFlags := 10, slot := 8, constantValue := 0 }, { name := "cons", type := (.object "java/io/Console"), accessFlags := 74, slot := 9, constantValue := 0 }, { name := "initialErrStream", type := (.object "java/io/PrintStream"), accessFlags := 74, slot := 10, constantValue := 0 }, { name := "props", type := (.object "java/util/Properties"), accessFlags := 10, slot := 11, constantValue := 0 }, { name := "lineSeparator", type := (.object "java/lang/String"), accessFlags := 10, slot := 12, constantValue := 0 }, { name := "bootLayer", type := (.object "java/lang/ModuleLayer"), accessFlags := 8, slot := 13, constantValue := 0 }]
  methods := #[k14m0, k14m1]
  instanceTypes := #[]
  staticTypes := #[(.object "java/io/InputStream"), (.object "java/io/PrintStream"), (.object "java/io/PrintStream"), (.object "java/io/InputStream"), .int, .int, .int, (.object "java/lang/SecurityManager"), (.object "java/lang/String"), (.object "java/io/Console"), (.object "java/io/PrintStream"), (.object "java/util/Properties"), (.object "java/lang/String"), (.object "java/lang/ModuleLayer")]
  resolved := Array.replicate 834 none
  statics := none }

def pool15 : Array CpInfo := pool [(1, .methodref 2 3), (0, .class_ 4), (0, .nameAndType 5 6), (0, u "java/lang/Object"), (0, u "<init>"), (0, u "()V"), (0, .class_ 8), (0, u "java/lang/Record")] 13

def k15c0 : Code := { maxStack := 1, maxLocals := 1, code := jdk_30_method_1_code, exceptionTable := #[], attributes := #[] }
def k15m0 : Method := { name := "<init>", desc := "()V", sig := { parameters := [], returnType := none }, accessFlags := 4, code := some k15c0 }
/-- java/lang/Record -/
def k15 : Class := { plain "java/lang/Record" (some 0) with
  accessFlags := 1057
  interfaces := #[]
  cf := some (fileOf pool15 7 #[] #[{ accessFlags := 4, nameIndex := 5, descriptorIndex := 6, attributes := #[] }] 1057 2 #[] #[])
  fields := #[]
  methods := #[k15m0]
  instanceTypes := #[]
  staticTypes := #[]
  resolved := Array.replicate 22 none
  statics := none }

def pool16 : Array CpInfo := pool [(1, .class_ 2), (0, u "com/example/ariel/ariel/cbor/CborValue"), (0, .class_ 4), (0, u "java/lang/Object")] 21

/-- com/example/ariel/ariel/cbor/CborValue -/
def k16 : Class := { plain "com/example/ariel/ariel/cbor/CborValue" (some 0) with
  accessFlags := 1537
  interfaces := #[]
  cf := some (fileOf pool16 1 #[] #[] 1537 3 #[] #[])
  fields := #[]
  methods := #[]
  instanceTypes := #[]
  staticTypes := #[]
  resolved := Array.replicate 26 none
  statics := none }

def pool17 : Array CpInfo := pool [(1, .methodref 2 3), (0, .class_ 4), (0, .nameAndType 5 6), (0, u "java/lang/Record"), (0, u "<init>"), (0, u "()V"), (0, .fieldref 8 9), (0, .class_ 10), (0, .nameAndType 11 12), (0, u "com/example/ariel/ariel/cbor/CborBytes"), (0, u "bytes"), (0, u "[B"), (14, u "([B)V"), (24, .class_ 53), (0, u "com/example/ariel/ariel/cbor/CborValue")] 29

def k17c0 : Code := { maxStack := 2, maxLocals := 2, code := prog_23_method_1_code, exceptionTable := #[], attributes := #[] }
def k17m0 : Method := { name := "<init>", desc := "([B)V", sig := { parameters := [(.array .byte)], returnType := none }, accessFlags := 1, code := some k17c0 }
/-- com/example/ariel/ariel/cbor/CborBytes -/
def k17 : Class := { plain "com/example/ariel/ariel/cbor/CborBytes" (some 15) with
  accessFlags := 49
  interfaces := #[16]
  cf := some (fileOf pool17 8 #[] #[{ accessFlags := 1, nameIndex := 5, descriptorIndex := 27, attributes := #[] }] 49 2 #[52] #[{ accessFlags := 18, nameIndex := 11, descriptorIndex := 12, attributes := #[] }])
  fields := #[{ name := "bytes", type := (.array .byte), accessFlags := 18, slot := 0, constantValue := 0 }]
  methods := #[k17m0]
  instanceTypes := #[(.array .byte)]
  staticTypes := #[]
  resolved := Array.replicate 83 none
  statics := none }

def pool18 : Array CpInfo := pool [(1, u "java/lang/Cloneable"), (0, .class_ 1), (0, u "java/lang/Object"), (0, .class_ 3)] 3

/-- java/lang/Cloneable -/
def k18 : Class := { plain "java/lang/Cloneable" (some 0) with
  accessFlags := 1537
  interfaces := #[]
  cf := some (fileOf pool18 2 #[] #[] 1537 4 #[] #[])
  fields := #[]
  methods := #[]
  instanceTypes := #[]
  staticTypes := #[]
  resolved := Array.replicate 8 none
  statics := none }

/-- the primitive byte -/
def k19 : Class := { plain "byte" none with kind := .primitive 'B', accessFlags := 0x411 }
/-- [B -/
def k20 : Class := { plain "[B" (some 0) with kind := .array 19 .byte, interfaces := #[18, 7], accessFlags := 1041 }

/-- the primitive int -/
def k21 : Class := { plain "int" none with kind := .primitive 'I', accessFlags := 0x411 }
/-- [I -/
def k22 : Class := { plain "[I" (some 0) with kind := .array 21 .int, interfaces := #[18, 7], accessFlags := 1041 }

/-- the primitive long -/
def k23 : Class := { plain "long" none with kind := .primitive 'J', accessFlags := 0x411 }
/-- [J -/
def k24 : Class := { plain "[J" (some 0) with kind := .array 23 .long, interfaces := #[18, 7], accessFlags := 1041 }

def heap : Heap := #[{ cls := 2, slots := #[.ref 1, .ref 2, .ref 3, .int 0, .int 0], vm := .statics 2 },
  { cls := 20, slots := #[], vm := .none },
  { cls := 24, slots := #[], vm := .none },
  { cls := 22, slots := #[], vm := .none }]
def classes : Array Class := #[k0, k1, k2, k3, k4, k5, k6, k7, k8, k9, k10, k11, k12, k13, k14, k15, k16, k17, k18, k19, k20, k21, k22, k23, k24]
def interned : List (Array UInt16 × Addr) := []
def slotsUsed : Nat := 5
def theMethod : MethodId := ⟨1, 1⟩
def args0 : Array Value := #[.int 0, .int 0, .int 0, .int 0, .int 0, .int 0]
def aboutOver (below : List Frame) : State where
  vm := { classes := classes, interned := interned.toArray }
  heap := heap
  slotsUsed := slotsUsed
  threads := #[{ frames := .invoking theMethod args0 :: below }]
def below0 : List Frame := [.native { method := ⟨0, 0⟩, args := #[] }]
def about1 : State := aboutOver below0
def p0 : Program := .bare "" "" ""
def e0 : Env := launch0.env 0 0 0
theorem w_frames : about1.frames = Frame.invoking theMethod args0 :: below0 := rfl
set_option maxRecDepth 65536 in
theorem w_args : argsFit about1.vm theMethod args0 = true := by decide +kernel
set_option maxRecDepth 65536 in
theorem w_heap : heapFits about1 = true := by decide +kernel
set_option maxRecDepth 65536 in
theorem w_runnable : about1.curStatus? = some .runnable := by decide +kernel
set_option maxRecDepth 65536 in
theorem w_alone : about1.alone = true := by decide +kernel
set_option maxRecDepth 65536 in
theorem w_named : about1.methodNamed? x = some theMethod := by decide +kernel
set_option maxRecDepth 65536 in
theorem w_hears : about1.hears theMethod below0 = true := by decide +kernel
set_option maxRecDepth 65536 in
theorem w_ripe : about1.ripe theMethod args0 below0 = true := by decide +kernel
theorem w_running : about1.status = .running := rfl
set_option maxRecDepth 65536 in
theorem w_room : about1.hasRoom e0.platform room_1 = true :=
  launch0.hasRoom_least _ room_1 (by decide +kernel) (by decide +kernel) (by decide +kernel) (by decide +kernel) (by decide +kernel) (by decide +kernel)
theorem allAtoms_all (ts : List Jvm.Cond) (a : Array Jvm.Value) (st : Jvm.State) : (allAtoms ts).before a st = ts.all (fun c => c.before a st) := by
  induction ts with
  | nil => rfl
  | cons c t ih =>
    show (Jvm.Cond.and c (allAtoms t)).before a st = _
    rw [Jvm.Cond.before_and, ih, List.all_cons]
def words1 : List Jvm.Cond := Jvm.Cond.code x code maxLocals ret :: tables_1
/-- a 'code' word, met by the world's own term for the bytes: nothing is compared byte by byte -/
theorem code_word {y : MethodName} {bytes : ByteArray} {mx : Nat} {rt : Option FieldType} {a : Array Value} {s : State} {m : MethodId} {meth : Method} {c : Code} (h1 : s.methodNamed? y = some m) (h2 : s.vm.method? m = some meth) (h3 : meth.code = some c) (h4 : c.code = bytes)
    (h5 : (c.maxLocals == mx && c.exceptionTable.isEmpty && decide (c.maxStack ≤ mostOperands) && decide (meth.sig.returnType = rt) && !meth.locks && decide (parseMethodDescriptor y.desc = some meth.sig)) = true) : (Jvm.Cond.code y bytes mx rt).before a s = true := by
  simp only [Bool.and_eq_true, beq_iff_eq, Bool.not_eq_true', decide_eq_true_eq] at h5
  obtain ⟨⟨⟨⟨⟨g1, g2⟩, g3⟩, g4⟩, g5⟩, g6⟩ := h5
  simp [Cond.before, Cond.holds, Cond.value, h1, h2, h3, h4, g1, g2, g3, g4, g5, g6]
def isCode : Jvm.Cond → Bool
  | .code _ _ _ _ => true
  | _ => false
theorem all_split {L : List Jvm.Cond} {P : Jvm.Cond → Bool} (h1 : L.all (fun c => isCode c || P c) = true) (h2 : ∀ c ∈ L.filter isCode, P c = true) : L.all P = true := by
  refine List.all_eq_true.mpr fun c hc => ?_
  have h := List.all_eq_true.mp h1 c hc
  rcases Bool.eq_false_or_eq_true (isCode c) with hi | hi
  · exact h2 c (List.mem_filter.mpr ⟨hc, hi⟩)
  · simpa [hi] using h
set_option maxRecDepth 65536 in
theorem w_c0 : (Jvm.Cond.code x code maxLocals ret).before args0 about1 = true := code_word (m := ⟨1, 1⟩) (meth := k1m1) (c := k1c1) (by decide +kernel) rfl rfl rfl (by decide +kernel)
set_option maxRecDepth 65536 in
theorem w_c1 : (Jvm.Cond.code ({ cls := "java/lang/Math", name := "max", desc := "(II)I" } : Jvm.MethodName) jdk_29_method_65_code (2 : Nat) (Option.some Jvm.ClassFile.FieldType.int)).before args0 about1 = true := code_word (m := ⟨3, 1⟩) (meth := k3m1) (c := k3c1) (by decide +kernel) rfl rfl rfl (by decide +kernel)
set_option maxRecDepth 65536 in
theorem w_c2 : (Jvm.Cond.code ({ cls := "com/example/ariel/ariel/cbor/CborSequence", name := "<init>", desc := "(II)V" } : Jvm.MethodName) prog_32_method_3_code (3 : Nat) (Option.none : Option Jvm.ClassFile.FieldType)).before args0 about1 = true := code_word (m := ⟨2, 1⟩) (meth := k2m1) (c := k2c1) (by decide +kernel) rfl rfl rfl (by decide +kernel)
set_option maxRecDepth 65536 in
theorem w_c3 : (Jvm.Cond.code ({ cls := "com/example/ariel/ariel/cbor/CborSequence", name := "<init>", desc := "(IIZ)V" } : Jvm.MethodName) prog_32_method_4_code (4 : Nat) (Option.none : Option Jvm.ClassFile.FieldType)).before args0 about1 = true := code_word (m := ⟨2, 2⟩) (meth := k2m2) (c := k2c2) (by decide +kernel) rfl rfl rfl (by decide +kernel)
set_option maxRecDepth 65536 in
theorem w_c4 : (Jvm.Cond.code ({ cls := "java/lang/Object", name := "<init>", desc := "()V" } : Jvm.MethodName) object_method_1_code (1 : Nat) (Option.none : Option Jvm.ClassFile.FieldType)).before args0 about1 = true := code_word (m := ⟨0, 0⟩) (meth := k0m0) (c := k0c0) (by decide +kernel) rfl rfl rfl (by decide +kernel)
set_option maxRecDepth 65536 in
theorem w_c5 : (Jvm.Cond.code ({ cls := "com/example/ariel/ariel/cbor/CborReader", name := "checkMaxItems", desc := "(I)V" } : Jvm.MethodName) prog_30_method_23_code (1 : Nat) (Option.none : Option Jvm.ClassFile.FieldType)).before args0 about1 = true := code_word (m := ⟨4, 7⟩) (meth := k4m7) (c := k4c7) (by decide +kernel) rfl rfl rfl (by decide +kernel)
set_option maxRecDepth 65536 in
theorem w_c6 : (Jvm.Cond.code ({ cls := "com/example/ariel/ariel/cbor/CborSequence", name := "append", desc := "([BII)V" } : Jvm.MethodName) prog_32_method_7_code (6 : Nat) (Option.none : Option Jvm.ClassFile.FieldType)).before args0 about1 = true := code_word (m := ⟨2, 3⟩) (meth := k2m3) (c := k2c3) (by decide +kernel) rfl rfl rfl (by decide +kernel)
set_option maxRecDepth 65536 in
theorem w_c7 : (Jvm.Cond.code ({ cls := "com/example/ariel/ariel/cbor/CborSequence", name := "next", desc := "()Lcom/example/ariel/ariel/cbor/CborValue;" } : Jvm.MethodName) prog_32_method_9_code (1 : Nat) (Option.some (Jvm.ClassFile.FieldType.object "com/example/ariel/ariel/cbor/CborValue"))).before args0 about1 = true := code_word (m := ⟨2, 5⟩) (meth := k2m5) (c := k2c5) (by decide +kernel) rfl rfl rfl (by decide +kernel)
set_option maxRecDepth 65536 in
theorem w_c8 : (Jvm.Cond.code ({ cls := "com/example/ariel/ariel/cbor/CborSequence", name := "inByteString", desc := "()Z" } : Jvm.MethodName) prog_32_method_12_code (1 : Nat) (Option.some Jvm.ClassFile.FieldType.boolean)).before args0 about1 = true := code_word (m := ⟨2, 7⟩) (meth := k2m7) (c := k2c7) (by decide +kernel) rfl rfl rfl (by decide +kernel)
set_option maxRecDepth 65536 in
theorem w_c9 : (Jvm.Cond.code ({ cls := "com/example/ariel/ariel/cbor/CborSequence", name := "nextWhole", desc := "()Lcom/example/ariel/ariel/cbor/CborValue;" } : Jvm.MethodName) prog_32_method_14_code (6 : Nat) (Option.some (Jvm.ClassFile.FieldType.object "com/example/ariel/ariel/cbor/CborValue"))).before args0 about1 = true := code_word (m := ⟨2, 9⟩) (meth := k2m9) (c := k2c9) (by decide +kernel) rfl rfl rfl (by decide +kernel)
set_option maxRecDepth 65536 in
theorem w_c10 : (Jvm.Cond.code ({ cls := "com/example/ariel/ariel/cbor/CborSequence", name := "scan", desc := "()Z" } : Jvm.MethodName) prog_32_method_15_code (10 : Nat) (Option.some Jvm.ClassFile.FieldType.boolean)).before args0 about1 = true := code_word (m := ⟨2, 10⟩) (meth := k2m10) (c := k2c10) (by decide +kernel) rfl rfl rfl (by decide +kernel)
set_option maxRecDepth 65536 in
theorem w_c11 : (Jvm.Cond.code ({ cls := "com/example/ariel/ariel/cbor/CborSequence", name := "checkHeld", desc := "(I)V" } : Jvm.MethodName) prog_32_method_16_code (2 : Nat) (Option.none : Option Jvm.ClassFile.FieldType)).before args0 about1 = true := code_word (m := ⟨2, 11⟩) (meth := k2m11) (c := k2c11) (by decide +kernel) rfl rfl rfl (by decide +kernel)
set_option maxRecDepth 65536 in
theorem w_c12 : (Jvm.Cond.code ({ cls := "com/example/ariel/ariel/cbor/CborReader", name := "checkInitialByte", desc := "(I)V" } : Jvm.MethodName) prog_30_method_25_code (3 : Nat) (Option.none : Option Jvm.ClassFile.FieldType)).before args0 about1 = true := code_word (m := ⟨4, 8⟩) (meth := k4m8) (c := k4c8) (by decide +kernel) rfl rfl rfl (by decide +kernel)
set_option maxRecDepth 65536 in
theorem w_c13 : (Jvm.Cond.code ({ cls := "com/example/ariel/ariel/cbor/CborReader", name := "argumentSize", desc := "(I)I" } : Jvm.MethodName) prog_30_method_28_code (1 : Nat) (Option.some Jvm.ClassFile.FieldType.int)).before args0 about1 = true := code_word (m := ⟨4, 10⟩) (meth := k4m10) (c := k4c10) (by decide +kernel) rfl rfl rfl (by decide +kernel)
set_option maxRecDepth 65536 in
theorem w_c14 : (Jvm.Cond.code ({ cls := "com/example/ariel/ariel/cbor/CborSequence", name := "kept", desc := "(J)J" } : Jvm.MethodName) prog_32_method_17_code (5 : Nat) (Option.some Jvm.ClassFile.FieldType.long)).before args0 about1 = true := code_word (m := ⟨2, 12⟩) (meth := k2m12) (c := k2c12) (by decide +kernel) rfl rfl rfl (by decide +kernel)
set_option maxRecDepth 65536 in
theorem w_c15 : (Jvm.Cond.code ({ cls := "com/example/ariel/ariel/cbor/CborSequence", name := "itemDone", desc := "()Z" } : Jvm.MethodName) prog_32_method_25_code (1 : Nat) (Option.some Jvm.ClassFile.FieldType.boolean)).before args0 about1 = true := code_word (m := ⟨2, 17⟩) (meth := k2m17) (c := k2c17) (by decide +kernel) rfl rfl rfl (by decide +kernel)
set_option maxRecDepth 65536 in
theorem w_c16 : (Jvm.Cond.code ({ cls := "com/example/ariel/ariel/cbor/CborReader", name := "<init>", desc := "([BIIIZ[J)V" } : Jvm.MethodName) prog_30_method_3_code (7 : Nat) (Option.none : Option Jvm.ClassFile.FieldType)).before args0 about1 = true := code_word (m := ⟨4, 0⟩) (meth := k4m0) (c := k4c0) (by decide +kernel) rfl rfl rfl (by decide +kernel)
set_option maxRecDepth 65536 in
theorem w_c17 : (Jvm.Cond.code ({ cls := "java/util/Objects", name := "checkFromIndexSize", desc := "(III)I" } : Jvm.MethodName) jdk_31_method_19_code (3 : Nat) (Option.some Jvm.ClassFile.FieldType.int)).before args0 about1 = true := code_word (m := ⟨5, 1⟩) (meth := k5m1) (c := k5c1) (by decide +kernel) rfl rfl rfl (by decide +kernel)
set_option maxRecDepth 65536 in
theorem w_c18 : (Jvm.Cond.code ({ cls := "jdk/internal/util/Preconditions", name := "checkFromIndexSize", desc := "(IIILjava/util/function/BiFunction;)I" } : Jvm.MethodName) jdk_41_method_13_code (4 : Nat) (Option.some Jvm.ClassFile.FieldType.int)).before args0 about1 = true := code_word (m := ⟨6, 1⟩) (meth := k6m1) (c := k6c1) (by decide +kernel) rfl rfl rfl (by decide +kernel)
set_option maxRecDepth 65536 in
theorem w_c19 : (Jvm.Cond.code ({ cls := "com/example/ariel/ariel/cbor/CborReader", name := "item", desc := "(I)Lcom/example/ariel/ariel/cbor/CborValue;" } : Jvm.MethodName) prog_30_method_9_code (6 : Nat) (Option.some (Jvm.ClassFile.FieldType.object "com/example/ariel/ariel/cbor/CborValue"))).before args0 about1 = true := code_word (m := ⟨4, 2⟩) (meth := k4m2) (c := k4c2) (by decide +kernel) rfl rfl rfl (by decide +kernel)
set_option maxRecDepth 65536 in
theorem w_c20 : (Jvm.Cond.code ({ cls := "com/example/ariel/ariel/cbor/CborReader", name := "takeItem", desc := "()V" } : Jvm.MethodName) prog_30_method_21_code (1 : Nat) (Option.none : Option Jvm.ClassFile.FieldType)).before args0 about1 = true := code_word (m := ⟨4, 5⟩) (meth := k4m5) (c := k4c5) (by decide +kernel) rfl rfl rfl (by decide +kernel)
set_option maxRecDepth 65536 in
theorem w_c21 : (Jvm.Cond.code ({ cls := "com/example/ariel/ariel/cbor/CborReader", name := "checkRoomFor", desc := "(J)V" } : Jvm.MethodName) prog_30_method_22_code (3 : Nat) (Option.none : Option Jvm.ClassFile.FieldType)).before args0 about1 = true := code_word (m := ⟨4, 6⟩) (meth := k4m6) (c := k4c6) (by decide +kernel) rfl rfl rfl (by decide +kernel)
set_option maxRecDepth 65536 in
theorem w_c22 : (Jvm.Cond.code ({ cls := "com/example/ariel/ariel/cbor/CborReader", name := "argument", desc := "(I)J" } : Jvm.MethodName) prog_30_method_30_code (5 : Nat) (Option.some Jvm.ClassFile.FieldType.long)).before args0 about1 = true := code_word (m := ⟨4, 11⟩) (meth := k4m11) (c := k4c11) (by decide +kernel) rfl rfl rfl (by decide +kernel)
set_option maxRecDepth 65536 in
theorem w_c23 : (Jvm.Cond.code ({ cls := "com/example/ariel/ariel/cbor/CborReader", name := "present", desc := "(JI)J" } : Jvm.MethodName) prog_30_method_15_code (4 : Nat) (Option.some Jvm.ClassFile.FieldType.long)).before args0 about1 = true := code_word (m := ⟨4, 3⟩) (meth := k4m3) (c := k4c3) (by decide +kernel) rfl rfl rfl (by decide +kernel)
set_option maxRecDepth 65536 in
theorem w_c24 : (Jvm.Cond.code ({ cls := "com/example/ariel/ariel/cbor/CborReader", name := "take", desc := "(J)[B" } : Jvm.MethodName) prog_30_method_32_code (4 : Nat) (Option.some (Jvm.ClassFile.FieldType.array Jvm.ClassFile.FieldType.byte))).before args0 about1 = true := code_word (m := ⟨4, 12⟩) (meth := k4m12) (c := k4c12) (by decide +kernel) rfl rfl rfl (by decide +kernel)
set_option maxRecDepth 65536 in
theorem w_c25 : (Jvm.Cond.code ({ cls := "java/lang/Long", name := "compareUnsigned", desc := "(JJ)I" } : Jvm.MethodName) jdk_35_method_43_code (4 : Nat) (Option.some Jvm.ClassFile.FieldType.int)).before args0 about1 = true := code_word (m := ⟨12, 1⟩) (meth := k12m1) (c := k12c1) (by decide +kernel) rfl rfl rfl (by decide +kernel)
set_option maxRecDepth 65536 in
theorem w_c26 : (Jvm.Cond.code ({ cls := "java/lang/Long", name := "compare", desc := "(JJ)I" } : Jvm.MethodName) jdk_35_method_42_code (4 : Nat) (Option.some Jvm.ClassFile.FieldType.int)).before args0 about1 = true := code_word (m := ⟨12, 0⟩) (meth := k12m0) (c := k12c0) (by decide +kernel) rfl rfl rfl (by decide +kernel)
set_option maxRecDepth 65536 in
theorem w_c27 : (Jvm.Cond.code ({ cls := "java/util/Arrays", name := "copyOfRange", desc := "([BII)[B" } : Jvm.MethodName) jdk_65_method_132_code (3 : Nat) (Option.some (Jvm.ClassFile.FieldType.array Jvm.ClassFile.FieldType.byte))).before args0 about1 = true := code_word (m := ⟨13, 4⟩) (meth := k13m4) (c := k13c4) (by decide +kernel) rfl rfl rfl (by decide +kernel)
set_option maxRecDepth 65536 in
theorem w_c28 : (Jvm.Cond.code ({ cls := "java/util/Arrays", name := "copyOfRangeByte", desc := "([BII)[B" } : Jvm.MethodName) jdk_65_method_133_code (5 : Nat) (Option.some (Jvm.ClassFile.FieldType.array Jvm.ClassFile.FieldType.byte))).before args0 about1 = true := code_word (m := ⟨13, 5⟩) (meth := k13m5) (c := k13c5) (by decide +kernel) rfl rfl rfl (by decide +kernel)
set_option maxRecDepth 65536 in
theorem w_c29 : (Jvm.Cond.code ({ cls := "java/util/Arrays", name := "checkLength", desc := "(II)V" } : Jvm.MethodName) jdk_65_method_131_code (2 : Nat) (Option.none : Option Jvm.ClassFile.FieldType)).before args0 about1 = true := code_word (m := ⟨13, 3⟩) (meth := k13m3) (c := k13c3) (by decide +kernel) rfl rfl rfl (by decide +kernel)
set_option maxRecDepth 65536 in
theorem w_c30 : (Jvm.Cond.code ({ cls := "java/lang/Math", name := "min", desc := "(II)I" } : Jvm.MethodName) jdk_29_method_69_code (2 : Nat) (Option.some Jvm.ClassFile.FieldType.int)).before args0 about1 = true := code_word (m := ⟨3, 3⟩) (meth := k3m3) (c := k3c3) (by decide +kernel) rfl rfl rfl (by decide +kernel)
set_option maxRecDepth 65536 in
theorem w_c31 : (Jvm.Cond.code ({ cls := "com/example/ariel/ariel/cbor/CborReader", name := "byteString", desc := "([BJ)Lcom/example/ariel/ariel/cbor/CborValue;" } : Jvm.MethodName) prog_30_method_18_code (3 : Nat) (Option.some (Jvm.ClassFile.FieldType.object "com/example/ariel/ariel/cbor/CborValue"))).before args0 about1 = true := code_word (m := ⟨4, 4⟩) (meth := k4m4) (c := k4c4) (by decide +kernel) rfl rfl rfl (by decide +kernel)
set_option maxRecDepth 65536 in
theorem w_c32 : (Jvm.Cond.code ({ cls := "com/example/ariel/ariel/cbor/CborBytes", name := "<init>", desc := "([B)V" } : Jvm.MethodName) prog_23_method_1_code (2 : Nat) (Option.none : Option Jvm.ClassFile.FieldType)).before args0 about1 = true := code_word (m := ⟨17, 0⟩) (meth := k17m0) (c := k17c0) (by decide +kernel) rfl rfl rfl (by decide +kernel)
set_option maxRecDepth 65536 in
theorem w_c33 : (Jvm.Cond.code ({ cls := "java/lang/Record", name := "<init>", desc := "()V" } : Jvm.MethodName) jdk_30_method_1_code (1 : Nat) (Option.none : Option Jvm.ClassFile.FieldType)).before args0 about1 = true := code_word (m := ⟨15, 0⟩) (meth := k15m0) (c := k15c0) (by decide +kernel) rfl rfl rfl (by decide +kernel)
set_option maxRecDepth 65536 in
theorem w_c34 : (Jvm.Cond.code ({ cls := "com/example/ariel/ariel/cbor/CborSequence", name := "footprint", desc := "()J" } : Jvm.MethodName) prog_32_method_13_code (1 : Nat) (Option.some Jvm.ClassFile.FieldType.long)).before args0 about1 = true := code_word (m := ⟨2, 8⟩) (meth := k2m8) (c := k2c8) (by decide +kernel) rfl rfl rfl (by decide +kernel)
set_option maxRecDepth 65536 in
theorem w_c35 : (Jvm.Cond.code ({ cls := "java/lang/Math", name := "max", desc := "(JJ)J" } : Jvm.MethodName) jdk_29_method_66_code (4 : Nat) (Option.some Jvm.ClassFile.FieldType.long)).before args0 about1 = true := code_word (m := ⟨3, 2⟩) (meth := k3m2) (c := k3c2) (by decide +kernel) rfl rfl rfl (by decide +kernel)
set_option maxRecDepth 65536 in
theorem w_c36 : (Jvm.Cond.code ({ cls := "com/example/ariel/ariel/cbor/CborSequence", name := "moveHeldTo", desc := "([B)V" } : Jvm.MethodName) prog_32_method_23_code (2 : Nat) (Option.none : Option Jvm.ClassFile.FieldType)).before args0 about1 = true := code_word (m := ⟨2, 15⟩) (meth := k2m15) (c := k2c15) (by decide +kernel) rfl rfl rfl (by decide +kernel)
set_option maxRecDepth 65536 in
theorem w_c37 : (Jvm.Cond.code ({ cls := "com/example/ariel/ariel/cbor/CborSequence", name := "copyHeld", desc := "(I[B)I" } : Jvm.MethodName) prog_32_method_21_code (6 : Nat) (Option.some Jvm.ClassFile.FieldType.int)).before args0 about1 = true := code_word (m := ⟨2, 13⟩) (meth := k2m13) (c := k2c13) (by decide +kernel) rfl rfl rfl (by decide +kernel)
set_option maxRecDepth 65536 in
theorem w_c38 : (Jvm.Cond.code ({ cls := "com/example/ariel/ariel/cbor/CborSequence", name := "dropCuts", desc := "()V" } : Jvm.MethodName) prog_32_method_22_code (1 : Nat) (Option.none : Option Jvm.ClassFile.FieldType)).before args0 about1 = true := code_word (m := ⟨2, 14⟩) (meth := k2m14) (c := k2c14) (by decide +kernel) rfl rfl rfl (by decide +kernel)
set_option maxRecDepth 65536 in
theorem w_c39 : (Jvm.Cond.code ({ cls := "com/example/ariel/ariel/cbor/CborReader", name := "checkDepth", desc := "(I)V" } : Jvm.MethodName) prog_30_method_27_code (1 : Nat) (Option.none : Option Jvm.ClassFile.FieldType)).before args0 about1 = true := code_word (m := ⟨4, 9⟩) (meth := k4m9) (c := k4c9) (by decide +kernel) rfl rfl rfl (by decide +kernel)
set_option maxRecDepth 65536 in
theorem w_c40 : (Jvm.Cond.code ({ cls := "com/example/ariel/ariel/cbor/CborSequence", name := "open", desc := "(IJ)V" } : Jvm.MethodName) prog_32_method_24_code (4 : Nat) (Option.none : Option Jvm.ClassFile.FieldType)).before args0 about1 = true := code_word (m := ⟨2, 16⟩) (meth := k2m16) (c := k2c16) (by decide +kernel) rfl rfl rfl (by decide +kernel)
set_option maxRecDepth 65536 in
theorem w_c41 : (Jvm.Cond.code ({ cls := "java/util/Arrays", name := "copyOf", desc := "([JI)[J" } : Jvm.MethodName) jdk_65_method_124_code (3 : Nat) (Option.some (Jvm.ClassFile.FieldType.array Jvm.ClassFile.FieldType.long))).before args0 about1 = true := code_word (m := ⟨13, 2⟩) (meth := k13m2) (c := k13c2) (by decide +kernel) rfl rfl rfl (by decide +kernel)
set_option maxRecDepth 65536 in
theorem w_c42 : (Jvm.Cond.code ({ cls := "java/util/Arrays", name := "copyOf", desc := "([II)[I" } : Jvm.MethodName) jdk_65_method_123_code (3 : Nat) (Option.some (Jvm.ClassFile.FieldType.array Jvm.ClassFile.FieldType.int))).before args0 about1 = true := code_word (m := ⟨13, 1⟩) (meth := k13m1) (c := k13c1) (by decide +kernel) rfl rfl rfl (by decide +kernel)
set_option maxRecDepth 65536 in
theorem w_c43 : (Jvm.Cond.code ({ cls := "com/example/ariel/ariel/cbor/CborSequence", name := "detach", desc := "()V" } : Jvm.MethodName) prog_32_method_8_code (2 : Nat) (Option.none : Option Jvm.ClassFile.FieldType)).before args0 about1 = true := code_word (m := ⟨2, 4⟩) (meth := k2m4) (c := k2c4) (by decide +kernel) rfl rfl rfl (by decide +kernel)
set_option maxRecDepth 65536 in
theorem w_c44 : (Jvm.Cond.code ({ cls := "com/example/ariel/ariel/cbor/CborSequence", name := "pending", desc := "()I" } : Jvm.MethodName) prog_32_method_11_code (1 : Nat) (Option.some Jvm.ClassFile.FieldType.int)).before args0 about1 = true := code_word (m := ⟨2, 6⟩) (meth := k2m6) (c := k2c6) (by decide +kernel) rfl rfl rfl (by decide +kernel)
def codes1 : List Jvm.Cond := [Jvm.Cond.code x code maxLocals ret, Jvm.Cond.code ({ cls := "java/lang/Math", name := "max", desc := "(II)I" } : Jvm.MethodName) jdk_29_method_65_code (2 : Nat) (Option.some Jvm.ClassFile.FieldType.int), Jvm.Cond.code ({ cls := "com/example/ariel/ariel/cbor/CborSequence", name := "<init>", desc := "(II)V" } : Jvm.MethodName) prog_32_method_3_code (3 : Nat) (Option.none : Option Jvm.ClassFile.FieldType), Jvm.Cond.code ({ cls := "com/example/ariel/ariel/cbor/CborSequence", name := "<init>", desc := "(IIZ)V" } : Jvm.MethodName) prog_32_method_4_code (4 : Nat) (Option.none : Option Jvm.ClassFile.FieldType), Jvm.Cond.code ({ cls := "java/lang/Object", name := "<init>", desc := "()V" } : Jvm.MethodName) object_method_1_code (1 : Nat) (Option.none : Option Jvm.ClassFile.FieldType), Jvm.Cond.code ({ cls := "com/example/ariel/ariel/cbor/CborReader", name := "checkMaxItems", desc := "(I)V" } : Jvm.MethodName) prog_30_method_23_code (1 : Nat) (Option.none : Option Jvm.ClassFile.FieldType), Jvm.Cond.code ({ cls := "com/example/ariel/ariel/cbor/CborSequence", name := "append", desc := "([BII)V" } : Jvm.MethodName) prog_32_method_7_code (6 : Nat) (Option.none : Option Jvm.ClassFile.FieldType), Jvm.Cond.code ({ cls := "com/example/ariel/ariel/cbor/CborSequence", name := "next", desc := "()Lcom/example/ariel/ariel/cbor/CborValue;" } : Jvm.MethodName) prog_32_method_9_code (1 : Nat) (Option.some (Jvm.ClassFile.FieldType.object "com/example/ariel/ariel/cbor/CborValue")), Jvm.Cond.code ({ cls := "com/example/ariel/ariel/cbor/CborSequence", name := "inByteString", desc := "()Z" } : Jvm.MethodName) prog_32_method_12_code (1 : Nat) (Option.some Jvm.ClassFile.FieldType.boolean), Jvm.Cond.code ({ cls := "com/example/ariel/ariel/cbor/CborSequence", name := "nextWhole", desc := "()Lcom/example/ariel/ariel/cbor/CborValue;" } : Jvm.MethodName) prog_32_method_14_code (6 : Nat) (Option.some (Jvm.ClassFile.FieldType.object "com/example/ariel/ariel/cbor/CborValue")), Jvm.Cond.code ({ cls := "com/example/ariel/ariel/cbor/CborSequence", name := "scan", desc := "()Z" } : Jvm.MethodName) prog_32_method_15_code (10 : Nat) (Option.some Jvm.ClassFile.FieldType.boolean), Jvm.Cond.code ({ cls := "com/example/ariel/ariel/cbor/CborSequence", name := "checkHeld", desc := "(I)V" } : Jvm.MethodName) prog_32_method_16_code (2 : Nat) (Option.none : Option Jvm.ClassFile.FieldType), Jvm.Cond.code ({ cls := "com/example/ariel/ariel/cbor/CborReader", name := "checkInitialByte", desc := "(I)V" } : Jvm.MethodName) prog_30_method_25_code (3 : Nat) (Option.none : Option Jvm.ClassFile.FieldType), Jvm.Cond.code ({ cls := "com/example/ariel/ariel/cbor/CborReader", name := "argumentSize", desc := "(I)I" } : Jvm.MethodName) prog_30_method_28_code (1 : Nat) (Option.some Jvm.ClassFile.FieldType.int), Jvm.Cond.code ({ cls := "com/example/ariel/ariel/cbor/CborSequence", name := "kept", desc := "(J)J" } : Jvm.MethodName) prog_32_method_17_code (5 : Nat) (Option.some Jvm.ClassFile.FieldType.long), Jvm.Cond.code ({ cls := "com/example/ariel/ariel/cbor/CborSequence", name := "itemDone", desc := "()Z" } : Jvm.MethodName) prog_32_method_25_code (1 : Nat) (Option.some Jvm.ClassFile.FieldType.boolean), Jvm.Cond.code ({ cls := "com/example/ariel/ariel/cbor/CborReader", name := "<init>", desc := "([BIIIZ[J)V" } : Jvm.MethodName) prog_30_method_3_code (7 : Nat) (Option.none : Option Jvm.ClassFile.FieldType), Jvm.Cond.code ({ cls := "java/util/Objects", name := "checkFromIndexSize", desc := "(III)I" } : Jvm.MethodName) jdk_31_method_19_code (3 : Nat) (Option.some Jvm.ClassFile.FieldType.int), Jvm.Cond.code ({ cls := "jdk/internal/util/Preconditions", name := "checkFromIndexSize", desc := "(IIILjava/util/function/BiFunction;)I" } : Jvm.MethodName) jdk_41_method_13_code (4 : Nat) (Option.some Jvm.ClassFile.FieldType.int), Jvm.Cond.code ({ cls := "com/example/ariel/ariel/cbor/CborReader", name := "item", desc := "(I)Lcom/example/ariel/ariel/cbor/CborValue;" } : Jvm.MethodName) prog_30_method_9_code (6 : Nat) (Option.some (Jvm.ClassFile.FieldType.object "com/example/ariel/ariel/cbor/CborValue")), Jvm.Cond.code ({ cls := "com/example/ariel/ariel/cbor/CborReader", name := "takeItem", desc := "()V" } : Jvm.MethodName) prog_30_method_21_code (1 : Nat) (Option.none : Option Jvm.ClassFile.FieldType), Jvm.Cond.code ({ cls := "com/example/ariel/ariel/cbor/CborReader", name := "checkRoomFor", desc := "(J)V" } : Jvm.MethodName) prog_30_method_22_code (3 : Nat) (Option.none : Option Jvm.ClassFile.FieldType), Jvm.Cond.code ({ cls := "com/example/ariel/ariel/cbor/CborReader", name := "argument", desc := "(I)J" } : Jvm.MethodName) prog_30_method_30_code (5 : Nat) (Option.some Jvm.ClassFile.FieldType.long), Jvm.Cond.code ({ cls := "com/example/ariel/ariel/cbor/CborReader", name := "present", desc := "(JI)J" } : Jvm.MethodName) prog_30_method_15_code (4 : Nat) (Option.some Jvm.ClassFile.FieldType.long), Jvm.Cond.code ({ cls := "com/example/ariel/ariel/cbor/CborReader", name := "take", desc := "(J)[B" } : Jvm.MethodName) prog_30_method_32_code (4 : Nat) (Option.some (Jvm.ClassFile.FieldType.array Jvm.ClassFile.FieldType.byte)), Jvm.Cond.code ({ cls := "java/lang/Long", name := "compareUnsigned", desc := "(JJ)I" } : Jvm.MethodName) jdk_35_method_43_code (4 : Nat) (Option.some Jvm.ClassFile.FieldType.int), Jvm.Cond.code ({ cls := "java/lang/Long", name := "compare", desc := "(JJ)I" } : Jvm.MethodName) jdk_35_method_42_code (4 : Nat) (Option.some Jvm.ClassFile.FieldType.int), Jvm.Cond.code ({ cls := "java/util/Arrays", name := "copyOfRange", desc := "([BII)[B" } : Jvm.MethodName) jdk_65_method_132_code (3 : Nat) (Option.some (Jvm.ClassFile.FieldType.array Jvm.ClassFile.FieldType.byte)), Jvm.Cond.code ({ cls := "java/util/Arrays", name := "copyOfRangeByte", desc := "([BII)[B" } : Jvm.MethodName) jdk_65_method_133_code (5 : Nat) (Option.some (Jvm.ClassFile.FieldType.array Jvm.ClassFile.FieldType.byte)), Jvm.Cond.code ({ cls := "java/util/Arrays", name := "checkLength", desc := "(II)V" } : Jvm.MethodName) jdk_65_method_131_code (2 : Nat) (Option.none : Option Jvm.ClassFile.FieldType), Jvm.Cond.code ({ cls := "java/lang/Math", name := "min", desc := "(II)I" } : Jvm.MethodName) jdk_29_method_69_code (2 : Nat) (Option.some Jvm.ClassFile.FieldType.int), Jvm.Cond.code ({ cls := "com/example/ariel/ariel/cbor/CborReader", name := "byteString", desc := "([BJ)Lcom/example/ariel/ariel/cbor/CborValue;" } : Jvm.MethodName) prog_30_method_18_code (3 : Nat) (Option.some (Jvm.ClassFile.FieldType.object "com/example/ariel/ariel/cbor/CborValue")), Jvm.Cond.code ({ cls := "com/example/ariel/ariel/cbor/CborBytes", name := "<init>", desc := "([B)V" } : Jvm.MethodName) prog_23_method_1_code (2 : Nat) (Option.none : Option Jvm.ClassFile.FieldType), Jvm.Cond.code ({ cls := "java/lang/Record", name := "<init>", desc := "()V" } : Jvm.MethodName) jdk_30_method_1_code (1 : Nat) (Option.none : Option Jvm.ClassFile.FieldType), Jvm.Cond.code ({ cls := "com/example/ariel/ariel/cbor/CborSequence", name := "footprint", desc := "()J" } : Jvm.MethodName) prog_32_method_13_code (1 : Nat) (Option.some Jvm.ClassFile.FieldType.long), Jvm.Cond.code ({ cls := "java/lang/Math", name := "max", desc := "(JJ)J" } : Jvm.MethodName) jdk_29_method_66_code (4 : Nat) (Option.some Jvm.ClassFile.FieldType.long), Jvm.Cond.code ({ cls := "com/example/ariel/ariel/cbor/CborSequence", name := "moveHeldTo", desc := "([B)V" } : Jvm.MethodName) prog_32_method_23_code (2 : Nat) (Option.none : Option Jvm.ClassFile.FieldType), Jvm.Cond.code ({ cls := "com/example/ariel/ariel/cbor/CborSequence", name := "copyHeld", desc := "(I[B)I" } : Jvm.MethodName) prog_32_method_21_code (6 : Nat) (Option.some Jvm.ClassFile.FieldType.int), Jvm.Cond.code ({ cls := "com/example/ariel/ariel/cbor/CborSequence", name := "dropCuts", desc := "()V" } : Jvm.MethodName) prog_32_method_22_code (1 : Nat) (Option.none : Option Jvm.ClassFile.FieldType), Jvm.Cond.code ({ cls := "com/example/ariel/ariel/cbor/CborReader", name := "checkDepth", desc := "(I)V" } : Jvm.MethodName) prog_30_method_27_code (1 : Nat) (Option.none : Option Jvm.ClassFile.FieldType), Jvm.Cond.code ({ cls := "com/example/ariel/ariel/cbor/CborSequence", name := "open", desc := "(IJ)V" } : Jvm.MethodName) prog_32_method_24_code (4 : Nat) (Option.none : Option Jvm.ClassFile.FieldType), Jvm.Cond.code ({ cls := "java/util/Arrays", name := "copyOf", desc := "([JI)[J" } : Jvm.MethodName) jdk_65_method_124_code (3 : Nat) (Option.some (Jvm.ClassFile.FieldType.array Jvm.ClassFile.FieldType.long)), Jvm.Cond.code ({ cls := "java/util/Arrays", name := "copyOf", desc := "([II)[I" } : Jvm.MethodName) jdk_65_method_123_code (3 : Nat) (Option.some (Jvm.ClassFile.FieldType.array Jvm.ClassFile.FieldType.int)), Jvm.Cond.code ({ cls := "com/example/ariel/ariel/cbor/CborSequence", name := "detach", desc := "()V" } : Jvm.MethodName) prog_32_method_8_code (2 : Nat) (Option.none : Option Jvm.ClassFile.FieldType), Jvm.Cond.code ({ cls := "com/example/ariel/ariel/cbor/CborSequence", name := "pending", desc := "()I" } : Jvm.MethodName) prog_32_method_11_code (1 : Nat) (Option.some Jvm.ClassFile.FieldType.int)]
set_option maxRecDepth 65536 in
theorem codes_eq : words1.filter isCode = codes1 := rfl
theorem w_codes : ∀ c ∈ words1.filter isCode, c.before args0 about1 = true := by
  rw [codes_eq]
  intro c hc
  simp only [codes1, List.mem_cons, List.not_mem_nil, or_false] at hc
  rcases hc with rfl | rfl | rfl | rfl | rfl | rfl | rfl | rfl | rfl | rfl | rfl | rfl | rfl | rfl | rfl | rfl | rfl | rfl | rfl | rfl | rfl | rfl | rfl | rfl | rfl | rfl | rfl | rfl | rfl | rfl | rfl | rfl | rfl | rfl | rfl | rfl | rfl | rfl | rfl | rfl | rfl | rfl | rfl | rfl | rfl
  · exact w_c0
  · exact w_c1
  · exact w_c2
  · exact w_c3
  · exact w_c4
  · exact w_c5
  · exact w_c6
  · exact w_c7
  · exact w_c8
  · exact w_c9
  · exact w_c10
  · exact w_c11
  · exact w_c12
  · exact w_c13
  · exact w_c14
  · exact w_c15
  · exact w_c16
  · exact w_c17
  · exact w_c18
  · exact w_c19
  · exact w_c20
  · exact w_c21
  · exact w_c22
  · exact w_c23
  · exact w_c24
  · exact w_c25
  · exact w_c26
  · exact w_c27
  · exact w_c28
  · exact w_c29
  · exact w_c30
  · exact w_c31
  · exact w_c32
  · exact w_c33
  · exact w_c34
  · exact w_c35
  · exact w_c36
  · exact w_c37
  · exact w_c38
  · exact w_c39
  · exact w_c40
  · exact w_c41
  · exact w_c42
  · exact w_c43
  · exact w_c44
set_option maxRecDepth 65536 in
theorem w_t1 : (words1.take 24).all (fun c => isCode c || c.before args0 about1) = true := by decide +kernel
set_option maxRecDepth 65536 in
theorem w_t2 : ((words1.drop 24).take 24).all (fun c => isCode c || c.before args0 about1) = true := by decide +kernel
set_option maxRecDepth 65536 in
theorem w_t3 : (((words1.drop 24).drop 24).take 24).all (fun c => isCode c || c.before args0 about1) = true := by decide +kernel
set_option maxRecDepth 65536 in
theorem w_t4 : ((((words1.drop 24).drop 24).drop 24).take 24).all (fun c => isCode c || c.before args0 about1) = true := by decide +kernel
set_option maxRecDepth 65536 in
theorem w_t5 : (((((words1.drop 24).drop 24).drop 24).drop 24).take 24).all (fun c => isCode c || c.before args0 about1) = true := by decide +kernel
set_option maxRecDepth 65536 in
theorem w_t6 : ((((((words1.drop 24).drop 24).drop 24).drop 24).drop 24).take 24).all (fun c => isCode c || c.before args0 about1) = true := by decide +kernel
set_option maxRecDepth 65536 in
theorem w_t7 : (((((((words1.drop 24).drop 24).drop 24).drop 24).drop 24).drop 24).take 24).all (fun c => isCode c || c.before args0 about1) = true := by decide +kernel
set_option maxRecDepth 65536 in
theorem w_t8 : ((((((((words1.drop 24).drop 24).drop 24).drop 24).drop 24).drop 24).drop 24).take 24).all (fun c => isCode c || c.before args0 about1) = true := by decide +kernel
set_option maxRecDepth 65536 in
theorem w_t9 : (((((((((words1.drop 24).drop 24).drop 24).drop 24).drop 24).drop 24).drop 24).drop 24).take 24).all (fun c => isCode c || c.before args0 about1) = true := by decide +kernel
set_option maxRecDepth 65536 in
theorem w_t10 : ((((((((((words1.drop 24).drop 24).drop 24).drop 24).drop 24).drop 24).drop 24).drop 24).drop 24).take 24).all (fun c => isCode c || c.before args0 about1) = true := by decide +kernel
set_option maxRecDepth 65536 in
theorem w_t11 : (((((((((((words1.drop 24).drop 24).drop 24).drop 24).drop 24).drop 24).drop 24).drop 24).drop 24).drop 24).take 24).all (fun c => isCode c || c.before args0 about1) = true := by decide +kernel
set_option maxRecDepth 65536 in
theorem w_t12 : (((((((((((words1.drop 24).drop 24).drop 24).drop 24).drop 24).drop 24).drop 24).drop 24).drop 24).drop 24).drop 24).all (fun c => isCode c || c.before args0 about1) = true := by decide +kernel
theorem w_tables : (allAtoms (Jvm.Cond.code x code maxLocals ret :: tables_1)).before args0 about1 = true := by
  rw [allAtoms_all]
  show words1.all (fun c => c.before args0 about1) = true
  refine all_split ?_ w_codes
  rw [← List.take_append_drop 24 words1, List.all_append, w_t1, ← List.take_append_drop 24 (words1.drop 24), List.all_append, w_t2, ← List.take_append_drop 24 ((words1.drop 24).drop 24), List.all_append, w_t3, ← List.take_append_drop 24 (((words1.drop 24).drop 24).drop 24), List.all_append, w_t4, ← List.take_append_drop 24 ((((words1.drop 24).drop 24).drop 24).drop 24), List.all_append, w_t5, ← List.take_append_drop 24 (((((words1.drop 24).drop 24).drop 24).drop 24).drop 24), List.all_append, w_t6, ← List.take_append_drop 24 ((((((words1.drop 24).drop 24).drop 24).drop 24).drop 24).drop 24), List.all_append, w_t7, ← List.take_append_drop 24 (((((((words1.drop 24).drop 24).drop 24).drop 24).drop 24).drop 24).drop 24), List.all_append, w_t8, ← List.take_append_drop 24 ((((((((words1.drop 24).drop 24).drop 24).drop 24).drop 24).drop 24).drop 24).drop 24), List.all_append, w_t9, ← List.take_append_drop 24 (((((((((words1.drop 24).drop 24).drop 24).drop 24).drop 24).drop 24).drop 24).drop 24).drop 24), List.all_append, w_t10, ← List.take_append_drop 24 ((((((((((words1.drop 24).drop 24).drop 24).drop 24).drop 24).drop 24).drop 24).drop 24).drop 24).drop 24), List.all_append, w_t11, w_t12]
  rfl
set_option maxRecDepth 65536 in
theorem w_case : (Jvm.Cond.and given_1 narrow_1).before args0 about1 = true := by decide +kernel
theorem w_applies : (headSpec (Jvm.Cond.code x code maxLocals ret :: tables_1) room_1).applies x e0.platform about1 = true :=
  (Spec.applies_iff w_frames).mpr ⟨w_running, w_runnable, w_alone, w_named, w_hears, w_ripe, w_room, w_tables⟩
theorem atStart : AtStart classFile x code maxLocals ret World_1 tables_1 room_1 Calls_1 rest_1 Pre_1 launch0 p0 e0 about1 theMethod args0 below0 :=
  ⟨lists_1, trivial, launch0.admits_env _ _ _, launch0.least_env, fairChoices_fair.cas, fairChoices_fair.clock, w_frames, w_args, w_heap, w_applies, trivial, trivial, w_case⟩
end start1
theorem witness_1 : WitnessClaimed_1 := ⟨start1.p0, start1.e0, start1.about1, start1.theMethod, start1.args0, start1.below0, start1.atStart⟩
end Jvm.Pilot.@@N@@

import JvmDerived
import JvmDerived.Pilot.@@N@@Statement
import JvmDerived.Pilot.@@N@@Code
set_option linter.unusedVariables false
set_option linter.unusedSimpArgs false
namespace Jvm.OwnG
open Sem ClassFile Op Lib Jvm.Stand Jvm.Free Jvm.LawKit Jvm.RoadKit
/-- from here the run comes to an end at which P holds -/
def Gd (p : Program) (e : Env) (below : List Frame) (P : State → Prop) (T : State) (g : JFrame) : Prop := ∃ t, Steps p.tables e below (T.setTop g) t ∧ P t
/-- an instruction of the code, and the pc behind it -/
def Ins1 (code : ByteArray) (pc : Nat) (i : Instr) (n pn : Nat) : Prop := decode code pc = .ok (i, n) ∧ pc + n = pn
/-- a branch: the pc behind it, the pc it goes to -/
def InsB (code : ByteArray) (pc : Nat) (i : Instr) (o : Int) (pn pt : Nat) : Prop := decode code pc = .ok (i, 3) ∧ pc + 3 = pn ∧ 0 ≤ (pc : Int) + o ∧ ((pc : Int) + o).toNat = pt
/-- what the end of a walk says -/
def Fin1 (s : State) (below : List Frame) (cells slots : Nat) (Q : Option Value → Heap → List Loc → Prop) (t : State) : Prop := ∃ o, t.status = .running ∧ Ended t below o ∧ ∃ v L, o = .returned v ∧ Q v t.heap L ∧ FrameEnd s o t L cells slots
/-- a method's contract at the arguments as', the heap h -/
def Met1 (l : Launch) (y : MethodName) (bytes : ByteArray) (maxL : Nat) (ret : Option FieldType) (ws : List Jvm.Cond) (rm : Room) (as' : Array Value) (Z : State) (h : Heap) (Q : Option Value → Heap → List Loc → Prop) : Prop :=
  MetFree l y (head1 (Jvm.Cond.code y bytes maxL ret :: ws) rm) (fun a U => a = as' ∧ Z.Warmed39 U.vm ∧ U.heap = h) (fun _ _ _ _ _ => True) (fun _ U o U' => ∃ v L, o = .returned v ∧ Q v U'.heap L ∧ FrameEnd U o U' L rm.cells rm.slots)
def RV (Q : Value → Heap → List Loc → Prop) (v : Option Value) (h : Heap) (L : List Loc) : Prop := ∃ z, v = some z ∧ Q z h L
def RN (Q : Heap → List Loc → Prop) (v : Option Value) (h : Heap) (L : List Loc) : Prop := v = none ∧ Q h L
section K
variable {p : Program} {l : Launch} {e : Env} {R : Room} {s : State} {m : MethodId} {args : Array Value} {below : List Frame} {meth : Method} {c : Code} {T : State} {locs : List Loc} {cells slots : Nat} {Z : State} {a0 : Array Value} {h : Heap} {P : State → Prop} {code : ByteArray} {pc pn pt : Nat} {Ls : Array Slot} {st : List Value}
theorem Gd.of {T' : State} {g g' : JFrame} (k : ∀ t, Steps p.tables e below (T'.setTop g') t → Steps p.tables e below (T.setTop g) t) (q : Gd p e below P T' g') : Gd p e below P T g := q.imp fun t r => ⟨k t r.1, r.2⟩
theorem Gd.cast {g g' : JFrame} (q : g = g') (k : Gd p e below P T g') : Gd p e below P T g := q ▸ k
theorem met_of {y : MethodName} {maxL : Nat} {ret : Option FieldType} {ws : List Jvm.Cond} {rm : Room} {as' : Array Value} {Q : Option Value → Heap → List Loc → Prop} (hp : plainFor y = true)
    (body : ∀ (p : Program) (e : Env) (s : State) (m : MethodId) (below : List Frame) (meth : Method) (c : Code) (T : State), Stand p l e rm s m as' below meth c T [] 0 0 → p.tables.exec = Jvm.exec → c.code = code → c.maxLocals = maxL → Z.Warmed39 s.vm → s.vm.findClass y.cls = some m.cls → meth.name = y.name → meth.sig.returnType = ret → meth.locks = false → T.heap = h → s.heap = h →
      Gd p e below (Fin1 s below rm.cells rm.slots Q) T (entryFrame m as' maxL)) : Met1 l y code maxL ret ws rm as' Z h Q := by
  refine MetFree.of_bodySF hp hisR ?_
  intro p e s m args below meth c s₁ Bd hml0 hP hK
  obtain ⟨rfl, hZ, hh⟩ := hP
  obtain ⟨t, h1, o, h2, h3, h4⟩ := body p e s m below meth c s₁ (Stand.of_body Bd) Bd.exec Bd.bytes hml0 hZ (findClass_of_methodNamed Bd.named) (name_of_methodNamed Bd.named Bd.method).1 Bd.returns Bd.notSynchronized (by rw [← hh, Bd.state]; rfl) hh
  exact ⟨t, o, h1, h2, h3, h4⟩
theorem g_iloadN (X : Stand p l e R s m args below meth c T locs cells slots) (hx : p.tables.exec = Jvm.exec) (hby : c.code = code) {k : Fin 4} {v : Int32} (hd : Ins1 code pc (.iload_n k) 1 pn) (hl : Ls[k.val]? = some (.val (.int v))) (k : Gd p e below P T (mkF m pn Ls (.int v :: st))) : Gd p e below P T (mkF m pc Ls (st)) := by
  obtain ⟨hd, rfl⟩ := hd
  exact k.imp fun t q => ⟨XS.iloadN X.here hx rfl (hb hby hd) hl q.1, q.2⟩
theorem g_iload (X : Stand p l e R s m args below meth c T locs cells slots) (hx : p.tables.exec = Jvm.exec) (hby : c.code = code) {k : Nat} {v : Int32} (hd : Ins1 code pc (.iload k) 2 pn) (hl : Ls[k]? = some (.val (.int v))) (k : Gd p e below P T (mkF m pn Ls (.int v :: st))) : Gd p e below P T (mkF m pc Ls (st)) := by
  obtain ⟨hd, rfl⟩ := hd
  exact k.imp fun t q => ⟨XS.iload X.here hx rfl (hb hby hd) hl q.1, q.2⟩
theorem g_istoreN (X : Stand p l e R s m args below meth c T locs cells slots) (hx : p.tables.exec = Jvm.exec) (hby : c.code = code) {k : Fin 4} {v : Int32} {l' : Array Slot} (hd : Ins1 code pc (.istore_n k) 1 pn) (hl : storeLocals Ls k.val (.int v) = some l') (k : Gd p e below P T (mkF m pn l' (st))) : Gd p e below P T (mkF m pc Ls (.int v :: st)) := by
  obtain ⟨hd, rfl⟩ := hd
  exact k.imp fun t q => ⟨XS.istoreN X.here hx rfl (hb hby hd) rfl hl q.1, q.2⟩
theorem g_istore (X : Stand p l e R s m args below meth c T locs cells slots) (hx : p.tables.exec = Jvm.exec) (hby : c.code = code) {k : Nat} {v : Int32} {l' : Array Slot} (hd : Ins1 code pc (.istore k) 2 pn) (hl : storeLocals Ls k (.int v) = some l') (k : Gd p e below P T (mkF m pn l' (st))) : Gd p e below P T (mkF m pc Ls (.int v :: st)) := by
  obtain ⟨hd, rfl⟩ := hd
  exact k.imp fun t q => ⟨XS.istore X.here hx rfl (hb hby hd) rfl hl q.1, q.2⟩
theorem g_lloadN (X : Stand p l e R s m args below meth c T locs cells slots) (hx : p.tables.exec = Jvm.exec) (hby : c.code = code) {k : Fin 4} {v : Int64} (hd : Ins1 code pc (.lload_n k) 1 pn) (hl : Ls[k.val]? = some (.val (.long v))) (k : Gd p e below P T (mkF m pn Ls (.long v :: st))) : Gd p e below P T (mkF m pc Ls (st)) := by
  obtain ⟨hd, rfl⟩ := hd
  exact k.imp fun t q => ⟨XS.lloadN X.here hx rfl (hb hby hd) hl q.1, q.2⟩
theorem g_lload (X : Stand p l e R s m args below meth c T locs cells slots) (hx : p.tables.exec = Jvm.exec) (hby : c.code = code) {k : Nat} {v : Int64} (hd : Ins1 code pc (.lload k) 2 pn) (hl : Ls[k]? = some (.val (.long v))) (k : Gd p e below P T (mkF m pn Ls (.long v :: st))) : Gd p e below P T (mkF m pc Ls (st)) := by
  obtain ⟨hd, rfl⟩ := hd
  exact k.imp fun t q => ⟨XS.lload X.here hx rfl (hb hby hd) hl q.1, q.2⟩
theorem g_lstoreN (X : Stand p l e R s m args below meth c T locs cells slots) (hx : p.tables.exec = Jvm.exec) (hby : c.code = code) {k : Fin 4} {v : Int64} {l' : Array Slot} (hd : Ins1 code pc (.lstore_n k) 1 pn) (hl : storeLocals Ls k.val (.long v) = some l') (k : Gd p e below P T (mkF m pn l' (st))) : Gd p e below P T (mkF m pc Ls (.long v :: st)) := by
  obtain ⟨hd, rfl⟩ := hd
  exact k.imp fun t q => ⟨XS.lstoreN X.here hx rfl (hb hby hd) rfl hl q.1, q.2⟩
theorem g_lstore (X : Stand p l e R s m args below meth c T locs cells slots) (hx : p.tables.exec = Jvm.exec) (hby : c.code = code) {k : Nat} {v : Int64} {l' : Array Slot} (hd : Ins1 code pc (.lstore k) 2 pn) (hl : storeLocals Ls k (.long v) = some l') (k : Gd p e below P T (mkF m pn l' (st))) : Gd p e below P T (mkF m pc Ls (.long v :: st)) := by
  obtain ⟨hd, rfl⟩ := hd
  exact k.imp fun t q => ⟨XS.lstore X.here hx rfl (hb hby hd) rfl hl q.1, q.2⟩
theorem g_dloadN (X : Stand p l e R s m args below meth c T locs cells slots) (hx : p.tables.exec = Jvm.exec) (hby : c.code = code) {k : Fin 4} {v : UInt64} (hd : Ins1 code pc (.dload_n k) 1 pn) (hl : Ls[k.val]? = some (.val (.double v))) (k : Gd p e below P T (mkF m pn Ls (.double v :: st))) : Gd p e below P T (mkF m pc Ls (st)) := by
  obtain ⟨hd, rfl⟩ := hd
  exact k.imp fun t q => ⟨XS.dloadN X.here hx rfl (hb hby hd) hl q.1, q.2⟩
theorem g_dload (X : Stand p l e R s m args below meth c T locs cells slots) (hx : p.tables.exec = Jvm.exec) (hby : c.code = code) {k : Nat} {v : UInt64} (hd : Ins1 code pc (.dload k) 2 pn) (hl : Ls[k]? = some (.val (.double v))) (k : Gd p e below P T (mkF m pn Ls (.double v :: st))) : Gd p e below P T (mkF m pc Ls (st)) := by
  obtain ⟨hd, rfl⟩ := hd
  exact k.imp fun t q => ⟨XS.dload X.here hx rfl (hb hby hd) hl q.1, q.2⟩
theorem g_dstoreN (X : Stand p l e R s m args below meth c T locs cells slots) (hx : p.tables.exec = Jvm.exec) (hby : c.code = code) {k : Fin 4} {v : UInt64} {l' : Array Slot} (hd : Ins1 code pc (.dstore_n k) 1 pn) (hl : storeLocals Ls k.val (.double v) = some l') (k : Gd p e below P T (mkF m pn l' (st))) : Gd p e below P T (mkF m pc Ls (.double v :: st)) := by
  obtain ⟨hd, rfl⟩ := hd
  exact k.imp fun t q => ⟨XS.dstoreN X.here hx rfl (hb hby hd) rfl hl q.1, q.2⟩
theorem g_dstore (X : Stand p l e R s m args below meth c T locs cells slots) (hx : p.tables.exec = Jvm.exec) (hby : c.code = code) {k : Nat} {v : UInt64} {l' : Array Slot} (hd : Ins1 code pc (.dstore k) 2 pn) (hl : storeLocals Ls k (.double v) = some l') (k : Gd p e below P T (mkF m pn l' (st))) : Gd p e below P T (mkF m pc Ls (.double v :: st)) := by
  obtain ⟨hd, rfl⟩ := hd
  exact k.imp fun t q => ⟨XS.dstore X.here hx rfl (hb hby hd) rfl hl q.1, q.2⟩
theorem g_aloadN (X : Stand p l e R s m args below meth c T locs cells slots) (hx : p.tables.exec = Jvm.exec) (hby : c.code = code) {k : Fin 4} {v : Value} (hd : Ins1 code pc (.aload_n k) 1 pn) (hl : Ls[k.val]? = some (.val v)) (hv : v.isRef = true) (k : Gd p e below P T (mkF m pn Ls (v :: st))) : Gd p e below P T (mkF m pc Ls (st)) := by
  obtain ⟨hd, rfl⟩ := hd
  exact k.imp fun t q => ⟨XS.aloadN X.here hx rfl (hb hby hd) hl hv q.1, q.2⟩
theorem g_aload (X : Stand p l e R s m args below meth c T locs cells slots) (hx : p.tables.exec = Jvm.exec) (hby : c.code = code) {k : Nat} {v : Value} (hd : Ins1 code pc (.aload k) 2 pn) (hl : Ls[k]? = some (.val v)) (hv : v.isRef = true) (k : Gd p e below P T (mkF m pn Ls (v :: st))) : Gd p e below P T (mkF m pc Ls (st)) := by
  obtain ⟨hd, rfl⟩ := hd
  exact k.imp fun t q => ⟨XS.aload X.here hx rfl (hb hby hd) hl hv q.1, q.2⟩
theorem g_astoreN (X : Stand p l e R s m args below meth c T locs cells slots) (hx : p.tables.exec = Jvm.exec) (hby : c.code = code) {k : Fin 4} {v : Value} {l' : Array Slot} (hd : Ins1 code pc (.astore_n k) 1 pn) (hv : v.isRef = true) (hl : storeLocals Ls k.val v = some l') (k : Gd p e below P T (mkF m pn l' (st))) : Gd p e below P T (mkF m pc Ls (v :: st)) := by
  obtain ⟨hd, rfl⟩ := hd
  exact k.imp fun t q => ⟨XS.astoreN X.here hx rfl (hb hby hd) rfl hv hl q.1, q.2⟩
theorem g_astore (X : Stand p l e R s m args below meth c T locs cells slots) (hx : p.tables.exec = Jvm.exec) (hby : c.code = code) {k : Nat} {v : Value} {l' : Array Slot} (hd : Ins1 code pc (.astore k) 2 pn) (hv : v.isRef = true) (hl : storeLocals Ls k v = some l') (k : Gd p e below P T (mkF m pn l' (st))) : Gd p e below P T (mkF m pc Ls (v :: st)) := by
  obtain ⟨hd, rfl⟩ := hd
  exact k.imp fun t q => ⟨XS.astore X.here hx rfl (hb hby hd) rfl hv hl q.1, q.2⟩
theorem g_istoreNW (X : Stand p l e R s m args below meth c T locs cells slots) (hx : p.tables.exec = Jvm.exec) (hby : c.code = code) {k : Fin 4} {v : Int32} {l' : Int32 → Array Slot} (hd : Ins1 code pc (.istore_n k) 1 pn) (hl : ∀ w, storeLocals Ls k.val (.int w) = some (l' w)) (k : ∀ w, w = v → Gd p e below P T (mkF m pn (l' w) st)) : Gd p e below P T (mkF m pc Ls (.int v :: st)) := g_istoreN X hx hby hd (hl v) (k v rfl)
theorem g_istoreW (X : Stand p l e R s m args below meth c T locs cells slots) (hx : p.tables.exec = Jvm.exec) (hby : c.code = code) {k : Nat} {v : Int32} {l' : Int32 → Array Slot} (hd : Ins1 code pc (.istore k) 2 pn) (hl : ∀ w, storeLocals Ls k (.int w) = some (l' w)) (k : ∀ w, w = v → Gd p e below P T (mkF m pn (l' w) st)) : Gd p e below P T (mkF m pc Ls (.int v :: st)) := g_istore X hx hby hd (hl v) (k v rfl)
theorem g_lstoreNW (X : Stand p l e R s m args below meth c T locs cells slots) (hx : p.tables.exec = Jvm.exec) (hby : c.code = code) {k : Fin 4} {v : Int64} {l' : Int64 → Array Slot} (hd : Ins1 code pc (.lstore_n k) 1 pn) (hl : ∀ w, storeLocals Ls k.val (.long w) = some (l' w)) (k : ∀ w, w = v → Gd p e below P T (mkF m pn (l' w) st)) : Gd p e below P T (mkF m pc Ls (.long v :: st)) := g_lstoreN X hx hby hd (hl v) (k v rfl)
theorem g_lstoreW (X : Stand p l e R s m args below meth c T locs cells slots) (hx : p.tables.exec = Jvm.exec) (hby : c.code = code) {k : Nat} {v : Int64} {l' : Int64 → Array Slot} (hd : Ins1 code pc (.lstore k) 2 pn) (hl : ∀ w, storeLocals Ls k (.long w) = some (l' w)) (k : ∀ w, w = v → Gd p e below P T (mkF m pn (l' w) st)) : Gd p e below P T (mkF m pc Ls (.long v :: st)) := g_lstore X hx hby hd (hl v) (k v rfl)
theorem g_iconst (X : Stand p l e R s m args below meth c T locs cells slots) (hx : p.tables.exec = Jvm.exec) (hby : c.code = code) {i : Int} {z : Int32} (hd : Ins1 code pc (.iconst i) 1 pn) (hz : Int32.ofInt i = z) (k : Gd p e below P T (mkF m pn Ls (.int z :: st))) : Gd p e below P T (mkF m pc Ls st) := by
  obtain ⟨hd, rfl⟩ := hd
  subst hz
  exact k.imp fun t q => ⟨XS.iconst X.here hx rfl (hb hby hd) q.1, q.2⟩
theorem g_bipush (X : Stand p l e R s m args below meth c T locs cells slots) (hx : p.tables.exec = Jvm.exec) (hby : c.code = code) {i : Int} {z : Int32} (hd : Ins1 code pc (.bipush i) 2 pn) (hz : (Int8.ofInt i).toInt32 = z) (k : Gd p e below P T (mkF m pn Ls (.int z :: st))) : Gd p e below P T (mkF m pc Ls st) := by
  obtain ⟨hd, rfl⟩ := hd
  subst hz
  exact k.imp fun t q => ⟨XS.bipush X.here hx rfl (hb hby hd) q.1, q.2⟩
theorem g_sipush (X : Stand p l e R s m args below meth c T locs cells slots) (hx : p.tables.exec = Jvm.exec) (hby : c.code = code) {i : Int} {z : Int32} (hd : Ins1 code pc (.sipush i) 3 pn) (hz : (Int16.ofInt i).toInt32 = z) (k : Gd p e below P T (mkF m pn Ls (.int z :: st))) : Gd p e below P T (mkF m pc Ls st) := by
  obtain ⟨hd, rfl⟩ := hd
  subst hz
  exact k.imp fun t q => ⟨XS.sipush X.here hx rfl (hb hby hd) q.1, q.2⟩
theorem g_lconst (X : Stand p l e R s m args below meth c T locs cells slots) (hx : p.tables.exec = Jvm.exec) (hby : c.code = code) {i : Fin 2} {z : Int64} (hd : Ins1 code pc (.lconst i) 1 pn) (hz : Int64.ofNat i = z) (k : Gd p e below P T (mkF m pn Ls (.long z :: st))) : Gd p e below P T (mkF m pc Ls st) := by
  obtain ⟨hd, rfl⟩ := hd
  subst hz
  exact k.imp fun t q => ⟨XS.lconst X.here hx rfl (hb hby hd) q.1, q.2⟩
theorem g_aconst_null (X : Stand p l e R s m args below meth c T locs cells slots) (hx : p.tables.exec = Jvm.exec) (hby : c.code = code)  (hd : Ins1 code pc (.aconst_null) 1 pn) (k : Gd p e below P T (mkF m pn Ls (.null :: st))) : Gd p e below P T (mkF m pc Ls (st)) := by
  obtain ⟨hd, rfl⟩ := hd
  exact k.imp fun t q => ⟨XS.aconstNull X.here hx rfl (hb hby hd)  q.1, q.2⟩
theorem g_iadd (X : Stand p l e R s m args below meth c T locs cells slots) (hx : p.tables.exec = Jvm.exec) (hby : c.code = code) {x y : Int32} (hd : Ins1 code pc (.iadd) 1 pn) (k : Gd p e below P T (mkF m pn Ls (.int (x + y) :: st))) : Gd p e below P T (mkF m pc Ls (.int y :: .int x :: st)) := by
  obtain ⟨hd, rfl⟩ := hd
  exact k.imp fun t q => ⟨XS.iadd X.here hx rfl (hb hby hd) rfl q.1, q.2⟩
theorem g_isub (X : Stand p l e R s m args below meth c T locs cells slots) (hx : p.tables.exec = Jvm.exec) (hby : c.code = code) {x y : Int32} (hd : Ins1 code pc (.isub) 1 pn) (k : Gd p e below P T (mkF m pn Ls (.int (x - y) :: st))) : Gd p e below P T (mkF m pc Ls (.int y :: .int x :: st)) := by
  obtain ⟨hd, rfl⟩ := hd
  exact k.imp fun t q => ⟨XS.isub X.here hx rfl (hb hby hd) rfl q.1, q.2⟩
theorem g_imul (X : Stand p l e R s m args below meth c T locs cells slots) (hx : p.tables.exec = Jvm.exec) (hby : c.code = code) {x y : Int32} (hd : Ins1 code pc (.imul) 1 pn) (k : Gd p e below P T (mkF m pn Ls (.int (x * y) :: st))) : Gd p e below P T (mkF m pc Ls (.int y :: .int x :: st)) := by
  obtain ⟨hd, rfl⟩ := hd
  exact k.imp fun t q => ⟨XS.imul X.here hx rfl (hb hby hd) rfl q.1, q.2⟩
theorem g_iand (X : Stand p l e R s m args below meth c T locs cells slots) (hx : p.tables.exec = Jvm.exec) (hby : c.code = code) {x y : Int32} (hd : Ins1 code pc (.iand) 1 pn) (k : Gd p e below P T (mkF m pn Ls (.int (x &&& y) :: st))) : Gd p e below P T (mkF m pc Ls (.int y :: .int x :: st)) := by
  obtain ⟨hd, rfl⟩ := hd
  exact k.imp fun t q => ⟨XS.iand X.here hx rfl (hb hby hd) rfl q.1, q.2⟩
theorem g_ior (X : Stand p l e R s m args below meth c T locs cells slots) (hx : p.tables.exec = Jvm.exec) (hby : c.code = code) {x y : Int32} (hd : Ins1 code pc (.ior) 1 pn) (k : Gd p e below P T (mkF m pn Ls (.int (x ||| y) :: st))) : Gd p e below P T (mkF m pc Ls (.int y :: .int x :: st)) := by
  obtain ⟨hd, rfl⟩ := hd
  exact k.imp fun t q => ⟨XS.ior X.here hx rfl (hb hby hd) rfl q.1, q.2⟩
theorem g_ixor (X : Stand p l e R s m args below meth c T locs cells slots) (hx : p.tables.exec = Jvm.exec) (hby : c.code = code) {x y : Int32} (hd : Ins1 code pc (.ixor) 1 pn) (k : Gd p e below P T (mkF m pn Ls (.int (x ^^^ y) :: st))) : Gd p e below P T (mkF m pc Ls (.int y :: .int x :: st)) := by
  obtain ⟨hd, rfl⟩ := hd
  exact k.imp fun t q => ⟨XS.ixor X.here hx rfl (hb hby hd) rfl q.1, q.2⟩
theorem g_ladd (X : Stand p l e R s m args below meth c T locs cells slots) (hx : p.tables.exec = Jvm.exec) (hby : c.code = code) {x y : Int64} (hd : Ins1 code pc (.ladd) 1 pn) (k : Gd p e below P T (mkF m pn Ls (.long (x + y) :: st))) : Gd p e below P T (mkF m pc Ls (.long y :: .long x :: st)) := by
  obtain ⟨hd, rfl⟩ := hd
  exact k.imp fun t q => ⟨XS.ladd X.here hx rfl (hb hby hd) rfl q.1, q.2⟩
theorem g_lsub (X : Stand p l e R s m args below meth c T locs cells slots) (hx : p.tables.exec = Jvm.exec) (hby : c.code = code) {x y : Int64} (hd : Ins1 code pc (.lsub) 1 pn) (k : Gd p e below P T (mkF m pn Ls (.long (x - y) :: st))) : Gd p e below P T (mkF m pc Ls (.long y :: .long x :: st)) := by
  obtain ⟨hd, rfl⟩ := hd
  exact k.imp fun t q => ⟨XS.lsub X.here hx rfl (hb hby hd) rfl q.1, q.2⟩
theorem g_lmul (X : Stand p l e R s m args below meth c T locs cells slots) (hx : p.tables.exec = Jvm.exec) (hby : c.code = code) {x y : Int64} (hd : Ins1 code pc (.lmul) 1 pn) (k : Gd p e below P T (mkF m pn Ls (.long (x * y) :: st))) : Gd p e below P T (mkF m pc Ls (.long y :: .long x :: st)) := by
  obtain ⟨hd, rfl⟩ := hd
  exact k.imp fun t q => ⟨XS.lmul X.here hx rfl (hb hby hd) rfl q.1, q.2⟩
theorem g_land (X : Stand p l e R s m args below meth c T locs cells slots) (hx : p.tables.exec = Jvm.exec) (hby : c.code = code) {x y : Int64} (hd : Ins1 code pc (.land) 1 pn) (k : Gd p e below P T (mkF m pn Ls (.long (x &&& y) :: st))) : Gd p e below P T (mkF m pc Ls (.long y :: .long x :: st)) := by
  obtain ⟨hd, rfl⟩ := hd
  exact k.imp fun t q => ⟨XS.land X.here hx rfl (hb hby hd) rfl q.1, q.2⟩
theorem g_lor (X : Stand p l e R s m args below meth c T locs cells slots) (hx : p.tables.exec = Jvm.exec) (hby : c.code = code) {x y : Int64} (hd : Ins1 code pc (.lor) 1 pn) (k : Gd p e below P T (mkF m pn Ls (.long (x ||| y) :: st))) : Gd p e below P T (mkF m pc Ls (.long y :: .long x :: st)) := by
  obtain ⟨hd, rfl⟩ := hd
  exact k.imp fun t q => ⟨XS.lor X.here hx rfl (hb hby hd) rfl q.1, q.2⟩
theorem g_lxor (X : Stand p l e R s m args below meth c T locs cells slots) (hx : p.tables.exec = Jvm.exec) (hby : c.code = code) {x y : Int64} (hd : Ins1 code pc (.lxor) 1 pn) (k : Gd p e below P T (mkF m pn Ls (.long (x ^^^ y) :: st))) : Gd p e below P T (mkF m pc Ls (.long y :: .long x :: st)) := by
  obtain ⟨hd, rfl⟩ := hd
  exact k.imp fun t q => ⟨XS.lxor X.here hx rfl (hb hby hd) rfl q.1, q.2⟩
theorem g_ishl (X : Stand p l e R s m args below meth c T locs cells slots) (hx : p.tables.exec = Jvm.exec) (hby : c.code = code) {x : Int32} {y : Int32} (hd : Ins1 code pc (.ishl) 1 pn) (k : Gd p e below P T (mkF m pn Ls (.int (x <<< (y &&& 31)) :: st))) : Gd p e below P T (mkF m pc Ls (.int y :: .int x :: st)) := by
  obtain ⟨hd, rfl⟩ := hd
  exact k.imp fun t q => ⟨XS.ishl X.here hx rfl (hb hby hd) rfl q.1, q.2⟩
theorem g_ishr (X : Stand p l e R s m args below meth c T locs cells slots) (hx : p.tables.exec = Jvm.exec) (hby : c.code = code) {x : Int32} {y : Int32} (hd : Ins1 code pc (.ishr) 1 pn) (k : Gd p e below P T (mkF m pn Ls (.int (x >>> (y &&& 31)) :: st))) : Gd p e below P T (mkF m pc Ls (.int y :: .int x :: st)) := by
  obtain ⟨hd, rfl⟩ := hd
  exact k.imp fun t q => ⟨XS.ishr X.here hx rfl (hb hby hd) rfl q.1, q.2⟩
theorem g_iushr (X : Stand p l e R s m args below meth c T locs cells slots) (hx : p.tables.exec = Jvm.exec) (hby : c.code = code) {x : Int32} {y : Int32} (hd : Ins1 code pc (.iushr) 1 pn) (k : Gd p e below P T (mkF m pn Ls (.int ((x.toUInt32 >>> (y &&& 31).toUInt32).toInt32) :: st))) : Gd p e below P T (mkF m pc Ls (.int y :: .int x :: st)) := by
  obtain ⟨hd, rfl⟩ := hd
  exact k.imp fun t q => ⟨XS.iushr X.here hx rfl (hb hby hd) rfl q.1, q.2⟩
theorem g_lshl (X : Stand p l e R s m args below meth c T locs cells slots) (hx : p.tables.exec = Jvm.exec) (hby : c.code = code) {x : Int64} {y : Int32} (hd : Ins1 code pc (.lshl) 1 pn) (k : Gd p e below P T (mkF m pn Ls (.long (x <<< (y &&& 0x3f).toInt64) :: st))) : Gd p e below P T (mkF m pc Ls (.int y :: .long x :: st)) := by
  obtain ⟨hd, rfl⟩ := hd
  exact k.imp fun t q => ⟨XS.lshl X.here hx rfl (hb hby hd) rfl q.1, q.2⟩
theorem g_lshr (X : Stand p l e R s m args below meth c T locs cells slots) (hx : p.tables.exec = Jvm.exec) (hby : c.code = code) {x : Int64} {y : Int32} (hd : Ins1 code pc (.lshr) 1 pn) (k : Gd p e below P T (mkF m pn Ls (.long (x >>> (y &&& 0x3f).toInt64) :: st))) : Gd p e below P T (mkF m pc Ls (.int y :: .long x :: st)) := by
  obtain ⟨hd, rfl⟩ := hd
  exact k.imp fun t q => ⟨XS.lshr X.here hx rfl (hb hby hd) rfl q.1, q.2⟩
theorem g_lushr (X : Stand p l e R s m args below meth c T locs cells slots) (hx : p.tables.exec = Jvm.exec) (hby : c.code = code) {x : Int64} {y : Int32} (hd : Ins1 code pc (.lushr) 1 pn) (k : Gd p e below P T (mkF m pn Ls (.long ((x.toUInt64 >>> (y &&& 0x3f).toInt64.toUInt64).toInt64) :: st))) : Gd p e below P T (mkF m pc Ls (.int y :: .long x :: st)) := by
  obtain ⟨hd, rfl⟩ := hd
  exact k.imp fun t q => ⟨XS.lushr X.here hx rfl (hb hby hd) rfl q.1, q.2⟩
theorem g_ineg (X : Stand p l e R s m args below meth c T locs cells slots) (hx : p.tables.exec = Jvm.exec) (hby : c.code = code) {x : Int32} (hd : Ins1 code pc (.ineg) 1 pn) (k : Gd p e below P T (mkF m pn Ls (.int (-x) :: st))) : Gd p e below P T (mkF m pc Ls (.int x :: st)) := by
  obtain ⟨hd, rfl⟩ := hd
  exact k.imp fun t q => ⟨XS.ineg X.here hx rfl (hb hby hd) rfl q.1, q.2⟩
theorem g_lneg (X : Stand p l e R s m args below meth c T locs cells slots) (hx : p.tables.exec = Jvm.exec) (hby : c.code = code) {x : Int64} (hd : Ins1 code pc (.lneg) 1 pn) (k : Gd p e below P T (mkF m pn Ls (.long (-x) :: st))) : Gd p e below P T (mkF m pc Ls (.long x :: st)) := by
  obtain ⟨hd, rfl⟩ := hd
  exact k.imp fun t q => ⟨XS.lneg X.here hx rfl (hb hby hd) rfl q.1, q.2⟩
theorem g_i2l (X : Stand p l e R s m args below meth c T locs cells slots) (hx : p.tables.exec = Jvm.exec) (hby : c.code = code) {x : Int32} (hd : Ins1 code pc (.i2l) 1 pn) (k : Gd p e below P T (mkF m pn Ls (.long x.toInt64 :: st))) : Gd p e below P T (mkF m pc Ls (.int x :: st)) := by
  obtain ⟨hd, rfl⟩ := hd
  exact k.imp fun t q => ⟨XS.i2l X.here hx rfl (hb hby hd) rfl q.1, q.2⟩
theorem g_l2i (X : Stand p l e R s m args below meth c T locs cells slots) (hx : p.tables.exec = Jvm.exec) (hby : c.code = code) {x : Int64} (hd : Ins1 code pc (.l2i) 1 pn) (k : Gd p e below P T (mkF m pn Ls (.int x.toInt32 :: st))) : Gd p e below P T (mkF m pc Ls (.long x :: st)) := by
  obtain ⟨hd, rfl⟩ := hd
  exact k.imp fun t q => ⟨XS.l2i X.here hx rfl (hb hby hd) rfl q.1, q.2⟩
theorem g_i2b (X : Stand p l e R s m args below meth c T locs cells slots) (hx : p.tables.exec = Jvm.exec) (hby : c.code = code) {x : Int32} (hd : Ins1 code pc (.i2b) 1 pn) (k : Gd p e below P T (mkF m pn Ls (.int x.toInt8.toInt32 :: st))) : Gd p e below P T (mkF m pc Ls (.int x :: st)) := by
  obtain ⟨hd, rfl⟩ := hd
  exact k.imp fun t q => ⟨XS.i2b X.here hx rfl (hb hby hd) rfl q.1, q.2⟩
theorem g_i2s (X : Stand p l e R s m args below meth c T locs cells slots) (hx : p.tables.exec = Jvm.exec) (hby : c.code = code) {x : Int32} (hd : Ins1 code pc (.i2s) 1 pn) (k : Gd p e below P T (mkF m pn Ls (.int x.toInt16.toInt32 :: st))) : Gd p e below P T (mkF m pc Ls (.int x :: st)) := by
  obtain ⟨hd, rfl⟩ := hd
  exact k.imp fun t q => ⟨XS.i2s X.here hx rfl (hb hby hd) rfl q.1, q.2⟩
theorem g_i2c (X : Stand p l e R s m args below meth c T locs cells slots) (hx : p.tables.exec = Jvm.exec) (hby : c.code = code) {x : Int32} (hd : Ins1 code pc (.i2c) 1 pn) (k : Gd p e below P T (mkF m pn Ls (.int x.toUInt32.toUInt16.toUInt32.toInt32 :: st))) : Gd p e below P T (mkF m pc Ls (.int x :: st)) := by
  obtain ⟨hd, rfl⟩ := hd
  exact k.imp fun t q => ⟨XS.i2c X.here hx rfl (hb hby hd) rfl q.1, q.2⟩
theorem g_idiv (X : Stand p l e R s m args below meth c T locs cells slots) (hx : p.tables.exec = Jvm.exec) (hby : c.code = code) {x y : Int32} (hd : Ins1 code pc (.idiv) 1 pn) (hy : y ≠ 0) (k : Gd p e below P T (mkF m pn Ls (.int (x / y) :: st))) : Gd p e below P T (mkF m pc Ls (.int y :: .int x :: st)) := by
  obtain ⟨hd, rfl⟩ := hd
  exact k.imp fun t q => ⟨XS.idiv X.here hx rfl (hb hby hd) rfl hy q.1, q.2⟩
theorem g_ldiv (X : Stand p l e R s m args below meth c T locs cells slots) (hx : p.tables.exec = Jvm.exec) (hby : c.code = code) {x y : Int64} (hd : Ins1 code pc (.ldiv) 1 pn) (hy : y ≠ 0) (k : Gd p e below P T (mkF m pn Ls (.long (x / y) :: st))) : Gd p e below P T (mkF m pc Ls (.long y :: .long x :: st)) := by
  obtain ⟨hd, rfl⟩ := hd
  exact k.imp fun t q => ⟨XS.ldiv X.here hx rfl (hb hby hd) rfl hy q.1, q.2⟩
theorem g_lrem (X : Stand p l e R s m args below meth c T locs cells slots) (hx : p.tables.exec = Jvm.exec) (hby : c.code = code) {x y : Int64} (hd : Ins1 code pc (.lrem) 1 pn) (hy : y ≠ 0) (k : Gd p e below P T (mkF m pn Ls (.long (x - (x / y) * y) :: st))) : Gd p e below P T (mkF m pc Ls (.long y :: .long x :: st)) := by
  obtain ⟨hd, rfl⟩ := hd
  exact k.imp fun t q => ⟨XS.lrem X.here hx rfl (hb hby hd) rfl hy q.1, q.2⟩
theorem g_irem (X : Stand p l e R s m args below meth c T locs cells slots) (hx : p.tables.exec = Jvm.exec) (hby : c.code = code) {x y : Int32} (hd : Ins1 code pc .irem 1 pn) (hy : y ≠ 0) (k : Gd p e below P T (mkF m pn Ls (.int (x % y) :: st))) : Gd p e below P T (mkF m pc Ls (.int y :: .int x :: st)) := by
  obtain ⟨hd, rfl⟩ := hd
  exact k.imp fun t q => ⟨iremM X hx rfl (hb hby hd) rfl hy q.1, q.2⟩
theorem g_iinc (X : Stand p l e R s m args below meth c T locs cells slots) (hx : p.tables.exec = Jvm.exec) (hby : c.code = code) {j : Nat} {i : Int} {x z : Int32} {l' : Array Slot} (hd : Ins1 code pc (.iinc j i) 3 pn) (hl : Ls[j]? = some (.val (.int x))) (hz : x + Int32.ofInt i = z) (hs : storeLocals Ls j (.int z) = some l') (k : Gd p e below P T (mkF m pn l' st)) : Gd p e below P T (mkF m pc Ls st) := by
  obtain ⟨hd, rfl⟩ := hd
  subst hz
  exact k.imp fun t q => ⟨XS.iinc X.here hx rfl (hb hby hd) hl hs q.1, q.2⟩
theorem g_dup (X : Stand p l e R s m args below meth c T locs cells slots) (hx : p.tables.exec = Jvm.exec) (hby : c.code = code) {x : Value} (hd : Ins1 code pc (.dup) 1 pn) (hc : x.category = 1) (k : Gd p e below P T (mkF m pn Ls (x :: x :: st))) : Gd p e below P T (mkF m pc Ls (x :: st)) := by
  obtain ⟨hd, rfl⟩ := hd
  exact k.imp fun t q => ⟨XS.dup X.here hx rfl (hb hby hd) rfl hc q.1, q.2⟩
theorem g_dup2 (X : Stand p l e R s m args below meth c T locs cells slots) (hx : p.tables.exec = Jvm.exec) (hby : c.code = code) {x y : Value} (hd : Ins1 code pc (.dup2) 1 pn) (hc : x.category = 1) (hc2 : y.category = 1) (k : Gd p e below P T (mkF m pn Ls (x :: y :: x :: y :: st))) : Gd p e below P T (mkF m pc Ls (x :: y :: st)) := by
  obtain ⟨hd, rfl⟩ := hd
  exact k.imp fun t q => ⟨XT.dup2 X.here hx rfl (hb hby hd) rfl hc hc2 q.1, q.2⟩
theorem g_dup2L (X : Stand p l e R s m args below meth c T locs cells slots) (hx : p.tables.exec = Jvm.exec) (hby : c.code = code) {x : Int64} (hd : Ins1 code pc (.dup2) 1 pn) (k : Gd p e below P T (mkF m pn Ls (.long x :: .long x :: st))) : Gd p e below P T (mkF m pc Ls (.long x :: st)) := by
  obtain ⟨hd, rfl⟩ := hd
  exact k.imp fun t q => ⟨XT.dup2L X.here hx rfl (hb hby hd) rfl q.1, q.2⟩
theorem g_pop (X : Stand p l e R s m args below meth c T locs cells slots) (hx : p.tables.exec = Jvm.exec) (hby : c.code = code) {x : Value} (hd : Ins1 code pc (.pop) 1 pn) (hc : x.category = 1) (k : Gd p e below P T (mkF m pn Ls (st))) : Gd p e below P T (mkF m pc Ls (x :: st)) := by
  obtain ⟨hd, rfl⟩ := hd
  exact k.imp fun t q => ⟨XS.pop X.here hx rfl (hb hby hd) rfl hc q.1, q.2⟩
theorem g_dup_x1 (X : Stand p l e R s m args below meth c T locs cells slots) (hx : p.tables.exec = Jvm.exec) (hby : c.code = code) {x y : Value} (hd : Ins1 code pc (.dup_x1) 1 pn) (hc : x.category = 1) (hc2 : y.category = 1) (k : Gd p e below P T (mkF m pn Ls (x :: y :: x :: st))) : Gd p e below P T (mkF m pc Ls (x :: y :: st)) := by
  obtain ⟨hd, rfl⟩ := hd
  exact k.imp fun t q => ⟨XS.dupX1 X.here hx rfl (hb hby hd) rfl hc hc2 q.1, q.2⟩
theorem g_i2d (X : Stand p l e R s m args below meth c T locs cells slots) (hx : p.tables.exec = Jvm.exec) (hby : c.code = code) {x : Int32} (hd : Ins1 code pc (.i2d) 1 pn) (k : Gd p e below P T (mkF m pn Ls (.double (FP.i2d x) :: st))) : Gd p e below P T (mkF m pc Ls (.int x :: st)) := by
  obtain ⟨hd, rfl⟩ := hd
  exact k.imp fun t q => ⟨XS.i2dS X.here hx rfl (hb hby hd) rfl rfl q.1, q.2⟩
theorem g_l2d (X : Stand p l e R s m args below meth c T locs cells slots) (hx : p.tables.exec = Jvm.exec) (hby : c.code = code) {x : Int64} (hd : Ins1 code pc (.l2d) 1 pn) (k : Gd p e below P T (mkF m pn Ls (.double (FP.l2d x) :: st))) : Gd p e below P T (mkF m pc Ls (.long x :: st)) := by
  obtain ⟨hd, rfl⟩ := hd
  exact k.imp fun t q => ⟨XS.l2dS X.here hx rfl (hb hby hd) rfl rfl q.1, q.2⟩
theorem g_ddiv (X : Stand p l e R s m args below meth c T locs cells slots) (hx : p.tables.exec = Jvm.exec) (hby : c.code = code) {x y : UInt64} (hd : Ins1 code pc (.ddiv) 1 pn) (hn : Jvm.Free.Fl.NoNaN64 (FP.ddiv x y)) (k : Gd p e below P T (mkF m pn Ls (.double (FP.ddiv x y) :: st))) : Gd p e below P T (mkF m pc Ls (.double y :: .double x :: st)) := by
  obtain ⟨hd, rfl⟩ := hd
  exact k.imp fun t q => ⟨XS.ddivS X.here hx rfl (hb hby hd) rfl hn rfl q.1, q.2⟩
theorem g_dcmp (X : Stand p l e R s m args below meth c T locs cells slots) (hx : p.tables.exec = Jvm.exec) (hby : c.code = code) {x y : UInt64} {o : CmpOp} (hd : Ins1 code pc (.dcmp o) 1 pn) (k : Gd p e below P T (mkF m pn Ls (.int (cmpValue (FP.dcmp x y) o) :: st))) : Gd p e below P T (mkF m pc Ls (.double y :: .double x :: st)) := by
  obtain ⟨hd, rfl⟩ := hd
  exact k.imp fun t q => ⟨XS.dcmpS X.here hx rfl (hb hby hd) rfl rfl q.1, q.2⟩
theorem g_dconst0 (X : Stand p l e R s m args below meth c T locs cells slots) (hx : p.tables.exec = Jvm.exec) (hby : c.code = code)  (hd : Ins1 code pc (.dconst 0) 1 pn) (k : Gd p e below P T (mkF m pn Ls (.double FP.dconst0 :: st))) : Gd p e below P T (mkF m pc Ls (st)) := by
  obtain ⟨hd, rfl⟩ := hd
  exact k.imp fun t q => ⟨XS.dconst0 X.here hx rfl (hb hby hd) rfl q.1, q.2⟩
theorem g_dconst1 (X : Stand p l e R s m args below meth c T locs cells slots) (hx : p.tables.exec = Jvm.exec) (hby : c.code = code)  (hd : Ins1 code pc (.dconst 1) 1 pn) (k : Gd p e below P T (mkF m pn Ls (.double FP.dconst1 :: st))) : Gd p e below P T (mkF m pc Ls (st)) := by
  obtain ⟨hd, rfl⟩ := hd
  exact k.imp fun t q => ⟨XS.dconst1 X.here hx rfl (hb hby hd) rfl q.1, q.2⟩
theorem g_lcmp (X : Stand p l e R s m args below meth c T locs cells slots) (hx : p.tables.exec = Jvm.exec) (hby : c.code = code) {x y : Int64} (hd : Ins1 code pc (.lcmp) 1 pn) (k : Gd p e below P T (mkF m pn Ls (.int (lcmpW x y) :: st))) : Gd p e below P T (mkF m pc Ls (.long y :: .long x :: st)) := by
  obtain ⟨hd, rfl⟩ := hd
  exact k.imp fun t q => ⟨XS.lcmp X.here hx rfl (hb hby hd) rfl q.1, q.2⟩
theorem g_goto (X : Stand p l e R s m args below meth c T locs cells slots) (hx : p.tables.exec = Jvm.exec) (hby : c.code = code) {o : Int} (hd : InsB code pc (.goto o) o pn pt) (k : Gd p e below P T (mkF m pt Ls st)) : Gd p e below P T (mkF m pc Ls st) := by
  obtain ⟨hd, -, ho, hp⟩ := hd
  exact k.imp fun t q => ⟨XS.goto X.here hx rfl rfl (hb hby hd) ho hp q.1, q.2⟩
theorem g_icmp_lt (X : Stand p l e R s m args below meth c T locs cells slots) (hx : p.tables.exec = Jvm.exec) (hby : c.code = code) {x y : Int32} {o : Int} (hd : InsB code pc (.if_icmp .lt o) o pn pt) (ky : x < y → Gd p e below P T (mkF m pt Ls st)) (kn : ¬ x < y → Gd p e below P T (mkF m pn Ls st)) : Gd p e below P T (mkF m pc Ls (.int y :: .int x :: st)) := by
  obtain ⟨hd, rfl, ho, hp⟩ := hd
  by_cases w : x < y
  · exact (ky w).imp fun t q => ⟨XS.icmpYes X.here hx rfl rfl (hb hby hd) rfl (tlt w).1 ho hp q.1, q.2⟩
  · exact (kn w).imp fun t q => ⟨XS.icmpNo X.here hx rfl (hb hby hd) rfl (flt w).1 q.1, q.2⟩
theorem g_if_lt (X : Stand p l e R s m args below meth c T locs cells slots) (hx : p.tables.exec = Jvm.exec) (hby : c.code = code) {x : Int32} {o : Int} (hd : InsB code pc (.ifCond .lt o) o pn pt) (ky : x < 0 → Gd p e below P T (mkF m pt Ls st)) (kn : ¬ x < 0 → Gd p e below P T (mkF m pn Ls st)) : Gd p e below P T (mkF m pc Ls (.int x :: st)) := by
  obtain ⟨hd, rfl, ho, hp⟩ := hd
  by_cases w : x < 0
  · exact (ky w).imp fun t q => ⟨XS.ifYes X.here hx rfl rfl (hb hby hd) rfl ((if0 _ _).trans (tlt w).1) ho hp q.1, q.2⟩
  · exact (kn w).imp fun t q => ⟨XS.ifNo X.here hx rfl (hb hby hd) rfl ((if0 _ _).trans (flt w).1) q.1, q.2⟩
theorem g_lcmp_lt (X : Stand p l e R s m args below meth c T locs cells slots) (hx : p.tables.exec = Jvm.exec) (hby : c.code = code) {x y : Int64} {o : Int} {pc1 : Nat} (hc : Ins1 code pc .lcmp 1 pc1) (hd : InsB code pc1 (.ifCond .lt o) o pn pt) (ky : x < y → Gd p e below P T (mkF m pt Ls st)) (kn : ¬ x < y → Gd p e below P T (mkF m pn Ls st)) : Gd p e below P T (mkF m pc Ls (.long y :: .long x :: st)) :=
  g_lcmp X hx hby hc (g_if_lt X hx hby hd (fun w => ky ((lw_lt x y).mp w)) (fun w => kn (fun q => w ((lw_lt x y).mpr q))))
theorem g_icmp_ge (X : Stand p l e R s m args below meth c T locs cells slots) (hx : p.tables.exec = Jvm.exec) (hby : c.code = code) {x y : Int32} {o : Int} (hd : InsB code pc (.if_icmp .ge o) o pn pt) (ky : ¬ x < y → Gd p e below P T (mkF m pt Ls st)) (kn : x < y → Gd p e below P T (mkF m pn Ls st)) : Gd p e below P T (mkF m pc Ls (.int y :: .int x :: st)) := by
  obtain ⟨hd, rfl, ho, hp⟩ := hd
  by_cases w : x < y
  · exact (kn w).imp fun t q => ⟨XS.icmpNo X.here hx rfl (hb hby hd) rfl (tlt w).2.1 q.1, q.2⟩
  · exact (ky w).imp fun t q => ⟨XS.icmpYes X.here hx rfl rfl (hb hby hd) rfl (flt w).2.1 ho hp q.1, q.2⟩
theorem g_if_ge (X : Stand p l e R s m args below meth c T locs cells slots) (hx : p.tables.exec = Jvm.exec) (hby : c.code = code) {x : Int32} {o : Int} (hd : InsB code pc (.ifCond .ge o) o pn pt) (ky : ¬ x < 0 → Gd p e below P T (mkF m pt Ls st)) (kn : x < 0 → Gd p e below P T (mkF m pn Ls st)) : Gd p e below P T (mkF m pc Ls (.int x :: st)) := by
  obtain ⟨hd, rfl, ho, hp⟩ := hd
  by_cases w : x < 0
  · exact (kn w).imp fun t q => ⟨XS.ifNo X.here hx rfl (hb hby hd) rfl ((if0 _ _).trans (tlt w).2.1) q.1, q.2⟩
  · exact (ky w).imp fun t q => ⟨XS.ifYes X.here hx rfl rfl (hb hby hd) rfl ((if0 _ _).trans (flt w).2.1) ho hp q.1, q.2⟩
theorem g_lcmp_ge (X : Stand p l e R s m args below meth c T locs cells slots) (hx : p.tables.exec = Jvm.exec) (hby : c.code = code) {x y : Int64} {o : Int} {pc1 : Nat} (hc : Ins1 code pc .lcmp 1 pc1) (hd : InsB code pc1 (.ifCond .ge o) o pn pt) (ky : ¬ x < y → Gd p e below P T (mkF m pt Ls st)) (kn : x < y → Gd p e below P T (mkF m pn Ls st)) : Gd p e below P T (mkF m pc Ls (.long y :: .long x :: st)) :=
  g_lcmp X hx hby hc (g_if_ge X hx hby hd (fun w => ky (fun q => w ((lw_lt x y).mpr q))) (fun w => kn ((lw_lt x y).mp w)))
theorem g_icmp_gt (X : Stand p l e R s m args below meth c T locs cells slots) (hx : p.tables.exec = Jvm.exec) (hby : c.code = code) {x y : Int32} {o : Int} (hd : InsB code pc (.if_icmp .gt o) o pn pt) (ky : y < x → Gd p e below P T (mkF m pt Ls st)) (kn : ¬ y < x → Gd p e below P T (mkF m pn Ls st)) : Gd p e below P T (mkF m pc Ls (.int y :: .int x :: st)) := by
  obtain ⟨hd, rfl, ho, hp⟩ := hd
  by_cases w : y < x
  · exact (ky w).imp fun t q => ⟨XS.icmpYes X.here hx rfl rfl (hb hby hd) rfl (tlt w).2.2.1 ho hp q.1, q.2⟩
  · exact (kn w).imp fun t q => ⟨XS.icmpNo X.here hx rfl (hb hby hd) rfl (flt w).2.2.1 q.1, q.2⟩
theorem g_if_gt (X : Stand p l e R s m args below meth c T locs cells slots) (hx : p.tables.exec = Jvm.exec) (hby : c.code = code) {x : Int32} {o : Int} (hd : InsB code pc (.ifCond .gt o) o pn pt) (ky : 0 < x → Gd p e below P T (mkF m pt Ls st)) (kn : ¬ 0 < x → Gd p e below P T (mkF m pn Ls st)) : Gd p e below P T (mkF m pc Ls (.int x :: st)) := by
  obtain ⟨hd, rfl, ho, hp⟩ := hd
  by_cases w : 0 < x
  · exact (ky w).imp fun t q => ⟨XS.ifYes X.here hx rfl rfl (hb hby hd) rfl ((if0 _ _).trans (tlt w).2.2.1) ho hp q.1, q.2⟩
  · exact (kn w).imp fun t q => ⟨XS.ifNo X.here hx rfl (hb hby hd) rfl ((if0 _ _).trans (flt w).2.2.1) q.1, q.2⟩
theorem g_lcmp_gt (X : Stand p l e R s m args below meth c T locs cells slots) (hx : p.tables.exec = Jvm.exec) (hby : c.code = code) {x y : Int64} {o : Int} {pc1 : Nat} (hc : Ins1 code pc .lcmp 1 pc1) (hd : InsB code pc1 (.ifCond .gt o) o pn pt) (ky : y < x → Gd p e below P T (mkF m pt Ls st)) (kn : ¬ y < x → Gd p e below P T (mkF m pn Ls st)) : Gd p e below P T (mkF m pc Ls (.long y :: .long x :: st)) :=
  g_lcmp X hx hby hc (g_if_gt X hx hby hd (fun w => ky ((lw_gt x y).mp w)) (fun w => kn (fun q => w ((lw_gt x y).mpr q))))
theorem g_icmp_le (X : Stand p l e R s m args below meth c T locs cells slots) (hx : p.tables.exec = Jvm.exec) (hby : c.code = code) {x y : Int32} {o : Int} (hd : InsB code pc (.if_icmp .le o) o pn pt) (ky : ¬ y < x → Gd p e below P T (mkF m pt Ls st)) (kn : y < x → Gd p e below P T (mkF m pn Ls st)) : Gd p e below P T (mkF m pc Ls (.int y :: .int x :: st)) := by
  obtain ⟨hd, rfl, ho, hp⟩ := hd
  by_cases w : y < x
  · exact (kn w).imp fun t q => ⟨XS.icmpNo X.here hx rfl (hb hby hd) rfl (tlt w).2.2.2 q.1, q.2⟩
  · exact (ky w).imp fun t q => ⟨XS.icmpYes X.here hx rfl rfl (hb hby hd) rfl (flt w).2.2.2 ho hp q.1, q.2⟩
theorem g_if_le (X : Stand p l e R s m args below meth c T locs cells slots) (hx : p.tables.exec = Jvm.exec) (hby : c.code = code) {x : Int32} {o : Int} (hd : InsB code pc (.ifCond .le o) o pn pt) (ky : ¬ 0 < x → Gd p e below P T (mkF m pt Ls st)) (kn : 0 < x → Gd p e below P T (mkF m pn Ls st)) : Gd p e below P T (mkF m pc Ls (.int x :: st)) := by
  obtain ⟨hd, rfl, ho, hp⟩ := hd
  by_cases w : 0 < x
  · exact (kn w).imp fun t q => ⟨XS.ifNo X.here hx rfl (hb hby hd) rfl ((if0 _ _).trans (tlt w).2.2.2) q.1, q.2⟩
  · exact (ky w).imp fun t q => ⟨XS.ifYes X.here hx rfl rfl (hb hby hd) rfl ((if0 _ _).trans (flt w).2.2.2) ho hp q.1, q.2⟩
theorem g_lcmp_le (X : Stand p l e R s m args below meth c T locs cells slots) (hx : p.tables.exec = Jvm.exec) (hby : c.code = code) {x y : Int64} {o : Int} {pc1 : Nat} (hc : Ins1 code pc .lcmp 1 pc1) (hd : InsB code pc1 (.ifCond .le o) o pn pt) (ky : ¬ y < x → Gd p e below P T (mkF m pt Ls st)) (kn : y < x → Gd p e below P T (mkF m pn Ls st)) : Gd p e below P T (mkF m pc Ls (.long y :: .long x :: st)) :=
  g_lcmp X hx hby hc (g_if_le X hx hby hd (fun w => ky (fun q => w ((lw_gt x y).mpr q))) (fun w => kn ((lw_gt x y).mp w)))
theorem g_icmp_eq (X : Stand p l e R s m args below meth c T locs cells slots) (hx : p.tables.exec = Jvm.exec) (hby : c.code = code) {x y : Int32} {o : Int} (hd : InsB code pc (.if_icmp .eq o) o pn pt) (ky : x = y → Gd p e below P T (mkF m pt Ls st)) (kn : ¬ x = y → Gd p e below P T (mkF m pn Ls st)) : Gd p e below P T (mkF m pc Ls (.int y :: .int x :: st)) := by
  obtain ⟨hd, rfl, ho, hp⟩ := hd
  by_cases w : x = y
  · exact (ky w).imp fun t q => ⟨XS.icmpYes X.here hx rfl rfl (hb hby hd) rfl (teq w).1 ho hp q.1, q.2⟩
  · exact (kn w).imp fun t q => ⟨XS.icmpNo X.here hx rfl (hb hby hd) rfl (feq w).1 q.1, q.2⟩
theorem g_if_eq (X : Stand p l e R s m args below meth c T locs cells slots) (hx : p.tables.exec = Jvm.exec) (hby : c.code = code) {x : Int32} {o : Int} (hd : InsB code pc (.ifCond .eq o) o pn pt) (ky : x = 0 → Gd p e below P T (mkF m pt Ls st)) (kn : ¬ x = 0 → Gd p e below P T (mkF m pn Ls st)) : Gd p e below P T (mkF m pc Ls (.int x :: st)) := by
  obtain ⟨hd, rfl, ho, hp⟩ := hd
  by_cases w : x = 0
  · exact (ky w).imp fun t q => ⟨XS.ifYes X.here hx rfl rfl (hb hby hd) rfl ((if0 _ _).trans (teq w).1) ho hp q.1, q.2⟩
  · exact (kn w).imp fun t q => ⟨XS.ifNo X.here hx rfl (hb hby hd) rfl ((if0 _ _).trans (feq w).1) q.1, q.2⟩
theorem g_lcmp_eq (X : Stand p l e R s m args below meth c T locs cells slots) (hx : p.tables.exec = Jvm.exec) (hby : c.code = code) {x y : Int64} {o : Int} {pc1 : Nat} (hc : Ins1 code pc .lcmp 1 pc1) (hd : InsB code pc1 (.ifCond .eq o) o pn pt) (ky : x = y → Gd p e below P T (mkF m pt Ls st)) (kn : ¬ x = y → Gd p e below P T (mkF m pn Ls st)) : Gd p e below P T (mkF m pc Ls (.long y :: .long x :: st)) :=
  g_lcmp X hx hby hc (g_if_eq X hx hby hd (fun w => ky ((lw_eq x y).mp w)) (fun w => kn (fun q => w ((lw_eq x y).mpr q))))
theorem g_icmp_ne (X : Stand p l e R s m args below meth c T locs cells slots) (hx : p.tables.exec = Jvm.exec) (hby : c.code = code) {x y : Int32} {o : Int} (hd : InsB code pc (.if_icmp .ne o) o pn pt) (ky : ¬ x = y → Gd p e below P T (mkF m pt Ls st)) (kn : x = y → Gd p e below P T (mkF m pn Ls st)) : Gd p e below P T (mkF m pc Ls (.int y :: .int x :: st)) := by
  obtain ⟨hd, rfl, ho, hp⟩ := hd
  by_cases w : x = y
  · exact (kn w).imp fun t q => ⟨XS.icmpNo X.here hx rfl (hb hby hd) rfl (teq w).2 q.1, q.2⟩
  · exact (ky w).imp fun t q => ⟨XS.icmpYes X.here hx rfl rfl (hb hby hd) rfl (feq w).2 ho hp q.1, q.2⟩
theorem g_if_ne (X : Stand p l e R s m args below meth c T locs cells slots) (hx : p.tables.exec = Jvm.exec) (hby : c.code = code) {x : Int32} {o : Int} (hd : InsB code pc (.ifCond .ne o) o pn pt) (ky : ¬ x = 0 → Gd p e below P T (mkF m pt Ls st)) (kn : x = 0 → Gd p e below P T (mkF m pn Ls st)) : Gd p e below P T (mkF m pc Ls (.int x :: st)) := by
  obtain ⟨hd, rfl, ho, hp⟩ := hd
  by_cases w : x = 0
  · exact (kn w).imp fun t q => ⟨XS.ifNo X.here hx rfl (hb hby hd) rfl ((if0 _ _).trans (teq w).2) q.1, q.2⟩
  · exact (ky w).imp fun t q => ⟨XS.ifYes X.here hx rfl rfl (hb hby hd) rfl ((if0 _ _).trans (feq w).2) ho hp q.1, q.2⟩
theorem g_lcmp_ne (X : Stand p l e R s m args below meth c T locs cells slots) (hx : p.tables.exec = Jvm.exec) (hby : c.code = code) {x y : Int64} {o : Int} {pc1 : Nat} (hc : Ins1 code pc .lcmp 1 pc1) (hd : InsB code pc1 (.ifCond .ne o) o pn pt) (ky : ¬ x = y → Gd p e below P T (mkF m pt Ls st)) (kn : x = y → Gd p e below P T (mkF m pn Ls st)) : Gd p e below P T (mkF m pc Ls (.long y :: .long x :: st)) :=
  g_lcmp X hx hby hc (g_if_ne X hx hby hd (fun w => ky (fun q => w ((lw_eq x y).mpr q))) (fun w => kn ((lw_eq x y).mp w)))
theorem g_ifnull_y (X : Stand p l e R s m args below meth c T locs cells slots) (hx : p.tables.exec = Jvm.exec) (hby : c.code = code) {o : Int} (hd : InsB code pc (.ifnull o) o pn pt) (k : Gd p e below P T (mkF m pt Ls st)) : Gd p e below P T (mkF m pc Ls (.null :: st)) := by
  obtain ⟨hd, -, ho, hp⟩ := hd
  exact k.imp fun t q => ⟨XS.ifnullYes X.here hx rfl rfl (hb hby hd) rfl ho hp q.1, q.2⟩
theorem g_ifnull_n (X : Stand p l e R s m args below meth c T locs cells slots) (hx : p.tables.exec = Jvm.exec) (hby : c.code = code) {o : Int} {b : Addr} (hd : InsB code pc (.ifnull o) o pn pt) (k : Gd p e below P T (mkF m pn Ls st)) : Gd p e below P T (mkF m pc Ls (.ref b :: st)) := by
  obtain ⟨hd, rfl, ho, hp⟩ := hd
  exact k.imp fun t q => ⟨XS.ifnullNo X.here hx rfl (hb hby hd) rfl q.1, q.2⟩
theorem g_ifnonnull_n (X : Stand p l e R s m args below meth c T locs cells slots) (hx : p.tables.exec = Jvm.exec) (hby : c.code = code) {o : Int} (hd : InsB code pc (.ifnonnull o) o pn pt) (k : Gd p e below P T (mkF m pn Ls st)) : Gd p e below P T (mkF m pc Ls (.null :: st)) := by
  obtain ⟨hd, rfl, ho, hp⟩ := hd
  exact k.imp fun t q => ⟨XS.ifnonnullNo X.here hx rfl (hb hby hd) rfl q.1, q.2⟩
theorem g_ifnonnull_y (X : Stand p l e R s m args below meth c T locs cells slots) (hx : p.tables.exec = Jvm.exec) (hby : c.code = code) {o : Int} {b : Addr} (hd : InsB code pc (.ifnonnull o) o pn pt) (k : Gd p e below P T (mkF m pt Ls st)) : Gd p e below P T (mkF m pc Ls (.ref b :: st)) := by
  obtain ⟨hd, -, ho, hp⟩ := hd
  exact k.imp fun t q => ⟨XS.ifnonnullYes X.here hx rfl rfl (hb hby hd) rfl ho hp q.1, q.2⟩
theorem g_acmp_eq (X : Stand p l e R s m args below meth c T locs cells slots) (hx : p.tables.exec = Jvm.exec) (hby : c.code = code) {o : Int} {x y : Value} (hd : InsB code pc (.if_acmp .eq o) o pn pt) (h1 : x.isRef = true) (h2 : y.isRef = true) (ky : x = y → Gd p e below P T (mkF m pt Ls st)) (kn : ¬ x = y → Gd p e below P T (mkF m pn Ls st)) : Gd p e below P T (mkF m pc Ls (y :: x :: st)) := by
  obtain ⟨hd, hn, ho, hp⟩ := hd
  by_cases w : x = y
  · exact (ky w).imp fun t q => ⟨Jvm.RoadKit.acmp (g := mkF m pc Ls (y :: x :: st)) X hx rfl h1 h2 rfl (hb hby hd) rfl (same := true) (decide_eq_true w) ho (by show _ = ((pc : Int) + o).toNat; exact hp.symm) q.1, q.2⟩
  · exact (kn w).imp fun t q => ⟨Jvm.RoadKit.acmp (g := mkF m pc Ls (y :: x :: st)) X hx rfl h1 h2 rfl (hb hby hd) rfl (same := false) (decide_eq_false w) ho (by show _ = pc + 3; exact hn.symm) q.1, q.2⟩
theorem g_acmp_ne (X : Stand p l e R s m args below meth c T locs cells slots) (hx : p.tables.exec = Jvm.exec) (hby : c.code = code) {o : Int} {x y : Value} (hd : InsB code pc (.if_acmp .ne o) o pn pt) (h1 : x.isRef = true) (h2 : y.isRef = true) (ky : ¬ x = y → Gd p e below P T (mkF m pt Ls st)) (kn : x = y → Gd p e below P T (mkF m pn Ls st)) : Gd p e below P T (mkF m pc Ls (y :: x :: st)) := by
  obtain ⟨hd, hn, ho, hp⟩ := hd
  by_cases w : x = y
  · exact (kn w).imp fun t q => ⟨Jvm.RoadKit.acmp (g := mkF m pc Ls (y :: x :: st)) X hx rfl h1 h2 rfl (hb hby hd) rfl (same := true) (decide_eq_true w) ho (by show _ = pc + 3; exact hn.symm) q.1, q.2⟩
  · exact (ky w).imp fun t q => ⟨Jvm.RoadKit.acmp (g := mkF m pc Ls (y :: x :: st)) X hx rfl h1 h2 rfl (hb hby hd) rfl (same := false) (decide_eq_false w) ho (by show _ = ((pc : Int) + o).toNat; exact hp.symm) q.1, q.2⟩
theorem g_ldcInt (X : Stand p l e R s m args below meth c T locs cells slots) (hx : p.tables.exec = Jvm.exec) (hby : c.code = code) (hZ : Z.Warmed39 s.vm) {own : String} (hown : s.vm.findClass own = some m.cls) {i : Nat} {v : Int32} (w : (Jvm.Cond.constant own i v).before a0 Z = true) (hd : Ins1 code pc (.ldc i) 2 pn) (k : Gd p e below P T (mkF m pn Ls (.int v :: st))) : Gd p e below P T (mkF m pc Ls st) := by
  obtain ⟨hd, rfl⟩ := hd
  exact k.imp fun t q => ⟨X.ldcInt hx hown (mvT hZ w) (g := mkF m pc Ls st) rfl (hb hby hd) _ q.1, q.2⟩
theorem g_ldc2Long (X : Stand p l e R s m args below meth c T locs cells slots) (hx : p.tables.exec = Jvm.exec) (hby : c.code = code) (hZ : Z.Warmed39 s.vm) {own : String} (hown : s.vm.findClass own = some m.cls) {i : Nat} {v : Int64} (w : (Jvm.Cond.constantLong own i v).before a0 Z = true) (hd : Ins1 code pc (.ldc2_w i) 3 pn) (k : Gd p e below P T (mkF m pn Ls (.long v :: st))) : Gd p e below P T (mkF m pc Ls st) := by
  obtain ⟨hd, rfl⟩ := hd
  exact k.imp fun t q => ⟨X.ldc2Long hx hown (mvT hZ w) (g := mkF m pc Ls st) rfl (hb hby hd) _ q.1, q.2⟩
theorem g_getfield (X : Stand p l e R s m args below meth c T locs cells slots) (hx : p.tables.exec = Jvm.exec) (hby : c.code = code) (hZ : Z.Warmed39 s.vm) {own R0 O n d host : String} {index : Nat} (hown : s.vm.findClass own = some m.cls) (w : (Jvm.Cond.fieldLink own index R0 n d).before a0 Z = true ∨ (Jvm.Cond.fieldLinkNest own index R0 n d host).before a0 Z = true) (via : Via Z R0 O n d) (eT : T.heap = h) {a : Addr} {v : Value} (F : Fld Z h a O n d v) (hd : Ins1 code pc (.getfield index) 3 pn)
    (k : ∀ T', Stand p l e R s m args below meth c T' locs cells slots → T'.heap = h → Gd p e below P T' (mkF m pn Ls (v :: st))) : Gd p e below P T (mkF m pc Ls (.ref a :: st)) := by
  obtain ⟨hd, rfl⟩ := hd
  obtain ⟨T', X', e', stp⟩ := getF X hx hZ hown w via eT F (g := mkF m pc Ls (.ref a :: st)) rfl rfl (hb hby hd)
  exact (k T' X' e').of stp
theorem g_getstatic (X : Stand p l e R s m args below meth c T locs cells slots) (hx : p.tables.exec = Jvm.exec) (hby : c.code = code) (hZ : Z.Warmed39 s.vm) {own R0 O n d host : String} {index : Nat} (hown : s.vm.findClass own = some m.cls) (w : (Jvm.Cond.fieldLink own index R0 n d).before a0 Z = true ∨ (Jvm.Cond.fieldLinkNest own index R0 n d host).before a0 Z = true) (via : Via Z R0 O n d) (eT : T.heap = h) {v : Value} (F : Sta Z h O n d v) (hd : Ins1 code pc (.getstatic index) 3 pn)
    (k : ∀ T', Stand p l e R s m args below meth c T' locs cells slots → T'.heap = h → Gd p e below P T' (mkF m pn Ls (v :: st))) : Gd p e below P T (mkF m pc Ls st) := by
  obtain ⟨hd, rfl⟩ := hd
  obtain ⟨T', X', e', stp⟩ := getS2 X hx hZ hown w via eT F (g := mkF m pc Ls st) rfl (hb hby hd)
  exact (k T' X' e').of stp
theorem g_putfield (X : Stand p l e R s m args below meth c T locs cells slots) (hx : p.tables.exec = Jvm.exec) (hby : c.code = code) (hZ : Z.Warmed39 s.vm) {own R0 O n d host C : String} {index kk : Nat} {ty : FieldType} (hown : s.vm.findClass own = some m.cls) (w : (Jvm.Cond.fieldLink own index R0 n d).before a0 Z = true ∨ (Jvm.Cond.fieldLinkNest own index R0 n d host).before a0 Z = true) (via : Via Z R0 O n d) (eT : T.heap = h) {a : Addr} {v old : Value} (F : Fld Z h a O n d old) (E : Exa Z h a C)
    (L : (Jvm.Cond.lays C O n d).before a0 Z = true ∨ ((Jvm.Cond.laysFinal C O n d).before a0 Z = true ∧ own = O ∧ meth.name = "<init>")) (wi : (Jvm.Cond.instantiable C kk).before a0 Z = true) (hty : parseFieldDescriptor d = some ty) (hn : narrow ty v = v) (hf : fits ty v = true) (hd : Ins1 code pc (.putfield index) 3 pn)
    (k : ∀ T' h', Stand p l e R s m args below meth c T' (locs ++ [⟨a, Jvm.RoadKit.slotOf Z O n d⟩]) cells slots → T'.heap = h' → Wr h h' a (Jvm.RoadKit.slotOf Z O n d) v → Gd p e below P T' (mkF m pn Ls st)) : Gd p e below P T (mkF m pc Ls (v :: .ref a :: st)) := by
  obtain ⟨hd, rfl⟩ := hd
  obtain ⟨T', h', X', e', W, stp⟩ := putF X hx hZ hown w via eT F E L wi hty hn hf (g := mkF m pc Ls (v :: .ref a :: st)) rfl rfl (hb hby hd)
  exact (k T' h' X' e' W).of stp
theorem g_putfieldN (X : Stand p l e R s m args below meth c T locs cells slots) (hx : p.tables.exec = Jvm.exec) (hby : c.code = code) (hZ : Z.Warmed39 s.vm) {own R0 O n d C : String} {index kk : Nat} {ty : FieldType} (hown : s.vm.findClass own = some m.cls) (w : (Jvm.Cond.fieldLink own index R0 n d).before a0 Z = true) (via : Via Z R0 O n d) (eT : T.heap = h) {a : Addr} {v v' old : Value} (F : Fld Z h a O n d old) (E : Exa Z h a C)
    (L : (Jvm.Cond.lays C O n d).before a0 Z = true ∨ ((Jvm.Cond.laysFinal C O n d).before a0 Z = true ∧ own = O ∧ meth.name = "<init>")) (wi : (Jvm.Cond.instantiable C kk).before a0 Z = true) (hty : parseFieldDescriptor d = some ty) (hn : narrow ty v = v') (hf : fits ty v' = true) (hd : Ins1 code pc (.putfield index) 3 pn)
    (k : ∀ T' h', Stand p l e R s m args below meth c T' (locs ++ [⟨a, Jvm.RoadKit.slotOf Z O n d⟩]) cells slots → T'.heap = h' → Wr h h' a (Jvm.RoadKit.slotOf Z O n d) v' → Gd p e below P T' (mkF m pn Ls st)) : Gd p e below P T (mkF m pc Ls (v :: .ref a :: st)) := by
  obtain ⟨hd, rfl⟩ := hd
  obtain ⟨T', h', X', e', W, stp⟩ := putFN X hx hZ hown w via eT F E L wi hty hn hf (g := mkF m pc Ls (v :: .ref a :: st)) rfl rfl (hb hby hd)
  exact (k T' h' X' e' W).of stp
theorem g_new (X : Stand p l e R s m args below meth c T locs cells slots) (hx : p.tables.exec = Jvm.exec) (hby : c.code = code) (hZ : Z.Warmed39 s.vm) {own C : String} {index n : Nat} (hown : s.vm.findClass own = some m.cls) (w : (Jvm.Cond.classLink own index C).before a0 Z = true) (wi : (Jvm.Cond.instantiable C n).before a0 Z = true) (wz : (Jvm.Cond.initialized C).before a0 Z = true) (eT : T.heap = h) (hd : Ins1 code pc (.new index) 3 pn) (hc : cells + 1 ≤ R.cells) (hl : slots + n ≤ R.slots)
    (k : ∀ T' h' b, Stand p l e R s m args below meth c T' locs (cells + 1) (slots + n) → T'.heap = h' → Ext h h' → b = h.size → Exa Z h' b C → (∀ {O nm d : String} {ty : FieldType}, Laid Z a0 C O nm d → parseFieldDescriptor d = some ty → Fld Z h' b O nm d (defaultValue ty)) → Gd p e below P T' (mkF m pn Ls (.ref b :: st))) : Gd p e below P T (mkF m pc Ls st) := by
  obtain ⟨hd, rfl⟩ := hd
  obtain ⟨T', h', X', e', E, A, D, -, stp⟩ := newO X hx hZ hown w wi wz eT (g := mkF m pc Ls st) rfl (hb hby hd) hc hl
  exact (k T' h' _ X' e' E rfl A D).of stp
theorem g_newarray (X : Stand p l e R s m args below meth c T locs cells slots) (hx : p.tables.exec = Jvm.exec) (hby : c.code = code) (hZ : Z.Warmed39 s.vm) {aty : ArrayType} {n : Int32} {ty : FieldType} (hty : newarray.typeOf aty = ty) (w : (Jvm.Cond.arrayClass ty).before a0 Z = true) (eT : T.heap = h) (hd : Ins1 code pc (.newarray aty) 2 pn) (hn : ¬ n < 0) (cap : Nat) (hcap : n.toNatClampNeg ≤ cap) (hb' : cap * 8 ≤ 536870912) (hc : cells + 1 ≤ R.cells) (hl : slots + cap ≤ R.slots)
    (k : ∀ T' h' b cA, Stand p l e R s m args below meth c T' locs (cells + 1) (slots + cap) → T'.heap = h' → Ext h h' → b = h.size → Arv Z h' b cA ty n [] (defaultValue ty) → Gd p e below P T' (mkF m pn Ls (.ref b :: st))) : Gd p e below P T (mkF m pc Ls (.int n :: st)) := by
  obtain ⟨hd, rfl⟩ := hd
  subst hty
  obtain ⟨T', h', cA, X', e', E, A, stp⟩ := newP X hx hZ w eT (g := mkF m pc Ls (.int n :: st)) rfl (hb hby hd) rfl hn hcap hb' hc hl
  exact (k T' h' _ cA X' e' E rfl (Arv.new A hn)).of stp
theorem g_iastore (X : Stand p l e R s m args below meth c T locs cells slots) (hx : p.tables.exec = Jvm.exec) (hby : c.code = code) (hZ : Z.Warmed39 s.vm) (eT : T.heap = h) {a : Addr} {kc : ClassId} {z j : Int32} {vs : List Value} {dv : Value} {x : Int32} (A : Arv Z h a kc .int z vs dv) {i : Nat} (hj0 : ¬ j < 0) (hj : j < z) (hji : j.toNatClampNeg = i) (hil : i < vs.length) (hd : Ins1 code pc .iastore 1 pn)
    (k : ∀ T' h', Stand p l e R s m args below meth c T' (locs ++ [⟨a, i⟩]) cells slots → T'.heap = h' → Wr h h' a i (.int x) → Arv Z h' a kc .int z (vs.set i (.int x)) dv → Gd p e below P T' (mkF m pn Ls st)) : Gd p e below P T (mkF m pc Ls (.int x :: .int j :: .ref a :: st)) := by
  obtain ⟨hd, rfl⟩ := hd
  obtain ⟨cl, Ar, q1, S, N, H, G⟩ := A
  obtain ⟨T', h', X', e', W, stp⟩ := stI X hx hZ eT Ar (j := j) (inb_of S ⟨hj0, hj⟩) (g := mkF m pc Ls (.int x :: .int j :: .ref a :: st)) rfl rfl (hb hby hd)
  have V := Arv.set Ar q1 S N H G rfl W i hji hil
  rw [hji] at X' W
  exact (k T' h' X' e' W V).of stp
theorem g_lastore (X : Stand p l e R s m args below meth c T locs cells slots) (hx : p.tables.exec = Jvm.exec) (hby : c.code = code) (hZ : Z.Warmed39 s.vm) (eT : T.heap = h) {a : Addr} {kc : ClassId} {z j : Int32} {vs : List Value} {dv : Value} {x : Int64} (A : Arv Z h a kc .long z vs dv) {i : Nat} (hj0 : ¬ j < 0) (hj : j < z) (hji : j.toNatClampNeg = i) (hil : i < vs.length) (hd : Ins1 code pc .lastore 1 pn)
    (k : ∀ T' h', Stand p l e R s m args below meth c T' (locs ++ [⟨a, i⟩]) cells slots → T'.heap = h' → Wr h h' a i (.long x) → Arv Z h' a kc .long z (vs.set i (.long x)) dv → Gd p e below P T' (mkF m pn Ls st)) : Gd p e below P T (mkF m pc Ls (.long x :: .int j :: .ref a :: st)) := by
  obtain ⟨hd, rfl⟩ := hd
  obtain ⟨cl, Ar, q1, S, N, H, G⟩ := A
  obtain ⟨T', h', X', e', W, stp⟩ := stJ X hx hZ eT Ar (j := j) (inb_of S ⟨hj0, hj⟩) (g := mkF m pc Ls (.long x :: .int j :: .ref a :: st)) rfl rfl (hb hby hd)
  have V := Arv.set Ar q1 S N H G rfl W i hji hil
  rw [hji] at X' W
  exact (k T' h' X' e' W V).of stp
theorem g_castore (X : Stand p l e R s m args below meth c T locs cells slots) (hx : p.tables.exec = Jvm.exec) (hby : c.code = code) (hZ : Z.Warmed39 s.vm) (eT : T.heap = h) {a : Addr} {kc : ClassId} {z j : Int32} {vs : List Value} {dv : Value} {x : Int32} (A : Arv Z h a kc .char z vs dv) {i : Nat} (hj0 : ¬ j < 0) (hj : j < z) (hji : j.toNatClampNeg = i) (hil : i < vs.length) (hd : Ins1 code pc .castore 1 pn)
    (k : ∀ T' h', Stand p l e R s m args below meth c T' (locs ++ [⟨a, i⟩]) cells slots → T'.heap = h' → Wr h h' a i (.int (nar .char x)) → Arv Z h' a kc .char z (vs.set i (.int (nar .char x))) dv → Gd p e below P T' (mkF m pn Ls st)) : Gd p e below P T (mkF m pc Ls (.int x :: .int j :: .ref a :: st)) := by
  obtain ⟨hd, rfl⟩ := hd
  obtain ⟨cl, Ar, q1, S, N, H, G⟩ := A
  obtain ⟨T', h', X', e', W, stp⟩ := stC X hx hZ eT Ar (j := j) (inb_of S ⟨hj0, hj⟩) (g := mkF m pc Ls (.int x :: .int j :: .ref a :: st)) rfl rfl (hb hby hd)
  have V := Arv.set Ar q1 S N H G (fits_nar_char x) W i hji hil
  rw [hji] at X' W
  exact (k T' h' X' e' W V).of stp
theorem g_sastore (X : Stand p l e R s m args below meth c T locs cells slots) (hx : p.tables.exec = Jvm.exec) (hby : c.code = code) (hZ : Z.Warmed39 s.vm) (eT : T.heap = h) {a : Addr} {kc : ClassId} {z j : Int32} {vs : List Value} {dv : Value} {x : Int32} (A : Arv Z h a kc .short z vs dv) {i : Nat} (hj0 : ¬ j < 0) (hj : j < z) (hji : j.toNatClampNeg = i) (hil : i < vs.length) (hd : Ins1 code pc .sastore 1 pn)
    (k : ∀ T' h', Stand p l e R s m args below meth c T' (locs ++ [⟨a, i⟩]) cells slots → T'.heap = h' → Wr h h' a i (.int (nar .short x)) → Arv Z h' a kc .short z (vs.set i (.int (nar .short x))) dv → Gd p e below P T' (mkF m pn Ls st)) : Gd p e below P T (mkF m pc Ls (.int x :: .int j :: .ref a :: st)) := by
  obtain ⟨hd, rfl⟩ := hd
  obtain ⟨cl, Ar, q1, S, N, H, G⟩ := A
  obtain ⟨T', h', X', e', W, stp⟩ := stS X hx hZ eT Ar (j := j) (inb_of S ⟨hj0, hj⟩) (g := mkF m pc Ls (.int x :: .int j :: .ref a :: st)) rfl rfl (hb hby hd)
  have V := Arv.set Ar q1 S N H G (fits_nar_short x) W i hji hil
  rw [hji] at X' W
  exact (k T' h' X' e' W V).of stp
theorem g_bastore (X : Stand p l e R s m args below meth c T locs cells slots) (hx : p.tables.exec = Jvm.exec) (hby : c.code = code) (hZ : Z.Warmed39 s.vm) (eT : T.heap = h) {a : Addr} {kc : ClassId} {z j : Int32} {vs : List Value} {dv : Value} {x : Int32} (A : Arv Z h a kc .byte z vs dv) {i : Nat} (hj0 : ¬ j < 0) (hj : j < z) (hji : j.toNatClampNeg = i) (hil : i < vs.length) (hd : Ins1 code pc .bastore 1 pn)
    (k : ∀ T' h', Stand p l e R s m args below meth c T' (locs ++ [⟨a, i⟩]) cells slots → T'.heap = h' → Wr h h' a i (.int (nar .byte x)) → Arv Z h' a kc .byte z (vs.set i (.int (nar .byte x))) dv → Gd p e below P T' (mkF m pn Ls st)) : Gd p e below P T (mkF m pc Ls (.int x :: .int j :: .ref a :: st)) := by
  obtain ⟨hd, rfl⟩ := hd
  obtain ⟨cl, Ar, q1, S, N, H, G⟩ := A
  obtain ⟨T', h', X', e', W, stp⟩ := stB X hx hZ eT Ar (j := j) (inb_of S ⟨hj0, hj⟩) (g := mkF m pc Ls (.int x :: .int j :: .ref a :: st)) rfl rfl (hb hby hd)
  have V := Arv.set Ar q1 S N H G (fits_nar_byte x) W i hji hil
  rw [hji] at X' W
  exact (k T' h' X' e' W V).of stp
theorem g_iaload (X : Stand p l e R s m args below meth c T locs cells slots) (hx : p.tables.exec = Jvm.exec) (hby : c.code = code) (hZ : Z.Warmed39 s.vm) (eT : T.heap = h) {a : Addr} {kc : ClassId} {z j : Int32} {vs : List Value} {dv v : Value} (A : Arv Z h a kc .int z vs dv) {i : Nat} (hj0 : ¬ j < 0) (hj : j < z) (hji : j.toNatClampNeg = i) (hv : vs.getD i dv = v) (hd : Ins1 code pc .iaload 1 pn)
    (k : Gd p e below P T (mkF m pn Ls (v :: st))) : Gd p e below P T (mkF m pc Ls (.int j :: .ref a :: st)) := by
  obtain ⟨hd, rfl⟩ := hd
  obtain ⟨cl, Ar, q1, S, N, H, G⟩ := A
  have hin := inb_of S ⟨hj0, hj⟩
  exact k.imp fun t q => ⟨X.iaload hx (j := j) (v := v) (by rw [eT]; exact Ar.1) (State.isArrayOf_alike hZ.alike Ar.2.1) Ar.2.2 hin (H.at hin (by rw [hji]; exact hv)) (g := mkF m pc Ls (.int j :: .ref a :: st)) rfl rfl (hb hby hd) _ q.1, q.2⟩
theorem g_laload (X : Stand p l e R s m args below meth c T locs cells slots) (hx : p.tables.exec = Jvm.exec) (hby : c.code = code) (hZ : Z.Warmed39 s.vm) (eT : T.heap = h) {a : Addr} {kc : ClassId} {z j : Int32} {vs : List Value} {dv v : Value} (A : Arv Z h a kc .long z vs dv) {i : Nat} (hj0 : ¬ j < 0) (hj : j < z) (hji : j.toNatClampNeg = i) (hv : vs.getD i dv = v) (hd : Ins1 code pc .laload 1 pn)
    (k : Gd p e below P T (mkF m pn Ls (v :: st))) : Gd p e below P T (mkF m pc Ls (.int j :: .ref a :: st)) := by
  obtain ⟨hd, rfl⟩ := hd
  obtain ⟨cl, Ar, q1, S, N, H, G⟩ := A
  have hin := inb_of S ⟨hj0, hj⟩
  exact k.imp fun t q => ⟨X.laload hx (j := j) (v := v) (by rw [eT]; exact Ar.1) (State.isArrayOf_alike hZ.alike Ar.2.1) Ar.2.2 hin (H.at hin (by rw [hji]; exact hv)) (g := mkF m pc Ls (.int j :: .ref a :: st)) rfl rfl (hb hby hd) _ q.1, q.2⟩
theorem g_caload (X : Stand p l e R s m args below meth c T locs cells slots) (hx : p.tables.exec = Jvm.exec) (hby : c.code = code) (hZ : Z.Warmed39 s.vm) (eT : T.heap = h) {a : Addr} {kc : ClassId} {z j : Int32} {vs : List Value} {dv v : Value} (A : Arv Z h a kc .char z vs dv) {i : Nat} (hj0 : ¬ j < 0) (hj : j < z) (hji : j.toNatClampNeg = i) (hv : vs.getD i dv = v) (hd : Ins1 code pc .caload 1 pn)
    (k : Gd p e below P T (mkF m pn Ls (v :: st))) : Gd p e below P T (mkF m pc Ls (.int j :: .ref a :: st)) := by
  obtain ⟨hd, rfl⟩ := hd
  obtain ⟨cl, Ar, q1, S, N, H, G⟩ := A
  have hin := inb_of S ⟨hj0, hj⟩
  exact k.imp fun t q => ⟨X.caload hx (j := j) (v := v) (by rw [eT]; exact Ar.1) (State.isArrayOf_alike hZ.alike Ar.2.1) Ar.2.2 hin (H.at hin (by rw [hji]; exact hv)) (g := mkF m pc Ls (.int j :: .ref a :: st)) rfl rfl (hb hby hd) _ q.1, q.2⟩
theorem g_saload (X : Stand p l e R s m args below meth c T locs cells slots) (hx : p.tables.exec = Jvm.exec) (hby : c.code = code) (hZ : Z.Warmed39 s.vm) (eT : T.heap = h) {a : Addr} {kc : ClassId} {z j : Int32} {vs : List Value} {dv v : Value} (A : Arv Z h a kc .short z vs dv) {i : Nat} (hj0 : ¬ j < 0) (hj : j < z) (hji : j.toNatClampNeg = i) (hv : vs.getD i dv = v) (hd : Ins1 code pc .saload 1 pn)
    (k : Gd p e below P T (mkF m pn Ls (v :: st))) : Gd p e below P T (mkF m pc Ls (.int j :: .ref a :: st)) := by
  obtain ⟨hd, rfl⟩ := hd
  obtain ⟨cl, Ar, q1, S, N, H, G⟩ := A
  have hin := inb_of S ⟨hj0, hj⟩
  exact k.imp fun t q => ⟨X.saload hx (j := j) (v := v) (by rw [eT]; exact Ar.1) (State.isArrayOf_alike hZ.alike Ar.2.1) Ar.2.2 hin (H.at hin (by rw [hji]; exact hv)) (g := mkF m pc Ls (.int j :: .ref a :: st)) rfl rfl (hb hby hd) _ q.1, q.2⟩
theorem g_baload (X : Stand p l e R s m args below meth c T locs cells slots) (hx : p.tables.exec = Jvm.exec) (hby : c.code = code) (hZ : Z.Warmed39 s.vm) (eT : T.heap = h) {a : Addr} {kc : ClassId} {z j : Int32} {vs : List Value} {dv v : Value} (A : Arv Z h a kc .byte z vs dv) {i : Nat} (hj0 : ¬ j < 0) (hj : j < z) (hji : j.toNatClampNeg = i) (hv : vs.getD i dv = v) (hd : Ins1 code pc .baload 1 pn)
    (k : Gd p e below P T (mkF m pn Ls (v :: st))) : Gd p e below P T (mkF m pc Ls (.int j :: .ref a :: st)) := by
  obtain ⟨hd, rfl⟩ := hd
  obtain ⟨cl, Ar, q1, S, N, H, G⟩ := A
  have hin := inb_of S ⟨hj0, hj⟩
  exact k.imp fun t q => ⟨X.baloadBytes hx (j := j) (v := v) (by rw [eT]; exact Ar.1) (State.isArrayOf_alike hZ.alike Ar.2.1) Ar.2.2 hin (H.at hin (by rw [hji]; exact hv)) (g := mkF m pc Ls (.int j :: .ref a :: st)) rfl rfl (hb hby hd) _ q.1, q.2⟩
theorem g_arraylength (X : Stand p l e R s m args below meth c T locs cells slots) (hx : p.tables.exec = Jvm.exec) (hby : c.code = code) (hZ : Z.Warmed39 s.vm) (eT : T.heap = h) {a : Addr} {kc : ClassId} {ty : FieldType} {z : Int32} {vs : List Value} {dv : Value} (A : Arv Z h a kc ty z vs dv) (hd : Ins1 code pc .arraylength 1 pn) (k : Gd p e below P T (mkF m pn Ls (.int z :: st))) : Gd p e below P T (mkF m pc Ls (.ref a :: st)) := by
  obtain ⟨hd, rfl⟩ := hd
  obtain ⟨cl, Ar, q1, S, N, H, G⟩ := A
  rw [← len_of S N] at k
  exact k.imp fun t q => ⟨X.arraylength hx (by rw [eT]; exact Ar.1) (State.isArrayOf_alike hZ.alike Ar.2.1) (g := mkF m pc Ls (.ref a :: st)) rfl rfl (hb hby hd) _ q.1, q.2⟩
theorem g_objInit (X : Stand p l e R s m args below meth c T locs cells slots) (hx : p.tables.exec = Jvm.exec) (hby : c.code = code) (hZ : Z.Warmed39 s.vm) {own : String} {idx : Nat} (hown : s.vm.findClass own = some m.cls) (w1 : (Jvm.Cond.methodLink own idx Lib.objectInit).before a0 Z = true) (w2 : (Jvm.Cond.instanceMethod Lib.objectInit).before a0 Z = true) (w3 : (Jvm.Cond.code Lib.objectInit ⟨#[0xb1]⟩ 1 none).before a0 Z = true) (eT : T.heap = h) (hsize : Ls.size = c.maxLocals) {a : Addr} (hd : Ins1 code pc (.invokespecial idx) 3 pn)
    (W : Nat) (hW : (st.map fun v => v.category).sum = W) (hf : 1 ≤ R.frames) (hl : W + 12 ≤ R.locals) (k : ∀ T', Stand p l e R s m args below meth c T' locs cells slots → T'.heap = h → Gd p e below P T' (mkF m pn Ls st)) : Gd p e below P T (mkF m pc Ls (.ref a :: st)) := by
  obtain ⟨hd, rfl⟩ := hd
  obtain ⟨T', X', e', stp⟩ := initO X hx hZ hown w1 w2 w3 eT (g := mkF m pc Ls (.ref a :: st)) rfl hsize rfl (hb hby hd) hf (W := W) (by show 2 * 0 + _ ≤ _; rw [hW]; omega) hl
  exact (k T' X' e').of stp
theorem g_callS0 (X : Stand p l e R s m args below meth c T locs cells slots) (hx : p.tables.exec = Jvm.exec) (hby : c.code = code) (hZ : Z.Warmed39 s.vm) {y : MethodName} {bytes : ByteArray} {maxL : Nat} {ret : Option FieldType} {rm : Room} {argsL rest : List Value} {Q : Option Value → Heap → List Loc → Prop} {own : String} {index : Nat} (hown : s.vm.findClass own = some m.cls) (w1 : (Jvm.Cond.methodLink own index y).before a0 Z = true) (w2 : (Jvm.Cond.static y).before a0 Z = true) (w3 : (Jvm.Cond.initialized y.cls).before a0 Z = true) (w4 : (Jvm.Cond.code y bytes maxL ret).before a0 Z = true) (hy : y.cls ≠ "java/lang/invoke/MethodHandle" ∧ y.cls ≠ "java/lang/invoke/VarHandle")
    (M : Met1 l y bytes maxL ret [] rm argsL.toArray Z h Q) (eT : T.heap = h) (hsize : Ls.size = c.maxLocals) {ps : List FieldType} {r : Option FieldType} (hpd : parseMethodDescriptor y.desc = some ⟨ps, r⟩) (hlen : argsL.length = ps.length) (hst : st = argsL.reverse ++ rest) (hd : Ins1 code pc (.invokestatic index) 3 pn) (hf : rm.frames + 1 ≤ R.frames) (W : Nat) (hW : (rest.map fun v => v.category).sum = W) (hl : W + (maxL + 11) + rm.locals ≤ R.locals) (hcl : cells + rm.cells ≤ R.cells) (hsl : slots + rm.slots ≤ R.slots)
    (k : ∀ T' v L, Stand p l e R s m args below meth c T' (locs ++ L) (cells + rm.cells) (slots + rm.slots) → Q v T'.heap L → Gd p e below P T' (mkF m pn Ls (v.toList ++ rest))) : Gd p e below P T (mkF m pc Ls st) := by
  obtain ⟨hd, rfl⟩ := hd
  obtain ⟨v, _, ⟨T', L', k', n'⟩, -, X', ⟨Lc, hQ, l1, y1, z1⟩, stp⟩ := Jvm.LawKit.callS X hx (y := y) hown (mvT hZ w1) (mvT hZ w2) (mvT hZ w3) (mvT hZ w4) hy (backOf (W := W) M hZ w4 w3 hf hl) (g := mkF m pc Ls st) rfl hsize (argsL := argsL) (rest := rest) (lenOf hpd hlen) hst (by show 2 * 0 + _ ≤ _; rw [hW]; omega) (hb hby hd) (fun _ _ => ⟨rfl, eT, hcl, hsl⟩)
  dsimp only [Pt.U, Pt.locs, Pt.cells, Pt.slots] at X' l1 y1 z1 stp hQ
  subst l1 y1 z1
  exact (k T' v Lc X' hQ).of stp
theorem g_callInit0 (X : Stand p l e R s m args below meth c T locs cells slots) (hx : p.tables.exec = Jvm.exec) (hby : c.code = code) (hZ : Z.Warmed39 s.vm) {y : MethodName} {bytes : ByteArray} {maxL : Nat} {rm : Room} {argsL rest : List Value} {Q : Option Value → Heap → List Loc → Prop} {own : String} {index : Nat} (hy1 : y.name = "<init>") (hown : s.vm.findClass own = some m.cls) (w1 : (Jvm.Cond.methodLink own index y).before a0 Z = true) (w2 : (Jvm.Cond.instanceMethod y).before a0 Z = true) (w3 : (Jvm.Cond.initialized y.cls).before a0 Z = true) (w4 : (Jvm.Cond.code y bytes maxL none).before a0 Z = true) (hy : y.cls ≠ "java/lang/invoke/MethodHandle" ∧ y.cls ≠ "java/lang/invoke/VarHandle")
    {a : Addr} (M : Met1 l y bytes maxL none [] rm (.ref a :: argsL).toArray Z h Q) (eT : T.heap = h) (hsize : Ls.size = c.maxLocals) {ps : List FieldType} {r : Option FieldType} (hpd : parseMethodDescriptor y.desc = some ⟨ps, r⟩) (hlen : argsL.length = ps.length) (hst : st = argsL.reverse ++ .ref a :: rest) (hd : Ins1 code pc (.invokespecial index) 3 pn) (hf : rm.frames + 1 ≤ R.frames) (W : Nat) (hW : (rest.map fun v => v.category).sum = W) (hl : W + (maxL + 11) + rm.locals ≤ R.locals) (hcl : cells + rm.cells ≤ R.cells) (hsl : slots + rm.slots ≤ R.slots)
    (k : ∀ T' v L, Stand p l e R s m args below meth c T' (locs ++ L) (cells + rm.cells) (slots + rm.slots) → Q v T'.heap L → Gd p e below P T' (mkF m pn Ls (v.toList ++ rest))) : Gd p e below P T (mkF m pc Ls st) := by
  obtain ⟨hd, rfl⟩ := hd
  obtain ⟨v, _, ⟨T', L', k', n'⟩, -, X', ⟨Lc, hQ, l1, y1, z1⟩, stp⟩ := X.specialBack hx (y := y) hy1 hown (mvT hZ w1) (mvT hZ w2) (mvT hZ w4) hy (backOf (W := W) M hZ w4 w3 hf hl) (g := mkF m pc Ls st) rfl hsize (Steps.refl _) (a := a) (argsL := argsL) (rest := rest) (lenOf hpd hlen) hst (by show 2 * 0 + _ ≤ _; rw [hW]; omega) (hb hby hd) (fun _ _ => ⟨rfl, eT, hcl, hsl⟩)
  dsimp only [Pt.U, Pt.locs, Pt.cells, Pt.slots] at X' l1 y1 z1 stp hQ
  subst l1 y1 z1
  exact (k T' v Lc X' hQ).of fun t q => stp.trans q
theorem g_callV0 (X : Stand p l e R s m args below meth c T locs cells slots) (hx : p.tables.exec = Jvm.exec) (hby : c.code = code) (hZ : Z.Warmed39 s.vm) {y : MethodName} {bytes : ByteArray} {maxL : Nat} {ret : Option FieldType} {rm : Room} {argsL rest : List Value} {Q : Option Value → Heap → List Loc → Prop} {own C : String} {index : Nat} {y0 : MethodName} (hown : s.vm.findClass own = some m.cls) (w1 : (Jvm.Cond.methodLink own index y0).before a0 Z = true) (w2 : (Jvm.Cond.declares y0).before a0 Z = true) (hnf : NotFace s y0) (w5 : (Jvm.Cond.selects C y0 y).before a0 Z = true) (w6 : (Jvm.Cond.instanceMethod y).before a0 Z = true) (w3 : (Jvm.Cond.initialized y.cls).before a0 Z = true) (w4 : (Jvm.Cond.code y bytes maxL ret).before a0 Z = true) (hy : y0.cls ≠ "java/lang/invoke/MethodHandle" ∧ y0.cls ≠ "java/lang/invoke/VarHandle")
    {a : Addr} (E : Exa Z h a C) (M : Met1 l y bytes maxL ret [] rm (.ref a :: argsL).toArray Z h Q) (eT : T.heap = h) (hsize : Ls.size = c.maxLocals) {ps : List FieldType} {r : Option FieldType} (hpd : parseMethodDescriptor y0.desc = some ⟨ps, r⟩) (hlen : argsL.length = ps.length) (hst : st = argsL.reverse ++ .ref a :: rest) (hd : Ins1 code pc (.invokevirtual index) 3 pn) (hf : rm.frames + 1 ≤ R.frames) (W : Nat) (hW : (rest.map fun v => v.category).sum = W) (hl : W + (maxL + 11) + rm.locals ≤ R.locals) (hcl : cells + rm.cells ≤ R.cells) (hsl : slots + rm.slots ≤ R.slots)
    (k : ∀ T' v L, Stand p l e R s m args below meth c T' (locs ++ L) (cells + rm.cells) (slots + rm.slots) → Q v T'.heap L → Gd p e below P T' (mkF m pn Ls (v.toList ++ rest))) : Gd p e below P T (mkF m pc Ls st) := by
  obtain ⟨hd, rfl⟩ := hd
  obtain ⟨cq, kq, qa, qb, qc⟩ := isOf hZ eT E
  obtain ⟨v, _, ⟨T', L', k', n'⟩, -, X', ⟨Lc, hQ, l1, y1, z1⟩, stp⟩ := X.virtualBack hx (y := y0) (z := y) hown (mvT hZ w1) (mvT hZ w2) hnf (mvT hZ w5) (mvT hZ w6) hy (backOf (W := W) M hZ w4 w3 hf hl) qa qc (g := mkF m pc Ls st) rfl hsize (Steps.refl _) (argsL := argsL) (rest := rest) (lenOf hpd hlen) hst (by show 2 * 0 + _ ≤ _; rw [hW]; omega) (hb hby hd) (fun _ _ => ⟨rfl, eT, hcl, hsl⟩)
  dsimp only [Pt.U, Pt.locs, Pt.cells, Pt.slots] at X' l1 y1 z1 stp hQ
  subst l1 y1 z1
  exact (k T' v Lc X' hQ).of fun t q => stp.trans q
theorem g_ireturn (X : Stand p l e R s m args below meth c T locs cells slots) (hx : p.tables.exec = Jvm.exec) (hby : c.code = code) (hret : meth.sig.returnType = some .int) (hlk : meth.locks = false) {z : Int32} {Q : Option Value → Heap → List Loc → Prop} {C S : Nat} (hd : Ins1 code pc .ireturn 1 pn) (hc : cells ≤ C) (hs : slots ≤ S) (hQ : Q (some (.int z)) T.heap locs) : Gd p e below (Fin1 s below C S Q) T (mkF m pc Ls (.int z :: st)) := by
  obtain ⟨fs, hr, hrun, hended, hW, hsame⟩ := X.leave (v := some (.int z)) (fun q => by rw [hret] at q; cases q) hlk
  exact ⟨_, retOut X hx (t := .int) hret rfl (Or.inl ⟨rfl, Or.inl rfl, z, rfl⟩) (hb hby hd.1) hr, _, hrun, hended, _, _, rfl, hQ, ⟨_, rfl⟩, hW, hsame.mono hc hs⟩
theorem g_ireturnN (X : Stand p l e R s m args below meth c T locs cells slots) (hx : p.tables.exec = Jvm.exec) (hby : c.code = code) {ty : FieldType} (hret : meth.sig.returnType = some ty) (hty : ty = .boolean ∨ ty = .byte ∨ ty = .char ∨ ty = .short) (hlk : meth.locks = false) {z : Int32} {Q : Option Value → Heap → List Loc → Prop} {C S : Nat} (hd : Ins1 code pc .ireturn 1 pn) (hc : cells ≤ C) (hs : slots ≤ S) (hQ : Q (some (.int (nar ty z))) T.heap locs) : Gd p e below (Fin1 s below C S Q) T (mkF m pc Ls (.int z :: st)) := by
  obtain ⟨fs, hr, hrun, hended, hW, hsame⟩ := X.leave (v := some (.int (nar ty z))) (fun q => by rw [hret] at q; cases q) hlk
  exact ⟨_, retN X hx hret hty (hb hby hd.1) hr, _, hrun, hended, _, _, rfl, hQ, ⟨_, rfl⟩, hW, hsame.mono hc hs⟩
theorem g_lreturn (X : Stand p l e R s m args below meth c T locs cells slots) (hx : p.tables.exec = Jvm.exec) (hby : c.code = code) (hret : meth.sig.returnType = some .long) (hlk : meth.locks = false) {z : Int64} {Q : Option Value → Heap → List Loc → Prop} {C S : Nat} (hd : Ins1 code pc .lreturn 1 pn) (hc : cells ≤ C) (hs : slots ≤ S) (hQ : Q (some (.long z)) T.heap locs) : Gd p e below (Fin1 s below C S Q) T (mkF m pc Ls (.long z :: st)) := by
  obtain ⟨fs, hr, hrun, hended, hW, hsame⟩ := X.leave (v := some (.long z)) (fun q => by rw [hret] at q; cases q) hlk
  exact ⟨_, retOut X hx (t := .long) hret rfl (Or.inr (Or.inl ⟨rfl, rfl, z, rfl⟩)) (hb hby hd.1) hr, _, hrun, hended, _, _, rfl, hQ, ⟨_, rfl⟩, hW, hsame.mono hc hs⟩
theorem g_dreturn (X : Stand p l e R s m args below meth c T locs cells slots) (hx : p.tables.exec = Jvm.exec) (hby : c.code = code) (hret : meth.sig.returnType = some .double) (hlk : meth.locks = false) {z : UInt64} {Q : Option Value → Heap → List Loc → Prop} {C S : Nat} (hd : Ins1 code pc .dreturn 1 pn) (hc : cells ≤ C) (hs : slots ≤ S) (hQ : Q (some (.double z)) T.heap locs) : Gd p e below (Fin1 s below C S Q) T (mkF m pc Ls (.double z :: st)) := by
  obtain ⟨fs, hr, hrun, hended, hW, hsame⟩ := X.leave (v := some (.double z)) (fun q => by rw [hret] at q; cases q) hlk
  exact ⟨_, retOut X hx (t := .double) hret rfl (Or.inr (Or.inr (Or.inl ⟨rfl, rfl, z, rfl⟩))) (hb hby hd.1) hr, _, hrun, hended, _, _, rfl, hQ, ⟨_, rfl⟩, hW, hsame.mono hc hs⟩
theorem g_areturn (X : Stand p l e R s m args below meth c T locs cells slots) (hx : p.tables.exec = Jvm.exec) (hby : c.code = code) {ty : FieldType} (hret : meth.sig.returnType = some ty) (hty : ty.isReference = true) (hn : ∀ v, narrow ty v = v) (hlk : meth.locks = false) {z : Value} (hz : z.isRef = true) {Q : Option Value → Heap → List Loc → Prop} {C S : Nat} (hd : Ins1 code pc .areturn 1 pn) (hc : cells ≤ C) (hs : slots ≤ S) (hQ : Q (some z) T.heap locs) : Gd p e below (Fin1 s below C S Q) T (mkF m pc Ls (z :: st)) := by
  obtain ⟨fs, hr, hrun, hended, hW, hsame⟩ := X.leave (v := some z) (fun q => by rw [hret] at q; cases q) hlk
  exact ⟨_, retOut X hx hret (hn z) (Or.inr (Or.inr (Or.inr (Or.inr ⟨rfl, hty, hz⟩)))) (hb hby hd.1) hr, _, hrun, hended, _, _, rfl, hQ, ⟨_, rfl⟩, hW, hsame.mono hc hs⟩
theorem g_return (X : Stand p l e R s m args below meth c T locs cells slots) (hx : p.tables.exec = Jvm.exec) (hby : c.code = code) (hret : meth.sig.returnType = none) (hlk : meth.locks = false) {Q : Option Value → Heap → List Loc → Prop} {C S : Nat} (hd : Ins1 code pc .return_ 1 pn) (hc : cells ≤ C) (hs : slots ≤ S) (hQ : Q none T.heap locs) : Gd p e below (Fin1 s below C S Q) T (mkF m pc Ls []) := by
  obtain ⟨fs, hr, hrun, hended, hW, hsame⟩ := X.leave (v := none) (fun _ => rfl) hlk
  exact ⟨_, X.returnOut hx hret (hb hby hd.1) hr, _, hrun, hended, _, _, rfl, hQ, ⟨_, rfl⟩, hW, hsame.mono hc hs⟩
theorem own_stat {C n d K : String} (hx : (Jvm.Cond.exactly (.static C n d) K).value args Z none Z [] = some true) (w1 : (Jvm.Cond.initialized C).before args Z = true) (w2 : (Jvm.Cond.laysStatic C n d).before args Z = true) : ∃ a, (Term.static C n d).eval args Z none [] Z = some (.ref a) ∧ Sta Z Z.heap C n d (.ref a) ∧ Exa Z Z.heap a K := by
  obtain ⟨a, c', cell, k, e1, -⟩ := Cond.exactly_spec (Cond.before_iff.mpr hx)
  exact ⟨a, e1, Sta.start e1 (Or.inr ⟨w1, w2⟩), Exa.start e1 hx⟩
theorem own_sfld {t : Term} {a : Addr} {C f dd : String} {n : Int32} (ev : t.eval args Z none [] Z = some (.ref a)) (q : (Jvm.Cond.eq (.field t C f dd) (.int n)).value args Z none Z [] = some true) : Fld Z Z.heap a C f dd (.int n) := Fld.start (by rw [← fld_at (C := C) (n := f) (dd := dd) ev]; exact eqv_i (Term.int_eval n) q)
end K
end Jvm.OwnG
namespace Jvm.Pilot.@@N@@
open Jvm Jvm.ClassFile Sem Op Lib Jvm.Free Jvm.Stand Jvm.LawKit Jvm.RoadKit Jvm.OwnG Bundle Jvm.Pilot.@@N@@.Jvm.D
theorem own_b {v x : Int32} (hv : v = (x &&& (1048575 : Int32)) + (1 : Int32)) : v ≠ 0 := by
  have m := c_mask x 1048575 20 (by decide) (by decide)
  have e0 : (0 : Int32).toInt = 0 := by decide
  have e1 : (1 : Int32).toInt = 1 := by decide
  have a := c_iadd (x &&& 1048575) 1
  have r := rng32 ((x &&& 1048575) + 1)
  rw [e1, ← hv] at a
  rw [← hv] at r
  intro q
  rw [← Int32.toInt_inj, e0] at q
  omega
theorem own_nn (a b : Int32) (hb : b ≠ 0) : Jvm.Free.Fl.NoNaN64 (FP.ddiv (FP.i2d a) (FP.i2d b)) := by
  have h1 : Jvm.Free.Fl.Mag64 1056 (FP.i2d a) := Jvm.Free.Fl.i2d_mag a
  have h2 : b.toInt64 ≠ 0 := fun q => hb (by
    have e := c_i2l b
    rw [q] at e
    apply Int32.toInt_inj.mp
    rw [← e]
    decide)
  have h3 : Big64 1023 (FP.i2d b) := by rw [i2d_w]; exact l2d_big h2
  exact ((ddiv_mag h1 h3 (by decide) (by decide)).fin (by decide)).noNaN
theorem i1_0 : Ins1 prog_9_method_2_code 0 (.dload_n 0) 1 1 := ⟨by decide +kernel, rfl⟩
theorem i1_1 : Ins1 prog_9_method_2_code 1 (.dconst 0) 1 2 := ⟨by decide +kernel, rfl⟩
theorem i1_2 : Ins1 prog_9_method_2_code 2 (.dcmp .l) 1 3 := ⟨by decide +kernel, rfl⟩
theorem i1_3 : InsB prog_9_method_2_code 3 (.ifCond .lt 9) 9 6 12 := ⟨by decide +kernel, rfl, by decide, by decide⟩
theorem i1_6 : Ins1 prog_9_method_2_code 6 (.dload_n 0) 1 7 := ⟨by decide +kernel, rfl⟩
theorem i1_7 : Ins1 prog_9_method_2_code 7 (.dconst 1) 1 8 := ⟨by decide +kernel, rfl⟩
theorem i1_8 : Ins1 prog_9_method_2_code 8 (.dcmp .g) 1 9 := ⟨by decide +kernel, rfl⟩
theorem i1_9 : InsB prog_9_method_2_code 9 (.ifCond .lt 17) 17 12 26 := ⟨by decide +kernel, rfl, by decide, by decide⟩
theorem i1_12 : Ins1 prog_9_method_2_code 12 (.new 17) 3 15 := ⟨by decide +kernel, rfl⟩
theorem i1_15 : Ins1 prog_9_method_2_code 15 (.dup) 1 16 := ⟨by decide +kernel, rfl⟩
theorem i1_16 : Ins1 prog_9_method_2_code 16 (.dload_n 0) 1 17 := ⟨by decide +kernel, rfl⟩
theorem i1_22 : Ins1 prog_9_method_2_code 22 (.invokespecial 23) 3 25 := ⟨by decide +kernel, rfl⟩
theorem i1_25 : Ins1 prog_9_method_2_code 25 (.athrow) 1 26 := ⟨by decide +kernel, rfl⟩
theorem i1_26 : Ins1 prog_9_method_2_code 26 (.dload_n 0) 1 27 := ⟨by decide +kernel, rfl⟩
theorem i1_27 : Ins1 prog_9_method_2_code 27 (.dreturn) 1 28 := ⟨by decide +kernel, rfl⟩
theorem pn_com_example_cloudgavel_cloudgavel_core_ExCore : plainName "com/example/cloudgavel/cloudgavel/core/ExCore" = true := by first | (simp [plainName, overriddenIn]; done) | decide +kernel
theorem ef_1 (m : MethodId) (d0 : UInt64) : entryFrame m #[(.double d0)] 2 = mkF m 0 #[.val (.double d0), .second] [] := by first | (simp [entryFrame, mkF, argsToLocals, Value.category]; done) | rfl
set_option maxRecDepth 65536 in
set_option maxHeartbeats 40000000 in
theorem rm1 (l : Launch) (Z : State) (a0 : Array Value) (hw : ∀ d ∈ tables_1, d.before a0 Z = true) (ws : List Jvm.Cond) (d0 : UInt64)  (h0 : Heap) (n0 : Nat) (Z0 : n0 ≤ h0.size) (c1 : ¬ cmpValue (FP.dcmp d0 FP.dconst0) .l < (0 : Int32)) (c2 : cmpValue (FP.dcmp d0 FP.dconst1) .g < (0 : Int32)) :
    Met1 l (⟨"com/example/cloudgavel/cloudgavel/core/ExCore", "requireFraction", "(D)D"⟩ : MethodName) prog_9_method_2_code 2 (some .double) ws ({ frames := 0, cells := 0, slots := 0, locals := 0 } : Room) #[(.double d0)] Z h0 (RV fun z h L => z = .double d0 ∧ h = h0 ∧ Fr n0 L) := by
  refine met_of (plainFor_of_name pn_com_example_cloudgavel_cloudgavel_core_ExCore) ?_
  intro p e s m below meth c T0 X0 hx hby hml hZ hown hnm hret hlk e0 es
  have N0 := Fr.nil n0
  refine Gd.cast (ef_1 m d0) ?_
  refine g_dloadN X0 hx hby i1_0 rfl ?_
  refine g_dconst0 X0 hx hby i1_1 ?_
  refine g_dcmp X0 hx hby i1_2 ?_
  refine g_if_lt X0 hx hby i1_3 (fun c3_1 => False.elim (c1 c3_1)) fun c3_1 => ?_
  refine g_dloadN X0 hx hby i1_6 rfl ?_
  refine g_dconst1 X0 hx hby i1_7 ?_
  refine g_dcmp X0 hx hby i1_8 ?_
  refine g_if_lt X0 hx hby i1_9 (fun c9_2 => ?_) (fun c9_2 => False.elim (c9_2 c2))
  refine g_dloadN X0 hx hby i1_26 rfl ?_
  refine g_dreturn X0 hx hby hret hlk i1_27 (by decide) (by decide) ?_
  exact ⟨_, rfl, rfl, e0, N0⟩
theorem i0_0 : Ins1 code 0 (.iload_n 0) 1 1 := ⟨at_0, rfl⟩
theorem i0_1 : Ins1 code 1 (.ldc 7) 2 3 := ⟨at_1, rfl⟩
theorem i0_3 : Ins1 code 3 (.iand) 1 4 := ⟨at_3, rfl⟩
theorem i0_4 : Ins1 code 4 (.iconst 1) 1 5 := ⟨at_4, rfl⟩
theorem i0_5 : Ins1 code 5 (.iadd) 1 6 := ⟨at_5, rfl⟩
theorem i0_6 : Ins1 code 6 (.istore_n 2) 1 7 := ⟨at_6, rfl⟩
theorem i0_7 : Ins1 code 7 (.iload_n 1) 1 8 := ⟨at_7, rfl⟩
theorem i0_8 : Ins1 code 8 (.ldc 8) 2 10 := ⟨at_8, rfl⟩
theorem i0_10 : Ins1 code 10 (.iand) 1 11 := ⟨at_10, rfl⟩
theorem i0_11 : Ins1 code 11 (.iload_n 2) 1 12 := ⟨at_11, rfl⟩
theorem i0_12 : Ins1 code 12 (.irem) 1 13 := ⟨at_12, rfl⟩
theorem i0_13 : Ins1 code 13 (.istore_n 3) 1 14 := ⟨at_13, rfl⟩
theorem i0_14 : Ins1 code 14 (.iload_n 3) 1 15 := ⟨at_14, rfl⟩
theorem i0_15 : Ins1 code 15 (.i2d) 1 16 := ⟨at_15, rfl⟩
theorem i0_16 : Ins1 code 16 (.iload_n 2) 1 17 := ⟨at_16, rfl⟩
theorem i0_17 : Ins1 code 17 (.i2d) 1 18 := ⟨at_17, rfl⟩
theorem i0_18 : Ins1 code 18 (.ddiv) 1 19 := ⟨at_18, rfl⟩
theorem i0_19 : Ins1 code 19 (.dstore 4) 2 21 := ⟨at_19, rfl⟩
theorem i0_21 : Ins1 code 21 (.dload 4) 2 23 := ⟨at_21, rfl⟩
theorem i0_23 : Ins1 code 23 (.dconst 0) 1 24 := ⟨at_23, rfl⟩
theorem i0_24 : Ins1 code 24 (.dcmp .l) 1 25 := ⟨at_24, rfl⟩
theorem i0_25 : InsB code 25 (.ifCond .lt 10) 10 28 35 := ⟨at_25, rfl, by decide, by decide⟩
theorem i0_28 : Ins1 code 28 (.dload 4) 2 30 := ⟨at_28, rfl⟩
theorem i0_30 : Ins1 code 30 (.dconst 1) 1 31 := ⟨at_30, rfl⟩
theorem i0_31 : Ins1 code 31 (.dcmp .g) 1 32 := ⟨at_31, rfl⟩
theorem i0_32 : InsB code 32 (.ifCond .lt 5) 5 35 37 := ⟨at_32, rfl, by decide, by decide⟩
theorem i0_35 : Ins1 code 35 (.iconst 1) 1 36 := ⟨at_35, rfl⟩
theorem i0_36 : Ins1 code 36 (.ireturn) 1 37 := ⟨at_36, rfl⟩
theorem i0_37 : Ins1 code 37 (.dload 4) 2 39 := ⟨at_37, rfl⟩
theorem i0_39 : Ins1 code 39 (.invokestatic 9) 3 42 := ⟨at_39, rfl⟩
theorem i0_42 : Ins1 code 42 (.dstore 6) 2 44 := ⟨at_42, rfl⟩
theorem i0_44 : Ins1 code 44 (.dload 6) 2 46 := ⟨at_44, rfl⟩
theorem i0_46 : Ins1 code 46 (.dload 4) 2 48 := ⟨at_46, rfl⟩
theorem i0_48 : Ins1 code 48 (.dcmp .l) 1 49 := ⟨at_48, rfl⟩
theorem i0_49 : InsB code 49 (.ifCond .ne 7) 7 52 56 := ⟨at_49, rfl, by decide, by decide⟩
theorem i0_52 : Ins1 code 52 (.iconst 1) 1 53 := ⟨at_52, rfl⟩
theorem i0_53 : InsB code 53 (.goto 4) 4 56 57 := ⟨at_53, rfl, by decide, by decide⟩
theorem i0_56 : Ins1 code 56 (.iconst 0) 1 57 := ⟨at_56, rfl⟩
theorem i0_57 : Ins1 code 57 (.ireturn) 1 58 := ⟨at_57, rfl⟩
theorem pn_com_example_cloudgavel_cloudgavel_core_ExCoreRequireFractionPinLaw : plainName "com/example/cloudgavel/cloudgavel/core/ExCoreRequireFractionPinLaw" = true := by first | (simp [plainName, overriddenIn]; done) | decide +kernel
theorem ef_0 (m : MethodId) (p0 : Int32) (p1 : Int32) : entryFrame m #[(.int p0), (.int p1)] maxLocals = mkF m 0 #[.val (.int p0), .val (.int p1), .unset, .unset, .unset, .unset, .unset, .unset] [] := by first | (simp [entryFrame, mkF, argsToLocals, Value.category, maxLocals]; done) | rfl
theorem pd_0 : parseMethodDescriptor "(D)D" = some ⟨[.double], some .double⟩ := by decide +kernel
set_option maxRecDepth 65536 in
set_option maxHeartbeats 40000000 in
theorem rm0 (l : Launch) (Z : State) (a0 : Array Value) (hw : ∀ d ∈ tables_1, d.before a0 Z = true) (ws : List Jvm.Cond) (p0 : Int32) (p1 : Int32)  (h0 : Heap) (n0 : Nat) (Z0 : n0 ≤ h0.size)  :
    Met1 l x code maxLocals ret ws room_1 #[(.int p0), (.int p1)] Z h0 (RV fun z _ L => z = .int 1 ∧ Fr n0 L) := by
  refine met_of (plainFor_of_name pn_com_example_cloudgavel_cloudgavel_core_ExCoreRequireFractionPinLaw) ?_
  intro p e s m below meth c T0 X0 hx hby hml hZ hown hnm hret hlk e0 es
  have N0 := Fr.nil n0
  refine Gd.cast (ef_0 m p0 p1) ?_
  replace hown : s.vm.findClass "com/example/cloudgavel/cloudgavel/core/ExCoreRequireFractionPinLaw" = some m.cls := hown
  refine g_iloadN X0 hx hby i0_0 rfl ?_
  refine g_ldcInt X0 hx hby hZ hown (hw _ (List.mem_of_getElem? (i := 0) rfl)) i0_1 ?_
  refine g_iand X0 hx hby i0_3 ?_
  refine g_iconst X0 hx hby i0_4 (z := (1 : Int32)) (by decide) ?_
  refine g_iadd X0 hx hby i0_5 ?_
  refine g_istoreNW X0 hx hby i0_6 (l' := fun v1 => #[.val (.int p0), .val (.int p1), .val (.int v1), .unset, .unset, .unset, .unset, .unset]) (fun _ => rfl) fun v1 hv1 => ?_
  refine g_iloadN X0 hx hby i0_7 rfl ?_
  refine g_ldcInt X0 hx hby hZ hown (hw _ (List.mem_of_getElem? (i := 1) rfl)) i0_8 ?_
  refine g_iand X0 hx hby i0_10 ?_
  refine g_iloadN X0 hx hby i0_11 rfl ?_
  refine g_irem X0 hx hby i0_12 (own_b hv1) ?_
  refine g_istoreNW X0 hx hby i0_13 (l' := fun v2 => #[.val (.int p0), .val (.int p1), .val (.int v1), .val (.int v2), .unset, .unset, .unset, .unset]) (fun _ => rfl) fun v2 hv2 => ?_
  refine g_iloadN X0 hx hby i0_14 rfl ?_
  refine g_i2d X0 hx hby i0_15 ?_
  refine g_iloadN X0 hx hby i0_16 rfl ?_
  refine g_i2d X0 hx hby i0_17 ?_
  refine g_ddiv X0 hx hby i0_18 (own_nn _ _ (own_b hv1)) ?_
  refine g_dstore X0 hx hby i0_19 (l' := #[.val (.int p0), .val (.int p1), .val (.int v1), .val (.int v2), .val (.double (FP.ddiv (FP.i2d v2) (FP.i2d v1))), .second, .unset, .unset]) rfl ?_
  refine g_dload X0 hx hby i0_21 rfl ?_
  refine g_dconst0 X0 hx hby i0_23 ?_
  refine g_dcmp X0 hx hby i0_24 ?_
  refine g_if_lt X0 hx hby i0_25 (fun c25_3 => ?_) (fun c25_3 => ?_)
  · refine g_iconst X0 hx hby i0_35 (z := (1 : Int32)) (by decide) ?_
    refine g_ireturnN X0 hx hby (ty := .boolean) hret (by simp) hlk i0_36 (by decide) (by decide) ?_
    exact ⟨_, rfl, rfl, N0⟩
  · refine g_dload X0 hx hby i0_28 rfl ?_
    refine g_dconst1 X0 hx hby i0_30 ?_
    refine g_dcmp X0 hx hby i0_31 ?_
    refine g_if_lt X0 hx hby i0_32 (fun c32_4 => ?_) (fun c32_4 => ?_)
    · refine g_dload X0 hx hby i0_37 rfl ?_
      refine g_callS0 X0 hx hby hZ (y := (⟨"com/example/cloudgavel/cloudgavel/core/ExCore", "requireFraction", "(D)D"⟩ : MethodName)) (argsL := [(.double (FP.ddiv (FP.i2d v2) (FP.i2d v1)))]) (rest := []) hown (hw _ (List.mem_of_getElem? (i := 2) rfl)) (hw _ (List.mem_of_getElem? (i := 3) rfl)) (hw _ (List.mem_of_getElem? (i := 4) rfl)) (hw _ (List.mem_of_getElem? (i := 5) rfl)) (by decide) (rm1 l Z a0 hw [] (FP.ddiv (FP.i2d v2) (FP.i2d v1)) h0 n0 Z0 c25_3 c32_4) e0 (by rw [hml]; rfl) pd_0 rfl rfl i0_39 (by decide) 0 rfl (by decide) (by decide) (by decide) fun T5 v5 L5 X5 q5 => ?_
      obtain ⟨_, rfl, rfl, e5, N5⟩ := q5
      have N0 := Fr.app N0 N5
      show Gd p e below _ T5 (mkF m 42 #[.val (.int p0), .val (.int p1), .val (.int v1), .val (.int v2), .val (.double (FP.ddiv (FP.i2d v2) (FP.i2d v1))), .second, .unset, .unset] [(.double (FP.ddiv (FP.i2d v2) (FP.i2d v1)))])
      refine g_dstore X5 hx hby i0_42 (l' := #[.val (.int p0), .val (.int p1), .val (.int v1), .val (.int v2), .val (.double (FP.ddiv (FP.i2d v2) (FP.i2d v1))), .second, .val (.double (FP.ddiv (FP.i2d v2) (FP.i2d v1))), .second]) rfl ?_
      refine g_dload X5 hx hby i0_44 rfl ?_
      refine g_dload X5 hx hby i0_46 rfl ?_
      refine g_dcmp X5 hx hby i0_48 ?_
      refine g_if_ne X5 hx hby i0_49 (fun c49_6 => False.elim (c49_6 (dcmpV_self (own_nn _ _ (own_b hv1)) .l))) fun c49_6 => ?_
      refine g_iconst X5 hx hby i0_52 (z := (1 : Int32)) (by decide) ?_
      refine g_goto X5 hx hby i0_53 ?_
      refine g_ireturnN X5 hx hby (ty := .boolean) hret (by simp) hlk i0_57 (by decide) (by decide) ?_
      exact ⟨_, rfl, rfl, N0⟩
    · refine g_iconst X0 hx hby i0_35 (z := (1 : Int32)) (by decide) ?_
      refine g_ireturnN X0 hx hby (ty := .boolean) hret (by simp) hlk i0_36 (by decide) (by decide) ?_
      exact ⟨_, rfl, rfl, N0⟩
set_option maxRecDepth 65536 in
set_option maxHeartbeats 40000000 in
theorem comes_1 {Post : Tables → Env → Array Value → State → Outcome → State → Prop} (hpost : ∀ tb e args s v u, (limb_1_1.after args s (.returned v) u = true ∧ limb_1_2.after args s (.returned v) u = true ∧ True) → FrameEnd s (.returned v) u (Jvm.fieldLocs frame_1_writes args s ++ Jvm.arrayLocs frame_1_arrays args s ++ Jvm.staticLocs frame_1_statics s) 0 0 → Post tb e args s (.returned v) u) :
    ArmFor flags0 classFile x code maxLocals ret World_1 tables_1 room_1 Calls_1 rest_1 Pre_1 Post := by
  intro l hfl _ _ p e ha hc hk s m args below hf hA hF happ hP
  obtain ⟨hcalls, hrest, hpre⟩ := hP
  obtain ⟨-, -, -, hnamed, -, -, -, hat⟩ := (Spec.applies_iff hf).mp happ
  obtain ⟨hg, hn⟩ := and_e (Cond.before_iff.mp (show (Jvm.Cond.and given_1 narrow_1).before args s = true from hpre))
  obtain ⟨hcount, g0⟩ := and_e hg
  obtain ⟨a0, g1⟩ := and_e g0
  obtain ⟨w0, w1, rfl⟩ : ∃ w0 w1 : Value, args = #[w0, w1] := by
    have hs : args.size = 2 := by simpa [Cond.value, given_1] using hcount
    obtain ⟨L⟩ := args
    match L, hs with
    | [w0, w1], _ => exact ⟨w0, w1, rfl⟩
  have hw := fun d (hd : d ∈ tables_1) => atoms_spec (ws := Jvm.Cond.code x code maxLocals ret :: tables_1) hat d (List.mem_cons_of_mem _ hd)
  have hfit : Fit s := fun {y c} hc i hi => by
    obtain ⟨ha, rfl⟩ := Array.getElem?_eq_some_iff.mp hc
    have q := List.all_eq_true.mp ((Array.all_eq_true_iff_forall_mem.mp hF) _ (Array.getElem_mem ha)) i (List.mem_range.mpr hi)
    simpa [Array.getElem?_eq_getElem hi] using q
  obtain ⟨i0, ei0⟩ := is_v a0
  obtain rfl : w0 = (.int i0) := Option.some.inj ei0
  obtain ⟨i1, ei1⟩ := is_v g1
  obtain rfl : w1 = (.int i1) := Option.some.inj ei1
  obtain ⟨n, o, h1, h2, h3, _, L, rfl, ⟨_, rfl, rfl, N⟩, hq⟩ := rm0 l s _ hw tables_1 i0 i1 s.heap s.heap.size (Nat.le_refl _)  p e ha hc hk s m _ below hf ((Spec.applies_iff_loose hf).mp happ).1 ⟨rfl, State.Warmed39.refl s, rfl⟩ trivial
  refine ⟨n, _, h1, h2, h3, hpost _ _ _ _ _ _ ⟨Cond.after_iff.mpr rfl, Cond.after_iff.mpr (eq_i res_at (Term.int_eval (1)) rfl), trivial⟩ ⟨hq.1, hq.2.1, (hq.2.2.sift fun y hy => Or.inr (N y hy)).mono (by decide) (by decide)⟩⟩
theorem main_1_1 : Claimed_1_1 := comes_1 fun _ _ _ _ _ _ h hF => ⟨h.1, hF⟩
theorem main_1_2 : Claimed_1_2 := comes_1 fun _ _ _ _ _ _ h hF => ⟨h.2.1, hF⟩
end Jvm.Pilot.@@N@@
namespace Jvm.Pilot.@@N@@
open Jvm Jvm.ClassFile Sem Op Lib Jvm.Free Jvm.Stand Jvm.Pilot.@@N@@.Jvm.D
/-! MADE BY PROGRAM (witnessworld.py) out of the Statement's table words and the real class files: 10 classes; the members and pool entries that the words name. The judged class is class 1, her method 1. -/
namespace start1
open Jvm.ClassFile
def u (s : String) : CpInfo := .utf8 (stringToUtf16 s)
/-- a pool by its gaps: so many unusable entries, then the entry; so many at the end -/
def gap : Nat → List CpInfo → List CpInfo
  | 0, r => r
  | n + 1, r => .unusable :: gap n r
def poolList (es : List (Nat × CpInfo)) (last : Nat) : List CpInfo := es.foldr (fun e r => gap e.1 (e.2 :: r)) (gap last [])
def pool (es : List (Nat × CpInfo)) (last : Nat) : Array CpInfo := ⟨poolList es last⟩
def fileOf (pool : Array CpInfo) (this : Nat) (attrs : Array Attribute := #[]) (ms : Array MethodInfo := #[]) (fl : Nat := 33) (sup : Nat := 0) (ifs : Array Nat := #[]) (fds : Array FieldInfo := #[]) : ClassFile where
  minorVersion := 0
  majorVersion := 65
  constantPool := pool
  accessFlags := fl
  thisClass := this
  superClass := sup
  interfaces := ifs
  fields := fds
  methods := ms
  attributes := attrs
def plain (name : String) (sup : Option ClassId) : Class where
  name := name
  kind := .ordinary
  loader := none
  accessFlags := 33
  super := sup
  interfaces := #[]
  cf := none
  fields := #[]
  methods := #[]
  instanceTypes := #[]
  staticTypes := #[]
  resolved := #[]
  callSites := []
  init := .initialized
  statics := none
  mirror := none

def pool0 : Array CpInfo := pool [(5, u "<init>"), (0, u "()V"), (1, .class_ 10), (1, u "java/lang/Object")] 113

def k0m0 : Method := { name := "<init>", desc := "()V", sig := { parameters := [], returnType := none }, accessFlags := 1, code := none }
/-- java/lang/Object -/
def k0 : Class := { plain "java/lang/Object" none with
  accessFlags := 33
  interfaces := #[]
  cf := some (fileOf pool0 8 #[] #[{ accessFlags := 1, nameIndex := 5, descriptorIndex := 6, attributes := #[] }] 33 0 #[] #[])
  fields := #[]
  methods := #[k0m0]
  instanceTypes := #[]
  staticTypes := #[]
  resolved := Array.replicate 124 none
  statics := none }

def pool1 : Array CpInfo := pool [(2, .class_ 4), (1, u "java/lang/Object"), (0, u "<init>"), (0, u "()V"), (0, .integer 1048575), (0, .integer 2147483647), (0, .methodref 10 11), (0, .class_ 12), (0, .nameAndType 13 14), (0, u "com/example/cloudgavel/cloudgavel/core/ExCore"), (0, u "requireFraction"), (0, u "(D)D"), (0, .class_ 16), (0, u "com/example/cloudgavel/cloudgavel/core/ExCoreRequireFractionPinLaw"), (2, u "law"), (0, u "(II)Z")] 3

def k1m0 : Method := { name := "<init>", desc := "()V", sig := { parameters := [], returnType := none }, accessFlags := 2, code := none }
def k1c1 : Code := { maxStack := 4, maxLocals := 8, code := code, exceptionTable := #[], attributes := #[] }
def k1m1 : Method := { name := "law", desc := "(II)Z", sig := { parameters := [.int, .int], returnType := some .boolean }, accessFlags := 9, code := some k1c1 }
/-- com/example/cloudgavel/cloudgavel/core/ExCoreRequireFractionPinLaw -/
def k1 : Class := { plain "com/example/cloudgavel/cloudgavel/core/ExCoreRequireFractionPinLaw" (some 0) with
  accessFlags := 49
  interfaces := #[]
  cf := some (fileOf pool1 15 #[] #[{ accessFlags := 2, nameIndex := 5, descriptorIndex := 6, attributes := #[] }, { accessFlags := 9, nameIndex := 19, descriptorIndex := 20, attributes := #[] }] 49 2 #[] #[])
  fields := #[]
  methods := #[k1m0, k1m1]
  instanceTypes := #[]
  staticTypes := #[]
  resolved := Array.replicate 24 none
  statics := none }

def pool2 : Array CpInfo := pool [(1, .class_ 2), (0, u "com/example/cloudgavel/cloudgavel/core/SpotMechanism"), (0, .class_ 4), (0, u "java/lang/Object")] 6

/-- com/example/cloudgavel/cloudgavel/core/SpotMechanism -/
def k2 : Class := { plain "com/example/cloudgavel/cloudgavel/core/SpotMechanism" (some 0) with
  accessFlags := 1537
  interfaces := #[]
  cf := some (fileOf pool2 1 #[] #[] 1537 3 #[] #[])
  fields := #[]
  methods := #[]
  instanceTypes := #[]
  staticTypes := #[]
  resolved := Array.replicate 11 none
  statics := none }

def pool3 : Array CpInfo := pool [(2, .class_ 4), (1, u "java/lang/Object"), (3, .class_ 10), (1, u "com/example/cloudgavel/cloudgavel/core/ExCore"), (0, u "requireFraction"), (0, u "(D)D"), (2, u "u"), (0, u "D"), (14, .class_ 33), (1, u "com/example/cloudgavel/cloudgavel/core/ExCore$Pricing"), (54, .class_ 89), (0, u "com/example/cloudgavel/cloudgavel/core/ExCore$Grid"), (51, .class_ 142), (0, u "com/example/cloudgavel/cloudgavel/core/ExCore$Estimate"), (48, .class_ 192), (0, u "com/example/cloudgavel/cloudgavel/core/ExCore$Envelope"), (17, .class_ 211), (0, u "com/example/cloudgavel/cloudgavel/core/SpotMechanism")] 43

def k3c0 : Code := { maxStack := 4, maxLocals := 2, code := prog_9_method_2_code, exceptionTable := #[], attributes := #[] }
def k3m0 : Method := { name := "requireFraction", desc := "(D)D", sig := { parameters := [.double], returnType := some .double }, accessFlags := 8, code := some k3c0 }
/-- com/example/cloudgavel/cloudgavel/core/ExCore -/
def k3 : Class := { plain "com/example/cloudgavel/cloudgavel/core/ExCore" (some 0) with
  accessFlags := 49
  interfaces := #[2]
  cf := some (fileOf pool3 8 #[.nestMembers #[141, 31, 191, 88]] #[{ accessFlags := 8, nameIndex := 11, descriptorIndex := 12, attributes := #[] }] 49 2 #[210] #[{ accessFlags := 18, nameIndex := 15, descriptorIndex := 16, attributes := #[] }])
  fields := #[{ name := "u", type := .double, accessFlags := 18, slot := 0, constantValue := 0 }]
  methods := #[k3m0]
  instanceTypes := #[.double]
  staticTypes := #[]
  resolved := Array.replicate 255 none
  statics := none }

def pool4 : Array CpInfo := pool [(1, u "java/lang/Cloneable"), (0, .class_ 1), (0, u "java/lang/Object"), (0, .class_ 3)] 3

/-- java/lang/Cloneable -/
def k4 : Class := { plain "java/lang/Cloneable" (some 0) with
  accessFlags := 1537
  interfaces := #[]
  cf := some (fileOf pool4 2 #[] #[] 1537 4 #[] #[])
  fields := #[]
  methods := #[]
  instanceTypes := #[]
  staticTypes := #[]
  resolved := Array.replicate 8 none
  statics := none }

def pool5 : Array CpInfo := pool [(1, u "java/io/Serializable"), (0, .class_ 1), (0, u "java/lang/Object"), (0, .class_ 3)] 3

/-- java/io/Serializable -/
def k5 : Class := { plain "java/io/Serializable" (some 0) with
  accessFlags := 1537
  interfaces := #[]
  cf := some (fileOf pool5 2 #[] #[] 1537 4 #[] #[])
  fields := #[]
  methods := #[]
  instanceTypes := #[]
  staticTypes := #[]
  resolved := Array.replicate 8 none
  statics := none }

/-- the primitive byte -/
def k6 : Class := { plain "byte" none with kind := .primitive 'B', accessFlags := 0x411 }
/-- [B -/
def k7 : Class := { plain "[B" (some 0) with kind := .array 6 .byte, interfaces := #[4, 5], accessFlags := 1041 }

/-- the primitive int -/
def k8 : Class := { plain "int" none with kind := .primitive 'I', accessFlags := 0x411 }
/-- [I -/
def k9 : Class := { plain "[I" (some 0) with kind := .array 8 .int, interfaces := #[4, 5], accessFlags := 1041 }

def heap : Heap := #[]
def classes : Array Class := #[k0, k1, k2, k3, k4, k5, k6, k7, k8, k9]
def interned : List (Array UInt16 × Addr) := []
def slotsUsed : Nat := 0
def theMethod : MethodId := ⟨1, 1⟩
def args0 : Array Value := #[.int 5, .int 3]
def aboutOver (below : List Frame) : State where
  vm := { classes := classes, interned := interned.toArray }
  heap := heap
  slotsUsed := slotsUsed
  threads := #[{ frames := .invoking theMethod args0 :: below }]
def below0 : List Frame := [.native { method := ⟨0, 0⟩, args := #[] }]
def about1 : State := aboutOver below0
def p0 : Program := .bare "" "" ""
def e0 : Env := launch0.env 0 0 0
theorem w_frames : about1.frames = Frame.invoking theMethod args0 :: below0 := rfl
set_option maxRecDepth 65536 in
theorem w_args : argsFit about1.vm theMethod args0 = true := by decide +kernel
set_option maxRecDepth 65536 in
theorem w_heap : heapFits about1 = true := by decide +kernel
set_option maxRecDepth 65536 in
theorem w_runnable : about1.curStatus? = some .runnable := by decide +kernel
set_option maxRecDepth 65536 in
theorem w_alone : about1.alone = true := by decide +kernel
set_option maxRecDepth 65536 in
theorem w_named : about1.methodNamed? x = some theMethod := by decide +kernel
set_option maxRecDepth 65536 in
theorem w_hears : about1.hears theMethod below0 = true := by decide +kernel
set_option maxRecDepth 65536 in
theorem w_ripe : about1.ripe theMethod args0 below0 = true := by decide +kernel
theorem w_running : about1.status = .running := rfl
set_option maxRecDepth 65536 in
theorem w_room : about1.hasRoom e0.platform room_1 = true :=
  launch0.hasRoom_least _ room_1 (by decide +kernel) (by decide +kernel) (by decide +kernel) (by decide +kernel) (by decide +kernel) (by decide +kernel)
theorem allAtoms_all (ts : List Jvm.Cond) (a : Array Jvm.Value) (st : Jvm.State) : (allAtoms ts).before a st = ts.all (fun c => c.before a st) := by
  induction ts with
  | nil => rfl
  | cons c t ih =>
    show (Jvm.Cond.and c (allAtoms t)).before a st = _
    rw [Jvm.Cond.before_and, ih, List.all_cons]
def words1 : List Jvm.Cond := Jvm.Cond.code x code maxLocals ret :: tables_1
/-- a 'code' word, met by the world's own term for the bytes: nothing is compared byte by byte -/
theorem code_word {y : MethodName} {bytes : ByteArray} {mx : Nat} {rt : Option FieldType} {a : Array Value} {s : State} {m : MethodId} {meth : Method} {c : Code} (h1 : s.methodNamed? y = some m) (h2 : s.vm.method? m = some meth) (h3 : meth.code = some c) (h4 : c.code = bytes)
    (h5 : (c.maxLocals == mx && c.exceptionTable.isEmpty && decide (c.maxStack ≤ mostOperands) && decide (meth.sig.returnType = rt) && !meth.locks && decide (parseMethodDescriptor y.desc = some meth.sig)) = true) : (Jvm.Cond.code y bytes mx rt).before a s = true := by
  simp only [Bool.and_eq_true, beq_iff_eq, Bool.not_eq_true', decide_eq_true_eq] at h5
  obtain ⟨⟨⟨⟨⟨g1, g2⟩, g3⟩, g4⟩, g5⟩, g6⟩ := h5
  simp [Cond.before, Cond.holds, Cond.value, h1, h2, h3, h4, g1, g2, g3, g4, g5, g6]
def isCode : Jvm.Cond → Bool
  | .code _ _ _ _ => true
  | _ => false
theorem all_split {L : List Jvm.Cond} {P : Jvm.Cond → Bool} (h1 : L.all (fun c => isCode c || P c) = true) (h2 : ∀ c ∈ L.filter isCode, P c = true) : L.all P = true := by
  refine List.all_eq_true.mpr fun c hc => ?_
  have h := List.all_eq_true.mp h1 c hc
  rcases Bool.eq_false_or_eq_true (isCode c) with hi | hi
  · exact h2 c (List.mem_filter.mpr ⟨hc, hi⟩)
  · simpa [hi] using h
set_option maxRecDepth 65536 in
theorem w_c0 : (Jvm.Cond.code x code maxLocals ret).before args0 about1 = true := code_word (m := ⟨1, 1⟩) (meth := k1m1) (c := k1c1) (by decide +kernel) rfl rfl rfl (by decide +kernel)
set_option maxRecDepth 65536 in
theorem w_c1 : (Jvm.Cond.code ({ cls := "com/example/cloudgavel/cloudgavel/core/ExCore", name := "requireFraction", desc := "(D)D" } : Jvm.MethodName) prog_9_method_2_code (2 : Nat) (Option.some Jvm.ClassFile.FieldType.double)).before args0 about1 = true := code_word (m := ⟨3, 0⟩) (meth := k3m0) (c := k3c0) (by decide +kernel) rfl rfl rfl (by decide +kernel)
def codes1 : List Jvm.Cond := [Jvm.Cond.code x code maxLocals ret, Jvm.Cond.code ({ cls := "com/example/cloudgavel/cloudgavel/core/ExCore", name := "requireFraction", desc := "(D)D" } : Jvm.MethodName) prog_9_method_2_code (2 : Nat) (Option.some Jvm.ClassFile.FieldType.double)]
set_option maxRecDepth 65536 in
theorem codes_eq : words1.filter isCode = codes1 := rfl
theorem w_codes : ∀ c ∈ words1.filter isCode, c.before args0 about1 = true := by
  rw [codes_eq]
  intro c hc
  simp only [codes1, List.mem_cons, List.not_mem_nil, or_false] at hc
  rcases hc with rfl | rfl
  · exact w_c0
  · exact w_c1
set_option maxRecDepth 65536 in
theorem w_t1 : words1.all (fun c => isCode c || c.before args0 about1) = true := by decide +kernel
theorem w_tables : (allAtoms (Jvm.Cond.code x code maxLocals ret :: tables_1)).before args0 about1 = true := by
  rw [allAtoms_all]
  show words1.all (fun c => c.before args0 about1) = true
  refine all_split ?_ w_codes
  rw [w_t1]
set_option maxRecDepth 65536 in
theorem w_case : (Jvm.Cond.and given_1 narrow_1).before args0 about1 = true := by decide +kernel
theorem w_applies : (headSpec (Jvm.Cond.code x code maxLocals ret :: tables_1) room_1).applies x e0.platform about1 = true :=
  (Spec.applies_iff w_frames).mpr ⟨w_running, w_runnable, w_alone, w_named, w_hears, w_ripe, w_room, w_tables⟩
theorem atStart : AtStart classFile x code maxLocals ret World_1 tables_1 room_1 Calls_1 rest_1 Pre_1 launch0 p0 e0 about1 theMethod args0 below0 :=
  ⟨lists_1, trivial, launch0.admits_env _ _ _, launch0.least_env, fairChoices_fair.cas, fairChoices_fair.clock, w_frames, w_args, w_heap, w_applies, trivial, trivial, w_case⟩
end start1
theorem witness_1 : WitnessClaimed_1 := ⟨start1.p0, start1.e0, start1.about1, start1.theMethod, start1.args0, start1.below0, start1.atStart⟩
end Jvm.Pilot.@@N@@

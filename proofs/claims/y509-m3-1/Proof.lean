import JvmDerived
import JvmDerived.Pilot.@@N@@Statement
import JvmDerived.Pilot.@@N@@Code
set_option linter.unusedVariables false
set_option linter.unusedSimpArgs false
namespace Jvm.OwnG
open Sem ClassFile Op Lib Jvm.Stand Jvm.Free Jvm.LawKit Jvm.RoadKit
/-- from here the run comes to an end at which P holds -/
def Gd (p : Program) (e : Env) (below : List Frame) (P : State → Prop) (T : State) (g : JFrame) : Prop := ∃ t, Steps p.tables e below (T.setTop g) t ∧ P t
/-- an instruction of the code, and the pc behind it -/
def Ins1 (code : ByteArray) (pc : Nat) (i : Instr) (n pn : Nat) : Prop := decode code pc = .ok (i, n) ∧ pc + n = pn
/-- a branch: the pc behind it, the pc it goes to -/
def InsB (code : ByteArray) (pc : Nat) (i : Instr) (o : Int) (pn pt : Nat) : Prop := decode code pc = .ok (i, 3) ∧ pc + 3 = pn ∧ 0 ≤ (pc : Int) + o ∧ ((pc : Int) + o).toNat = pt
/-- what the end of a walk says -/
def Fin1 (s : State) (below : List Frame) (cells slots : Nat) (Q : Option Value → Heap → List Loc → Prop) (t : State) : Prop := ∃ o, t.status = .running ∧ Ended t below o ∧ ∃ v L, o = .returned v ∧ Q v t.heap L ∧ FrameEnd s o t L cells slots
/-- a method's contract at the arguments as', the heap h -/
def Met1 (l : Launch) (y : MethodName) (bytes : ByteArray) (maxL : Nat) (ret : Option FieldType) (ws : List Jvm.Cond) (rm : Room) (as' : Array Value) (Z : State) (h : Heap) (Q : Option Value → Heap → List Loc → Prop) : Prop :=
  MetFree l y (head1 (Jvm.Cond.code y bytes maxL ret :: ws) rm) (fun a U => a = as' ∧ Z.Warmed39 U.vm ∧ U.heap = h) (fun _ _ _ _ _ => True) (fun _ U o U' => ∃ v L, o = .returned v ∧ Q v U'.heap L ∧ FrameEnd U o U' L rm.cells rm.slots)
def RV (Q : Value → Heap → List Loc → Prop) (v : Option Value) (h : Heap) (L : List Loc) : Prop := ∃ z, v = some z ∧ Q z h L
def RN (Q : Heap → List Loc → Prop) (v : Option Value) (h : Heap) (L : List Loc) : Prop := v = none ∧ Q h L
section K
variable {p : Program} {l : Launch} {e : Env} {R : Room} {s : State} {m : MethodId} {args : Array Value} {below : List Frame} {meth : Method} {c : Code} {T : State} {locs : List Loc} {cells slots : Nat} {Z : State} {a0 : Array Value} {h : Heap} {P : State → Prop} {code : ByteArray} {pc pn pt : Nat} {Ls : Array Slot} {st : List Value}
theorem Gd.of {T' : State} {g g' : JFrame} (k : ∀ t, Steps p.tables e below (T'.setTop g') t → Steps p.tables e below (T.setTop g) t) (q : Gd p e below P T' g') : Gd p e below P T g := q.imp fun t r => ⟨k t r.1, r.2⟩
theorem Gd.cast {g g' : JFrame} (q : g = g') (k : Gd p e below P T g') : Gd p e below P T g := q ▸ k
theorem met_of {y : MethodName} {maxL : Nat} {ret : Option FieldType} {ws : List Jvm.Cond} {rm : Room} {as' : Array Value} {Q : Option Value → Heap → List Loc → Prop} (hp : plainFor y = true)
    (body : ∀ (p : Program) (e : Env) (s : State) (m : MethodId) (below : List Frame) (meth : Method) (c : Code) (T : State), Stand p l e rm s m as' below meth c T [] 0 0 → p.tables.exec = Jvm.exec → c.code = code → c.maxLocals = maxL → Z.Warmed39 s.vm → s.vm.findClass y.cls = some m.cls → meth.name = y.name → meth.sig.returnType = ret → meth.locks = false → T.heap = h → s.heap = h →
      Gd p e below (Fin1 s below rm.cells rm.slots Q) T (entryFrame m as' maxL)) : Met1 l y code maxL ret ws rm as' Z h Q := by
  refine MetFree.of_bodySF hp hisR ?_
  intro p e s m args below meth c s₁ Bd hml0 hP hK
  obtain ⟨rfl, hZ, hh⟩ := hP
  obtain ⟨t, h1, o, h2, h3, h4⟩ := body p e s m below meth c s₁ (Stand.of_body Bd) Bd.exec Bd.bytes hml0 hZ (findClass_of_methodNamed Bd.named) (name_of_methodNamed Bd.named Bd.method).1 Bd.returns Bd.notSynchronized (by rw [← hh, Bd.state]; rfl) hh
  exact ⟨t, o, h1, h2, h3, h4⟩
theorem g_iloadN (X : Stand p l e R s m args below meth c T locs cells slots) (hx : p.tables.exec = Jvm.exec) (hby : c.code = code) {k : Fin 4} {v : Int32} (hd : Ins1 code pc (.iload_n k) 1 pn) (hl : Ls[k.val]? = some (.val (.int v))) (k : Gd p e below P T (mkF m pn Ls (.int v :: st))) : Gd p e below P T (mkF m pc Ls (st)) := by
  obtain ⟨hd, rfl⟩ := hd
  exact k.imp fun t q => ⟨XS.iloadN X.here hx rfl (hb hby hd) hl q.1, q.2⟩
theorem g_iload (X : Stand p l e R s m args below meth c T locs cells slots) (hx : p.tables.exec = Jvm.exec) (hby : c.code = code) {k : Nat} {v : Int32} (hd : Ins1 code pc (.iload k) 2 pn) (hl : Ls[k]? = some (.val (.int v))) (k : Gd p e below P T (mkF m pn Ls (.int v :: st))) : Gd p e below P T (mkF m pc Ls (st)) := by
  obtain ⟨hd, rfl⟩ := hd
  exact k.imp fun t q => ⟨XS.iload X.here hx rfl (hb hby hd) hl q.1, q.2⟩
theorem g_istoreN (X : Stand p l e R s m args below meth c T locs cells slots) (hx : p.tables.exec = Jvm.exec) (hby : c.code = code) {k : Fin 4} {v : Int32} {l' : Array Slot} (hd : Ins1 code pc (.istore_n k) 1 pn) (hl : storeLocals Ls k.val (.int v) = some l') (k : Gd p e below P T (mkF m pn l' (st))) : Gd p e below P T (mkF m pc Ls (.int v :: st)) := by
  obtain ⟨hd, rfl⟩ := hd
  exact k.imp fun t q => ⟨XS.istoreN X.here hx rfl (hb hby hd) rfl hl q.1, q.2⟩
theorem g_istore (X : Stand p l e R s m args below meth c T locs cells slots) (hx : p.tables.exec = Jvm.exec) (hby : c.code = code) {k : Nat} {v : Int32} {l' : Array Slot} (hd : Ins1 code pc (.istore k) 2 pn) (hl : storeLocals Ls k (.int v) = some l') (k : Gd p e below P T (mkF m pn l' (st))) : Gd p e below P T (mkF m pc Ls (.int v :: st)) := by
  obtain ⟨hd, rfl⟩ := hd
  exact k.imp fun t q => ⟨XS.istore X.here hx rfl (hb hby hd) rfl hl q.1, q.2⟩
theorem g_lloadN (X : Stand p l e R s m args below meth c T locs cells slots) (hx : p.tables.exec = Jvm.exec) (hby : c.code = code) {k : Fin 4} {v : Int64} (hd : Ins1 code pc (.lload_n k) 1 pn) (hl : Ls[k.val]? = some (.val (.long v))) (k : Gd p e below P T (mkF m pn Ls (.long v :: st))) : Gd p e below P T (mkF m pc Ls (st)) := by
  obtain ⟨hd, rfl⟩ := hd
  exact k.imp fun t q => ⟨XS.lloadN X.here hx rfl (hb hby hd) hl q.1, q.2⟩
theorem g_lload (X : Stand p l e R s m args below meth c T locs cells slots) (hx : p.tables.exec = Jvm.exec) (hby : c.code = code) {k : Nat} {v : Int64} (hd : Ins1 code pc (.lload k) 2 pn) (hl : Ls[k]? = some (.val (.long v))) (k : Gd p e below P T (mkF m pn Ls (.long v :: st))) : Gd p e below P T (mkF m pc Ls (st)) := by
  obtain ⟨hd, rfl⟩ := hd
  exact k.imp fun t q => ⟨XS.lload X.here hx rfl (hb hby hd) hl q.1, q.2⟩
theorem g_lstoreN (X : Stand p l e R s m args below meth c T locs cells slots) (hx : p.tables.exec = Jvm.exec) (hby : c.code = code) {k : Fin 4} {v : Int64} {l' : Array Slot} (hd : Ins1 code pc (.lstore_n k) 1 pn) (hl : storeLocals Ls k.val (.long v) = some l') (k : Gd p e below P T (mkF m pn l' (st))) : Gd p e below P T (mkF m pc Ls (.long v :: st)) := by
  obtain ⟨hd, rfl⟩ := hd
  exact k.imp fun t q => ⟨XS.lstoreN X.here hx rfl (hb hby hd) rfl hl q.1, q.2⟩
theorem g_lstore (X : Stand p l e R s m args below meth c T locs cells slots) (hx : p.tables.exec = Jvm.exec) (hby : c.code = code) {k : Nat} {v : Int64} {l' : Array Slot} (hd : Ins1 code pc (.lstore k) 2 pn) (hl : storeLocals Ls k (.long v) = some l') (k : Gd p e below P T (mkF m pn l' (st))) : Gd p e below P T (mkF m pc Ls (.long v :: st)) := by
  obtain ⟨hd, rfl⟩ := hd
  exact k.imp fun t q => ⟨XS.lstore X.here hx rfl (hb hby hd) rfl hl q.1, q.2⟩
theorem g_dloadN (X : Stand p l e R s m args below meth c T locs cells slots) (hx : p.tables.exec = Jvm.exec) (hby : c.code = code) {k : Fin 4} {v : UInt64} (hd : Ins1 code pc (.dload_n k) 1 pn) (hl : Ls[k.val]? = some (.val (.double v))) (k : Gd p e below P T (mkF m pn Ls (.double v :: st))) : Gd p e below P T (mkF m pc Ls (st)) := by
  obtain ⟨hd, rfl⟩ := hd
  exact k.imp fun t q => ⟨XS.dloadN X.here hx rfl (hb hby hd) hl q.1, q.2⟩
theorem g_dload (X : Stand p l e R s m args below meth c T locs cells slots) (hx : p.tables.exec = Jvm.exec) (hby : c.code = code) {k : Nat} {v : UInt64} (hd : Ins1 code pc (.dload k) 2 pn) (hl : Ls[k]? = some (.val (.double v))) (k : Gd p e below P T (mkF m pn Ls (.double v :: st))) : Gd p e below P T (mkF m pc Ls (st)) := by
  obtain ⟨hd, rfl⟩ := hd
  exact k.imp fun t q => ⟨XS.dload X.here hx rfl (hb hby hd) hl q.1, q.2⟩
theorem g_dstoreN (X : Stand p l e R s m args below meth c T locs cells slots) (hx : p.tables.exec = Jvm.exec) (hby : c.code = code) {k : Fin 4} {v : UInt64} {l' : Array Slot} (hd : Ins1 code pc (.dstore_n k) 1 pn) (hl : storeLocals Ls k.val (.double v) = some l') (k : Gd p e below P T (mkF m pn l' (st))) : Gd p e below P T (mkF m pc Ls (.double v :: st)) := by
  obtain ⟨hd, rfl⟩ := hd
  exact k.imp fun t q => ⟨XS.dstoreN X.here hx rfl (hb hby hd) rfl hl q.1, q.2⟩
theorem g_dstore (X : Stand p l e R s m args below meth c T locs cells slots) (hx : p.tables.exec = Jvm.exec) (hby : c.code = code) {k : Nat} {v : UInt64} {l' : Array Slot} (hd : Ins1 code pc (.dstore k) 2 pn) (hl : storeLocals Ls k (.double v) = some l') (k : Gd p e below P T (mkF m pn l' (st))) : Gd p e below P T (mkF m pc Ls (.double v :: st)) := by
  obtain ⟨hd, rfl⟩ := hd
  exact k.imp fun t q => ⟨XS.dstore X.here hx rfl (hb hby hd) rfl hl q.1, q.2⟩
theorem g_aloadN (X : Stand p l e R s m args below meth c T locs cells slots) (hx : p.tables.exec = Jvm.exec) (hby : c.code = code) {k : Fin 4} {v : Value} (hd : Ins1 code pc (.aload_n k) 1 pn) (hl : Ls[k.val]? = some (.val v)) (hv : v.isRef = true) (k : Gd p e below P T (mkF m pn Ls (v :: st))) : Gd p e below P T (mkF m pc Ls (st)) := by
  obtain ⟨hd, rfl⟩ := hd
  exact k.imp fun t q => ⟨XS.aloadN X.here hx rfl (hb hby hd) hl hv q.1, q.2⟩
theorem g_aload (X : Stand p l e R s m args below meth c T locs cells slots) (hx : p.tables.exec = Jvm.exec) (hby : c.code = code) {k : Nat} {v : Value} (hd : Ins1 code pc (.aload k) 2 pn) (hl : Ls[k]? = some (.val v)) (hv : v.isRef = true) (k : Gd p e below P T (mkF m pn Ls (v :: st))) : Gd p e below P T (mkF m pc Ls (st)) := by
  obtain ⟨hd, rfl⟩ := hd
  exact k.imp fun t q => ⟨XS.aload X.here hx rfl (hb hby hd) hl hv q.1, q.2⟩
theorem g_astoreN (X : Stand p l e R s m args below meth c T locs cells slots) (hx : p.tables.exec = Jvm.exec) (hby : c.code = code) {k : Fin 4} {v : Value} {l' : Array Slot} (hd : Ins1 code pc (.astore_n k) 1 pn) (hv : v.isRef = true) (hl : storeLocals Ls k.val v = some l') (k : Gd p e below P T (mkF m pn l' (st))) : Gd p e below P T (mkF m pc Ls (v :: st)) := by
  obtain ⟨hd, rfl⟩ := hd
  exact k.imp fun t q => ⟨XS.astoreN X.here hx rfl (hb hby hd) rfl hv hl q.1, q.2⟩
theorem g_astore (X : Stand p l e R s m args below meth c T locs cells slots) (hx : p.tables.exec = Jvm.exec) (hby : c.code = code) {k : Nat} {v : Value} {l' : Array Slot} (hd : Ins1 code pc (.astore k) 2 pn) (hv : v.isRef = true) (hl : storeLocals Ls k v = some l') (k : Gd p e below P T (mkF m pn l' (st))) : Gd p e below P T (mkF m pc Ls (v :: st)) := by
  obtain ⟨hd, rfl⟩ := hd
  exact k.imp fun t q => ⟨XS.astore X.here hx rfl (hb hby hd) rfl hv hl q.1, q.2⟩
theorem g_istoreNW (X : Stand p l e R s m args below meth c T locs cells slots) (hx : p.tables.exec = Jvm.exec) (hby : c.code = code) {k : Fin 4} {v : Int32} {l' : Int32 → Array Slot} (hd : Ins1 code pc (.istore_n k) 1 pn) (hl : ∀ w, storeLocals Ls k.val (.int w) = some (l' w)) (k : ∀ w, w = v → Gd p e below P T (mkF m pn (l' w) st)) : Gd p e below P T (mkF m pc Ls (.int v :: st)) := g_istoreN X hx hby hd (hl v) (k v rfl)
theorem g_istoreW (X : Stand p l e R s m args below meth c T locs cells slots) (hx : p.tables.exec = Jvm.exec) (hby : c.code = code) {k : Nat} {v : Int32} {l' : Int32 → Array Slot} (hd : Ins1 code pc (.istore k) 2 pn) (hl : ∀ w, storeLocals Ls k (.int w) = some (l' w)) (k : ∀ w, w = v → Gd p e below P T (mkF m pn (l' w) st)) : Gd p e below P T (mkF m pc Ls (.int v :: st)) := g_istore X hx hby hd (hl v) (k v rfl)
theorem g_lstoreNW (X : Stand p l e R s m args below meth c T locs cells slots) (hx : p.tables.exec = Jvm.exec) (hby : c.code = code) {k : Fin 4} {v : Int64} {l' : Int64 → Array Slot} (hd : Ins1 code pc (.lstore_n k) 1 pn) (hl : ∀ w, storeLocals Ls k.val (.long w) = some (l' w)) (k : ∀ w, w = v → Gd p e below P T (mkF m pn (l' w) st)) : Gd p e below P T (mkF m pc Ls (.long v :: st)) := g_lstoreN X hx hby hd (hl v) (k v rfl)
theorem g_lstoreW (X : Stand p l e R s m args below meth c T locs cells slots) (hx : p.tables.exec = Jvm.exec) (hby : c.code = code) {k : Nat} {v : Int64} {l' : Int64 → Array Slot} (hd : Ins1 code pc (.lstore k) 2 pn) (hl : ∀ w, storeLocals Ls k (.long w) = some (l' w)) (k : ∀ w, w = v → Gd p e below P T (mkF m pn (l' w) st)) : Gd p e below P T (mkF m pc Ls (.long v :: st)) := g_lstore X hx hby hd (hl v) (k v rfl)
theorem g_iconst (X : Stand p l e R s m args below meth c T locs cells slots) (hx : p.tables.exec = Jvm.exec) (hby : c.code = code) {i : Int} {z : Int32} (hd : Ins1 code pc (.iconst i) 1 pn) (hz : Int32.ofInt i = z) (k : Gd p e below P T (mkF m pn Ls (.int z :: st))) : Gd p e below P T (mkF m pc Ls st) := by
  obtain ⟨hd, rfl⟩ := hd
  subst hz
  exact k.imp fun t q => ⟨XS.iconst X.here hx rfl (hb hby hd) q.1, q.2⟩
theorem g_bipush (X : Stand p l e R s m args below meth c T locs cells slots) (hx : p.tables.exec = Jvm.exec) (hby : c.code = code) {i : Int} {z : Int32} (hd : Ins1 code pc (.bipush i) 2 pn) (hz : (Int8.ofInt i).toInt32 = z) (k : Gd p e below P T (mkF m pn Ls (.int z :: st))) : Gd p e below P T (mkF m pc Ls st) := by
  obtain ⟨hd, rfl⟩ := hd
  subst hz
  exact k.imp fun t q => ⟨XS.bipush X.here hx rfl (hb hby hd) q.1, q.2⟩
theorem g_sipush (X : Stand p l e R s m args below meth c T locs cells slots) (hx : p.tables.exec = Jvm.exec) (hby : c.code = code) {i : Int} {z : Int32} (hd : Ins1 code pc (.sipush i) 3 pn) (hz : (Int16.ofInt i).toInt32 = z) (k : Gd p e below P T (mkF m pn Ls (.int z :: st))) : Gd p e below P T (mkF m pc Ls st) := by
  obtain ⟨hd, rfl⟩ := hd
  subst hz
  exact k.imp fun t q => ⟨XS.sipush X.here hx rfl (hb hby hd) q.1, q.2⟩
theorem g_lconst (X : Stand p l e R s m args below meth c T locs cells slots) (hx : p.tables.exec = Jvm.exec) (hby : c.code = code) {i : Fin 2} {z : Int64} (hd : Ins1 code pc (.lconst i) 1 pn) (hz : Int64.ofNat i = z) (k : Gd p e below P T (mkF m pn Ls (.long z :: st))) : Gd p e below P T (mkF m pc Ls st) := by
  obtain ⟨hd, rfl⟩ := hd
  subst hz
  exact k.imp fun t q => ⟨XS.lconst X.here hx rfl (hb hby hd) q.1, q.2⟩
theorem g_aconst_null (X : Stand p l e R s m args below meth c T locs cells slots) (hx : p.tables.exec = Jvm.exec) (hby : c.code = code)  (hd : Ins1 code pc (.aconst_null) 1 pn) (k : Gd p e below P T (mkF m pn Ls (.null :: st))) : Gd p e below P T (mkF m pc Ls (st)) := by
  obtain ⟨hd, rfl⟩ := hd
  exact k.imp fun t q => ⟨XS.aconstNull X.here hx rfl (hb hby hd)  q.1, q.2⟩
theorem g_iadd (X : Stand p l e R s m args below meth c T locs cells slots) (hx : p.tables.exec = Jvm.exec) (hby : c.code = code) {x y : Int32} (hd : Ins1 code pc (.iadd) 1 pn) (k : Gd p e below P T (mkF m pn Ls (.int (x + y) :: st))) : Gd p e below P T (mkF m pc Ls (.int y :: .int x :: st)) := by
  obtain ⟨hd, rfl⟩ := hd
  exact k.imp fun t q => ⟨XS.iadd X.here hx rfl (hb hby hd) rfl q.1, q.2⟩
theorem g_isub (X : Stand p l e R s m args below meth c T locs cells slots) (hx : p.tables.exec = Jvm.exec) (hby : c.code = code) {x y : Int32} (hd : Ins1 code pc (.isub) 1 pn) (k : Gd p e below P T (mkF m pn Ls (.int (x - y) :: st))) : Gd p e below P T (mkF m pc Ls (.int y :: .int x :: st)) := by
  obtain ⟨hd, rfl⟩ := hd
  exact k.imp fun t q => ⟨XS.isub X.here hx rfl (hb hby hd) rfl q.1, q.2⟩
theorem g_imul (X : Stand p l e R s m args below meth c T locs cells slots) (hx : p.tables.exec = Jvm.exec) (hby : c.code = code) {x y : Int32} (hd : Ins1 code pc (.imul) 1 pn) (k : Gd p e below P T (mkF m pn Ls (.int (x * y) :: st))) : Gd p e below P T (mkF m pc Ls (.int y :: .int x :: st)) := by
  obtain ⟨hd, rfl⟩ := hd
  exact k.imp fun t q => ⟨XS.imul X.here hx rfl (hb hby hd) rfl q.1, q.2⟩
theorem g_iand (X : Stand p l e R s m args below meth c T locs cells slots) (hx : p.tables.exec = Jvm.exec) (hby : c.code = code) {x y : Int32} (hd : Ins1 code pc (.iand) 1 pn) (k : Gd p e below P T (mkF m pn Ls (.int (x &&& y) :: st))) : Gd p e below P T (mkF m pc Ls (.int y :: .int x :: st)) := by
  obtain ⟨hd, rfl⟩ := hd
  exact k.imp fun t q => ⟨XS.iand X.here hx rfl (hb hby hd) rfl q.1, q.2⟩
theorem g_ior (X : Stand p l e R s m args below meth c T locs cells slots) (hx : p.tables.exec = Jvm.exec) (hby : c.code = code) {x y : Int32} (hd : Ins1 code pc (.ior) 1 pn) (k : Gd p e below P T (mkF m pn Ls (.int (x ||| y) :: st))) : Gd p e below P T (mkF m pc Ls (.int y :: .int x :: st)) := by
  obtain ⟨hd, rfl⟩ := hd
  exact k.imp fun t q => ⟨XS.ior X.here hx rfl (hb hby hd) rfl q.1, q.2⟩
theorem g_ixor (X : Stand p l e R s m args below meth c T locs cells slots) (hx : p.tables.exec = Jvm.exec) (hby : c.code = code) {x y : Int32} (hd : Ins1 code pc (.ixor) 1 pn) (k : Gd p e below P T (mkF m pn Ls (.int (x ^^^ y) :: st))) : Gd p e below P T (mkF m pc Ls (.int y :: .int x :: st)) := by
  obtain ⟨hd, rfl⟩ := hd
  exact k.imp fun t q => ⟨XS.ixor X.here hx rfl (hb hby hd) rfl q.1, q.2⟩
theorem g_ladd (X : Stand p l e R s m args below meth c T locs cells slots) (hx : p.tables.exec = Jvm.exec) (hby : c.code = code) {x y : Int64} (hd : Ins1 code pc (.ladd) 1 pn) (k : Gd p e below P T (mkF m pn Ls (.long (x + y) :: st))) : Gd p e below P T (mkF m pc Ls (.long y :: .long x :: st)) := by
  obtain ⟨hd, rfl⟩ := hd
  exact k.imp fun t q => ⟨XS.ladd X.here hx rfl (hb hby hd) rfl q.1, q.2⟩
theorem g_lsub (X : Stand p l e R s m args below meth c T locs cells slots) (hx : p.tables.exec = Jvm.exec) (hby : c.code = code) {x y : Int64} (hd : Ins1 code pc (.lsub) 1 pn) (k : Gd p e below P T (mkF m pn Ls (.long (x - y) :: st))) : Gd p e below P T (mkF m pc Ls (.long y :: .long x :: st)) := by
  obtain ⟨hd, rfl⟩ := hd
  exact k.imp fun t q => ⟨XS.lsub X.here hx rfl (hb hby hd) rfl q.1, q.2⟩
theorem g_lmul (X : Stand p l e R s m args below meth c T locs cells slots) (hx : p.tables.exec = Jvm.exec) (hby : c.code = code) {x y : Int64} (hd : Ins1 code pc (.lmul) 1 pn) (k : Gd p e below P T (mkF m pn Ls (.long (x * y) :: st))) : Gd p e below P T (mkF m pc Ls (.long y :: .long x :: st)) := by
  obtain ⟨hd, rfl⟩ := hd
  exact k.imp fun t q => ⟨XS.lmul X.here hx rfl (hb hby hd) rfl q.1, q.2⟩
theorem g_land (X : Stand p l e R s m args below meth c T locs cells slots) (hx : p.tables.exec = Jvm.exec) (hby : c.code = code) {x y : Int64} (hd : Ins1 code pc (.land) 1 pn) (k : Gd p e below P T (mkF m pn Ls (.long (x &&& y) :: st))) : Gd p e below P T (mkF m pc Ls (.long y :: .long x :: st)) := by
  obtain ⟨hd, rfl⟩ := hd
  exact k.imp fun t q => ⟨XS.land X.here hx rfl (hb hby hd) rfl q.1, q.2⟩
theorem g_lor (X : Stand p l e R s m args below meth c T locs cells slots) (hx : p.tables.exec = Jvm.exec) (hby : c.code = code) {x y : Int64} (hd : Ins1 code pc (.lor) 1 pn) (k : Gd p e below P T (mkF m pn Ls (.long (x ||| y) :: st))) : Gd p e below P T (mkF m pc Ls (.long y :: .long x :: st)) := by
  obtain ⟨hd, rfl⟩ := hd
  exact k.imp fun t q => ⟨XS.lor X.here hx rfl (hb hby hd) rfl q.1, q.2⟩
theorem g_lxor (X : Stand p l e R s m args below meth c T locs cells slots) (hx : p.tables.exec = Jvm.exec) (hby : c.code = code) {x y : Int64} (hd : Ins1 code pc (.lxor) 1 pn) (k : Gd p e below P T (mkF m pn Ls (.long (x ^^^ y) :: st))) : Gd p e below P T (mkF m pc Ls (.long y :: .long x :: st)) := by
  obtain ⟨hd, rfl⟩ := hd
  exact k.imp fun t q => ⟨XS.lxor X.here hx rfl (hb hby hd) rfl q.1, q.2⟩
theorem g_ishl (X : Stand p l e R s m args below meth c T locs cells slots) (hx : p.tables.exec = Jvm.exec) (hby : c.code = code) {x : Int32} {y : Int32} (hd : Ins1 code pc (.ishl) 1 pn) (k : Gd p e below P T (mkF m pn Ls (.int (x <<< (y &&& 31)) :: st))) : Gd p e below P T (mkF m pc Ls (.int y :: .int x :: st)) := by
  obtain ⟨hd, rfl⟩ := hd
  exact k.imp fun t q => ⟨XS.ishl X.here hx rfl (hb hby hd) rfl q.1, q.2⟩
theorem g_ishr (X : Stand p l e R s m args below meth c T locs cells slots) (hx : p.tables.exec = Jvm.exec) (hby : c.code = code) {x : Int32} {y : Int32} (hd : Ins1 code pc (.ishr) 1 pn) (k : Gd p e below P T (mkF m pn Ls (.int (x >>> (y &&& 31)) :: st))) : Gd p e below P T (mkF m pc Ls (.int y :: .int x :: st)) := by
  obtain ⟨hd, rfl⟩ := hd
  exact k.imp fun t q => ⟨XS.ishr X.here hx rfl (hb hby hd) rfl q.1, q.2⟩
theorem g_iushr (X : Stand p l e R s m args below meth c T locs cells slots) (hx : p.tables.exec = Jvm.exec) (hby : c.code = code) {x : Int32} {y : Int32} (hd : Ins1 code pc (.iushr) 1 pn) (k : Gd p e below P T (mkF m pn Ls (.int ((x.toUInt32 >>> (y &&& 31).toUInt32).toInt32) :: st))) : Gd p e below P T (mkF m pc Ls (.int y :: .int x :: st)) := by
  obtain ⟨hd, rfl⟩ := hd
  exact k.imp fun t q => ⟨XS.iushr X.here hx rfl (hb hby hd) rfl q.1, q.2⟩
theorem g_lshl (X : Stand p l e R s m args below meth c T locs cells slots) (hx : p.tables.exec = Jvm.exec) (hby : c.code = code) {x : Int64} {y : Int32} (hd : Ins1 code pc (.lshl) 1 pn) (k : Gd p e below P T (mkF m pn Ls (.long (x <<< (y &&& 0x3f).toInt64) :: st))) : Gd p e below P T (mkF m pc Ls (.int y :: .long x :: st)) := by
  obtain ⟨hd, rfl⟩ := hd
  exact k.imp fun t q => ⟨XS.lshl X.here hx rfl (hb hby hd) rfl q.1, q.2⟩
theorem g_lshr (X : Stand p l e R s m args below meth c T locs cells slots) (hx : p.tables.exec = Jvm.exec) (hby : c.code = code) {x : Int64} {y : Int32} (hd : Ins1 code pc (.lshr) 1 pn) (k : Gd p e below P T (mkF m pn Ls (.long (x >>> (y &&& 0x3f).toInt64) :: st))) : Gd p e below P T (mkF m pc Ls (.int y :: .long x :: st)) := by
  obtain ⟨hd, rfl⟩ := hd
  exact k.imp fun t q => ⟨XS.lshr X.here hx rfl (hb hby hd) rfl q.1, q.2⟩
theorem g_lushr (X : Stand p l e R s m args below meth c T locs cells slots) (hx : p.tables.exec = Jvm.exec) (hby : c.code = code) {x : Int64} {y : Int32} (hd : Ins1 code pc (.lushr) 1 pn) (k : Gd p e below P T (mkF m pn Ls (.long ((x.toUInt64 >>> (y &&& 0x3f).toInt64.toUInt64).toInt64) :: st))) : Gd p e below P T (mkF m pc Ls (.int y :: .long x :: st)) := by
  obtain ⟨hd, rfl⟩ := hd
  exact k.imp fun t q => ⟨XS.lushr X.here hx rfl (hb hby hd) rfl q.1, q.2⟩
theorem g_ineg (X : Stand p l e R s m args below meth c T locs cells slots) (hx : p.tables.exec = Jvm.exec) (hby : c.code = code) {x : Int32} (hd : Ins1 code pc (.ineg) 1 pn) (k : Gd p e below P T (mkF m pn Ls (.int (-x) :: st))) : Gd p e below P T (mkF m pc Ls (.int x :: st)) := by
  obtain ⟨hd, rfl⟩ := hd
  exact k.imp fun t q => ⟨XS.ineg X.here hx rfl (hb hby hd) rfl q.1, q.2⟩
theorem g_lneg (X : Stand p l e R s m args below meth c T locs cells slots) (hx : p.tables.exec = Jvm.exec) (hby : c.code = code) {x : Int64} (hd : Ins1 code pc (.lneg) 1 pn) (k : Gd p e below P T (mkF m pn Ls (.long (-x) :: st))) : Gd p e below P T (mkF m pc Ls (.long x :: st)) := by
  obtain ⟨hd, rfl⟩ := hd
  exact k.imp fun t q => ⟨XS.lneg X.here hx rfl (hb hby hd) rfl q.1, q.2⟩
theorem g_i2l (X : Stand p l e R s m args below meth c T locs cells slots) (hx : p.tables.exec = Jvm.exec) (hby : c.code = code) {x : Int32} (hd : Ins1 code pc (.i2l) 1 pn) (k : Gd p e below P T (mkF m pn Ls (.long x.toInt64 :: st))) : Gd p e below P T (mkF m pc Ls (.int x :: st)) := by
  obtain ⟨hd, rfl⟩ := hd
  exact k.imp fun t q => ⟨XS.i2l X.here hx rfl (hb hby hd) rfl q.1, q.2⟩
theorem g_l2i (X : Stand p l e R s m args below meth c T locs cells slots) (hx : p.tables.exec = Jvm.exec) (hby : c.code = code) {x : Int64} (hd : Ins1 code pc (.l2i) 1 pn) (k : Gd p e below P T (mkF m pn Ls (.int x.toInt32 :: st))) : Gd p e below P T (mkF m pc Ls (.long x :: st)) := by
  obtain ⟨hd, rfl⟩ := hd
  exact k.imp fun t q => ⟨XS.l2i X.here hx rfl (hb hby hd) rfl q.1, q.2⟩
theorem g_i2b (X : Stand p l e R s m args below meth c T locs cells slots) (hx : p.tables.exec = Jvm.exec) (hby : c.code = code) {x : Int32} (hd : Ins1 code pc (.i2b) 1 pn) (k : Gd p e below P T (mkF m pn Ls (.int x.toInt8.toInt32 :: st))) : Gd p e below P T (mkF m pc Ls (.int x :: st)) := by
  obtain ⟨hd, rfl⟩ := hd
  exact k.imp fun t q => ⟨XS.i2b X.here hx rfl (hb hby hd) rfl q.1, q.2⟩
theorem g_i2s (X : Stand p l e R s m args below meth c T locs cells slots) (hx : p.tables.exec = Jvm.exec) (hby : c.code = code) {x : Int32} (hd : Ins1 code pc (.i2s) 1 pn) (k : Gd p e below P T (mkF m pn Ls (.int x.toInt16.toInt32 :: st))) : Gd p e below P T (mkF m pc Ls (.int x :: st)) := by
  obtain ⟨hd, rfl⟩ := hd
  exact k.imp fun t q => ⟨XS.i2s X.here hx rfl (hb hby hd) rfl q.1, q.2⟩
theorem g_i2c (X : Stand p l e R s m args below meth c T locs cells slots) (hx : p.tables.exec = Jvm.exec) (hby : c.code = code) {x : Int32} (hd : Ins1 code pc (.i2c) 1 pn) (k : Gd p e below P T (mkF m pn Ls (.int x.toUInt32.toUInt16.toUInt32.toInt32 :: st))) : Gd p e below P T (mkF m pc Ls (.int x :: st)) := by
  obtain ⟨hd, rfl⟩ := hd
  exact k.imp fun t q => ⟨XS.i2c X.here hx rfl (hb hby hd) rfl q.1, q.2⟩
theorem g_idiv (X : Stand p l e R s m args below meth c T locs cells slots) (hx : p.tables.exec = Jvm.exec) (hby : c.code = code) {x y : Int32} (hd : Ins1 code pc (.idiv) 1 pn) (hy : y ≠ 0) (k : Gd p e below P T (mkF m pn Ls (.int (x / y) :: st))) : Gd p e below P T (mkF m pc Ls (.int y :: .int x :: st)) := by
  obtain ⟨hd, rfl⟩ := hd
  exact k.imp fun t q => ⟨XS.idiv X.here hx rfl (hb hby hd) rfl hy q.1, q.2⟩
theorem g_ldiv (X : Stand p l e R s m args below meth c T locs cells slots) (hx : p.tables.exec = Jvm.exec) (hby : c.code = code) {x y : Int64} (hd : Ins1 code pc (.ldiv) 1 pn) (hy : y ≠ 0) (k : Gd p e below P T (mkF m pn Ls (.long (x / y) :: st))) : Gd p e below P T (mkF m pc Ls (.long y :: .long x :: st)) := by
  obtain ⟨hd, rfl⟩ := hd
  exact k.imp fun t q => ⟨XS.ldiv X.here hx rfl (hb hby hd) rfl hy q.1, q.2⟩
theorem g_lrem (X : Stand p l e R s m args below meth c T locs cells slots) (hx : p.tables.exec = Jvm.exec) (hby : c.code = code) {x y : Int64} (hd : Ins1 code pc (.lrem) 1 pn) (hy : y ≠ 0) (k : Gd p e below P T (mkF m pn Ls (.long (x - (x / y) * y) :: st))) : Gd p e below P T (mkF m pc Ls (.long y :: .long x :: st)) := by
  obtain ⟨hd, rfl⟩ := hd
  exact k.imp fun t q => ⟨XS.lrem X.here hx rfl (hb hby hd) rfl hy q.1, q.2⟩
theorem g_irem (X : Stand p l e R s m args below meth c T locs cells slots) (hx : p.tables.exec = Jvm.exec) (hby : c.code = code) {x y : Int32} (hd : Ins1 code pc .irem 1 pn) (hy : y ≠ 0) (k : Gd p e below P T (mkF m pn Ls (.int (x % y) :: st))) : Gd p e below P T (mkF m pc Ls (.int y :: .int x :: st)) := by
  obtain ⟨hd, rfl⟩ := hd
  exact k.imp fun t q => ⟨iremM X hx rfl (hb hby hd) rfl hy q.1, q.2⟩
theorem g_iinc (X : Stand p l e R s m args below meth c T locs cells slots) (hx : p.tables.exec = Jvm.exec) (hby : c.code = code) {j : Nat} {i : Int} {x z : Int32} {l' : Array Slot} (hd : Ins1 code pc (.iinc j i) 3 pn) (hl : Ls[j]? = some (.val (.int x))) (hz : x + Int32.ofInt i = z) (hs : storeLocals Ls j (.int z) = some l') (k : Gd p e below P T (mkF m pn l' st)) : Gd p e below P T (mkF m pc Ls st) := by
  obtain ⟨hd, rfl⟩ := hd
  subst hz
  exact k.imp fun t q => ⟨XS.iinc X.here hx rfl (hb hby hd) hl hs q.1, q.2⟩
theorem g_dup (X : Stand p l e R s m args below meth c T locs cells slots) (hx : p.tables.exec = Jvm.exec) (hby : c.code = code) {x : Value} (hd : Ins1 code pc (.dup) 1 pn) (hc : x.category = 1) (k : Gd p e below P T (mkF m pn Ls (x :: x :: st))) : Gd p e below P T (mkF m pc Ls (x :: st)) := by
  obtain ⟨hd, rfl⟩ := hd
  exact k.imp fun t q => ⟨XS.dup X.here hx rfl (hb hby hd) rfl hc q.1, q.2⟩
theorem g_dup2 (X : Stand p l e R s m args below meth c T locs cells slots) (hx : p.tables.exec = Jvm.exec) (hby : c.code = code) {x y : Value} (hd : Ins1 code pc (.dup2) 1 pn) (hc : x.category = 1) (hc2 : y.category = 1) (k : Gd p e below P T (mkF m pn Ls (x :: y :: x :: y :: st))) : Gd p e below P T (mkF m pc Ls (x :: y :: st)) := by
  obtain ⟨hd, rfl⟩ := hd
  exact k.imp fun t q => ⟨XT.dup2 X.here hx rfl (hb hby hd) rfl hc hc2 q.1, q.2⟩
theorem g_dup2L (X : Stand p l e R s m args below meth c T locs cells slots) (hx : p.tables.exec = Jvm.exec) (hby : c.code = code) {x : Int64} (hd : Ins1 code pc (.dup2) 1 pn) (k : Gd p e below P T (mkF m pn Ls (.long x :: .long x :: st))) : Gd p e below P T (mkF m pc Ls (.long x :: st)) := by
  obtain ⟨hd, rfl⟩ := hd
  exact k.imp fun t q => ⟨XT.dup2L X.here hx rfl (hb hby hd) rfl q.1, q.2⟩
theorem g_pop (X : Stand p l e R s m args below meth c T locs cells slots) (hx : p.tables.exec = Jvm.exec) (hby : c.code = code) {x : Value} (hd : Ins1 code pc (.pop) 1 pn) (hc : x.category = 1) (k : Gd p e below P T (mkF m pn Ls (st))) : Gd p e below P T (mkF m pc Ls (x :: st)) := by
  obtain ⟨hd, rfl⟩ := hd
  exact k.imp fun t q => ⟨XS.pop X.here hx rfl (hb hby hd) rfl hc q.1, q.2⟩
theorem g_dup_x1 (X : Stand p l e R s m args below meth c T locs cells slots) (hx : p.tables.exec = Jvm.exec) (hby : c.code = code) {x y : Value} (hd : Ins1 code pc (.dup_x1) 1 pn) (hc : x.category = 1) (hc2 : y.category = 1) (k : Gd p e below P T (mkF m pn Ls (x :: y :: x :: st))) : Gd p e below P T (mkF m pc Ls (x :: y :: st)) := by
  obtain ⟨hd, rfl⟩ := hd
  exact k.imp fun t q => ⟨XS.dupX1 X.here hx rfl (hb hby hd) rfl hc hc2 q.1, q.2⟩
theorem g_i2d (X : Stand p l e R s m args below meth c T locs cells slots) (hx : p.tables.exec = Jvm.exec) (hby : c.code = code) {x : Int32} (hd : Ins1 code pc (.i2d) 1 pn) (k : Gd p e below P T (mkF m pn Ls (.double (FP.i2d x) :: st))) : Gd p e below P T (mkF m pc Ls (.int x :: st)) := by
  obtain ⟨hd, rfl⟩ := hd
  exact k.imp fun t q => ⟨XS.i2dS X.here hx rfl (hb hby hd) rfl rfl q.1, q.2⟩
theorem g_l2d (X : Stand p l e R s m args below meth c T locs cells slots) (hx : p.tables.exec = Jvm.exec) (hby : c.code = code) {x : Int64} (hd : Ins1 code pc (.l2d) 1 pn) (k : Gd p e below P T (mkF m pn Ls (.double (FP.l2d x) :: st))) : Gd p e below P T (mkF m pc Ls (.long x :: st)) := by
  obtain ⟨hd, rfl⟩ := hd
  exact k.imp fun t q => ⟨XS.l2dS X.here hx rfl (hb hby hd) rfl rfl q.1, q.2⟩
theorem g_ddiv (X : Stand p l e R s m args below meth c T locs cells slots) (hx : p.tables.exec = Jvm.exec) (hby : c.code = code) {x y : UInt64} (hd : Ins1 code pc (.ddiv) 1 pn) (hn : Jvm.Free.Fl.NoNaN64 (FP.ddiv x y)) (k : Gd p e below P T (mkF m pn Ls (.double (FP.ddiv x y) :: st))) : Gd p e below P T (mkF m pc Ls (.double y :: .double x :: st)) := by
  obtain ⟨hd, rfl⟩ := hd
  exact k.imp fun t q => ⟨XS.ddivS X.here hx rfl (hb hby hd) rfl hn rfl q.1, q.2⟩
theorem g_dcmp (X : Stand p l e R s m args below meth c T locs cells slots) (hx : p.tables.exec = Jvm.exec) (hby : c.code = code) {x y : UInt64} {o : CmpOp} (hd : Ins1 code pc (.dcmp o) 1 pn) (k : Gd p e below P T (mkF m pn Ls (.int (cmpValue (FP.dcmp x y) o) :: st))) : Gd p e below P T (mkF m pc Ls (.double y :: .double x :: st)) := by
  obtain ⟨hd, rfl⟩ := hd
  exact k.imp fun t q => ⟨XS.dcmpS X.here hx rfl (hb hby hd) rfl rfl q.1, q.2⟩
theorem g_dconst0 (X : Stand p l e R s m args below meth c T locs cells slots) (hx : p.tables.exec = Jvm.exec) (hby : c.code = code)  (hd : Ins1 code pc (.dconst 0) 1 pn) (k : Gd p e below P T (mkF m pn Ls (.double FP.dconst0 :: st))) : Gd p e below P T (mkF m pc Ls (st)) := by
  obtain ⟨hd, rfl⟩ := hd
  exact k.imp fun t q => ⟨XS.dconst0 X.here hx rfl (hb hby hd) rfl q.1, q.2⟩
theorem g_dconst1 (X : Stand p l e R s m args below meth c T locs cells slots) (hx : p.tables.exec = Jvm.exec) (hby : c.code = code)  (hd : Ins1 code pc (.dconst 1) 1 pn) (k : Gd p e below P T (mkF m pn Ls (.double FP.dconst1 :: st))) : Gd p e below P T (mkF m pc Ls (st)) := by
  obtain ⟨hd, rfl⟩ := hd
  exact k.imp fun t q => ⟨XS.dconst1 X.here hx rfl (hb hby hd) rfl q.1, q.2⟩
theorem g_lcmp (X : Stand p l e R s m args below meth c T locs cells slots) (hx : p.tables.exec = Jvm.exec) (hby : c.code = code) {x y : Int64} (hd : Ins1 code pc (.lcmp) 1 pn) (k : Gd p e below P T (mkF m pn Ls (.int (lcmpW x y) :: st))) : Gd p e below P T (mkF m pc Ls (.long y :: .long x :: st)) := by
  obtain ⟨hd, rfl⟩ := hd
  exact k.imp fun t q => ⟨XS.lcmp X.here hx rfl (hb hby hd) rfl q.1, q.2⟩
theorem g_goto (X : Stand p l e R s m args below meth c T locs cells slots) (hx : p.tables.exec = Jvm.exec) (hby : c.code = code) {o : Int} (hd : InsB code pc (.goto o) o pn pt) (k : Gd p e below P T (mkF m pt Ls st)) : Gd p e below P T (mkF m pc Ls st) := by
  obtain ⟨hd, -, ho, hp⟩ := hd
  exact k.imp fun t q => ⟨XS.goto X.here hx rfl rfl (hb hby hd) ho hp q.1, q.2⟩
theorem g_icmp_lt (X : Stand p l e R s m args below meth c T locs cells slots) (hx : p.tables.exec = Jvm.exec) (hby : c.code = code) {x y : Int32} {o : Int} (hd : InsB code pc (.if_icmp .lt o) o pn pt) (ky : x < y → Gd p e below P T (mkF m pt Ls st)) (kn : ¬ x < y → Gd p e below P T (mkF m pn Ls st)) : Gd p e below P T (mkF m pc Ls (.int y :: .int x :: st)) := by
  obtain ⟨hd, rfl, ho, hp⟩ := hd
  by_cases w : x < y
  · exact (ky w).imp fun t q => ⟨XS.icmpYes X.here hx rfl rfl (hb hby hd) rfl (tlt w).1 ho hp q.1, q.2⟩
  · exact (kn w).imp fun t q => ⟨XS.icmpNo X.here hx rfl (hb hby hd) rfl (flt w).1 q.1, q.2⟩
theorem g_if_lt (X : Stand p l e R s m args below meth c T locs cells slots) (hx : p.tables.exec = Jvm.exec) (hby : c.code = code) {x : Int32} {o : Int} (hd : InsB code pc (.ifCond .lt o) o pn pt) (ky : x < 0 → Gd p e below P T (mkF m pt Ls st)) (kn : ¬ x < 0 → Gd p e below P T (mkF m pn Ls st)) : Gd p e below P T (mkF m pc Ls (.int x :: st)) := by
  obtain ⟨hd, rfl, ho, hp⟩ := hd
  by_cases w : x < 0
  · exact (ky w).imp fun t q => ⟨XS.ifYes X.here hx rfl rfl (hb hby hd) rfl ((if0 _ _).trans (tlt w).1) ho hp q.1, q.2⟩
  · exact (kn w).imp fun t q => ⟨XS.ifNo X.here hx rfl (hb hby hd) rfl ((if0 _ _).trans (flt w).1) q.1, q.2⟩
theorem g_lcmp_lt (X : Stand p l e R s m args below meth c T locs cells slots) (hx : p.tables.exec = Jvm.exec) (hby : c.code = code) {x y : Int64} {o : Int} {pc1 : Nat} (hc : Ins1 code pc .lcmp 1 pc1) (hd : InsB code pc1 (.ifCond .lt o) o pn pt) (ky : x < y → Gd p e below P T (mkF m pt Ls st)) (kn : ¬ x < y → Gd p e below P T (mkF m pn Ls st)) : Gd p e below P T (mkF m pc Ls (.long y :: .long x :: st)) :=
  g_lcmp X hx hby hc (g_if_lt X hx hby hd (fun w => ky ((lw_lt x y).mp w)) (fun w => kn (fun q => w ((lw_lt x y).mpr q))))
theorem g_icmp_ge (X : Stand p l e R s m args below meth c T locs cells slots) (hx : p.tables.exec = Jvm.exec) (hby : c.code = code) {x y : Int32} {o : Int} (hd : InsB code pc (.if_icmp .ge o) o pn pt) (ky : ¬ x < y → Gd p e below P T (mkF m pt Ls st)) (kn : x < y → Gd p e below P T (mkF m pn Ls st)) : Gd p e below P T (mkF m pc Ls (.int y :: .int x :: st)) := by
  obtain ⟨hd, rfl, ho, hp⟩ := hd
  by_cases w : x < y
  · exact (kn w).imp fun t q => ⟨XS.icmpNo X.here hx rfl (hb hby hd) rfl (tlt w).2.1 q.1, q.2⟩
  · exact (ky w).imp fun t q => ⟨XS.icmpYes X.here hx rfl rfl (hb hby hd) rfl (flt w).2.1 ho hp q.1, q.2⟩
theorem g_if_ge (X : Stand p l e R s m args below meth c T locs cells slots) (hx : p.tables.exec = Jvm.exec) (hby : c.code = code) {x : Int32} {o : Int} (hd : InsB code pc (.ifCond .ge o) o pn pt) (ky : ¬ x < 0 → Gd p e below P T (mkF m pt Ls st)) (kn : x < 0 → Gd p e below P T (mkF m pn Ls st)) : Gd p e below P T (mkF m pc Ls (.int x :: st)) := by
  obtain ⟨hd, rfl, ho, hp⟩ := hd
  by_cases w : x < 0
  · exact (kn w).imp fun t q => ⟨XS.ifNo X.here hx rfl (hb hby hd) rfl ((if0 _ _).trans (tlt w).2.1) q.1, q.2⟩
  · exact (ky w).imp fun t q => ⟨XS.ifYes X.here hx rfl rfl (hb hby hd) rfl ((if0 _ _).trans (flt w).2.1) ho hp q.1, q.2⟩
theorem g_lcmp_ge (X : Stand p l e R s m args below meth c T locs cells slots) (hx : p.tables.exec = Jvm.exec) (hby : c.code = code) {x y : Int64} {o : Int} {pc1 : Nat} (hc : Ins1 code pc .lcmp 1 pc1) (hd : InsB code pc1 (.ifCond .ge o) o pn pt) (ky : ¬ x < y → Gd p e below P T (mkF m pt Ls st)) (kn : x < y → Gd p e below P T (mkF m pn Ls st)) : Gd p e below P T (mkF m pc Ls (.long y :: .long x :: st)) :=
  g_lcmp X hx hby hc (g_if_ge X hx hby hd (fun w => ky (fun q => w ((lw_lt x y).mpr q))) (fun w => kn ((lw_lt x y).mp w)))
theorem g_icmp_gt (X : Stand p l e R s m args below meth c T locs cells slots) (hx : p.tables.exec = Jvm.exec) (hby : c.code = code) {x y : Int32} {o : Int} (hd : InsB code pc (.if_icmp .gt o) o pn pt) (ky : y < x → Gd p e below P T (mkF m pt Ls st)) (kn : ¬ y < x → Gd p e below P T (mkF m pn Ls st)) : Gd p e below P T (mkF m pc Ls (.int y :: .int x :: st)) := by
  obtain ⟨hd, rfl, ho, hp⟩ := hd
  by_cases w : y < x
  · exact (ky w).imp fun t q => ⟨XS.icmpYes X.here hx rfl rfl (hb hby hd) rfl (tlt w).2.2.1 ho hp q.1, q.2⟩
  · exact (kn w).imp fun t q => ⟨XS.icmpNo X.here hx rfl (hb hby hd) rfl (flt w).2.2.1 q.1, q.2⟩
theorem g_if_gt (X : Stand p l e R s m args below meth c T locs cells slots) (hx : p.tables.exec = Jvm.exec) (hby : c.code = code) {x : Int32} {o : Int} (hd : InsB code pc (.ifCond .gt o) o pn pt) (ky : 0 < x → Gd p e below P T (mkF m pt Ls st)) (kn : ¬ 0 < x → Gd p e below P T (mkF m pn Ls st)) : Gd p e below P T (mkF m pc Ls (.int x :: st)) := by
  obtain ⟨hd, rfl, ho, hp⟩ := hd
  by_cases w : 0 < x
  · exact (ky w).imp fun t q => ⟨XS.ifYes X.here hx rfl rfl (hb hby hd) rfl ((if0 _ _).trans (tlt w).2.2.1) ho hp q.1, q.2⟩
  · exact (kn w).imp fun t q => ⟨XS.ifNo X.here hx rfl (hb hby hd) rfl ((if0 _ _).trans (flt w).2.2.1) q.1, q.2⟩
theorem g_lcmp_gt (X : Stand p l e R s m args below meth c T locs cells slots) (hx : p.tables.exec = Jvm.exec) (hby : c.code = code) {x y : Int64} {o : Int} {pc1 : Nat} (hc : Ins1 code pc .lcmp 1 pc1) (hd : InsB code pc1 (.ifCond .gt o) o pn pt) (ky : y < x → Gd p e below P T (mkF m pt Ls st)) (kn : ¬ y < x → Gd p e below P T (mkF m pn Ls st)) : Gd p e below P T (mkF m pc Ls (.long y :: .long x :: st)) :=
  g_lcmp X hx hby hc (g_if_gt X hx hby hd (fun w => ky ((lw_gt x y).mp w)) (fun w => kn (fun q => w ((lw_gt x y).mpr q))))
theorem g_icmp_le (X : Stand p l e R s m args below meth c T locs cells slots) (hx : p.tables.exec = Jvm.exec) (hby : c.code = code) {x y : Int32} {o : Int} (hd : InsB code pc (.if_icmp .le o) o pn pt) (ky : ¬ y < x → Gd p e below P T (mkF m pt Ls st)) (kn : y < x → Gd p e below P T (mkF m pn Ls st)) : Gd p e below P T (mkF m pc Ls (.int y :: .int x :: st)) := by
  obtain ⟨hd, rfl, ho, hp⟩ := hd
  by_cases w : y < x
  · exact (kn w).imp fun t q => ⟨XS.icmpNo X.here hx rfl (hb hby hd) rfl (tlt w).2.2.2 q.1, q.2⟩
  · exact (ky w).imp fun t q => ⟨XS.icmpYes X.here hx rfl rfl (hb hby hd) rfl (flt w).2.2.2 ho hp q.1, q.2⟩
theorem g_if_le (X : Stand p l e R s m args below meth c T locs cells slots) (hx : p.tables.exec = Jvm.exec) (hby : c.code = code) {x : Int32} {o : Int} (hd : InsB code pc (.ifCond .le o) o pn pt) (ky : ¬ 0 < x → Gd p e below P T (mkF m pt Ls st)) (kn : 0 < x → Gd p e below P T (mkF m pn Ls st)) : Gd p e below P T (mkF m pc Ls (.int x :: st)) := by
  obtain ⟨hd, rfl, ho, hp⟩ := hd
  by_cases w : 0 < x
  · exact (kn w).imp fun t q => ⟨XS.ifNo X.here hx rfl (hb hby hd) rfl ((if0 _ _).trans (tlt w).2.2.2) q.1, q.2⟩
  · exact (ky w).imp fun t q => ⟨XS.ifYes X.here hx rfl rfl (hb hby hd) rfl ((if0 _ _).trans (flt w).2.2.2) ho hp q.1, q.2⟩
theorem g_lcmp_le (X : Stand p l e R s m args below meth c T locs cells slots) (hx : p.tables.exec = Jvm.exec) (hby : c.code = code) {x y : Int64} {o : Int} {pc1 : Nat} (hc : Ins1 code pc .lcmp 1 pc1) (hd : InsB code pc1 (.ifCond .le o) o pn pt) (ky : ¬ y < x → Gd p e below P T (mkF m pt Ls st)) (kn : y < x → Gd p e below P T (mkF m pn Ls st)) : Gd p e below P T (mkF m pc Ls (.long y :: .long x :: st)) :=
  g_lcmp X hx hby hc (g_if_le X hx hby hd (fun w => ky (fun q => w ((lw_gt x y).mpr q))) (fun w => kn ((lw_gt x y).mp w)))
theorem g_icmp_eq (X : Stand p l e R s m args below meth c T locs cells slots) (hx : p.tables.exec = Jvm.exec) (hby : c.code = code) {x y : Int32} {o : Int} (hd : InsB code pc (.if_icmp .eq o) o pn pt) (ky : x = y → Gd p e below P T (mkF m pt Ls st)) (kn : ¬ x = y → Gd p e below P T (mkF m pn Ls st)) : Gd p e below P T (mkF m pc Ls (.int y :: .int x :: st)) := by
  obtain ⟨hd, rfl, ho, hp⟩ := hd
  by_cases w : x = y
  · exact (ky w).imp fun t q => ⟨XS.icmpYes X.here hx rfl rfl (hb hby hd) rfl (teq w).1 ho hp q.1, q.2⟩
  · exact (kn w).imp fun t q => ⟨XS.icmpNo X.here hx rfl (hb hby hd) rfl (feq w).1 q.1, q.2⟩
theorem g_if_eq (X : Stand p l e R s m args below meth c T locs cells slots) (hx : p.tables.exec = Jvm.exec) (hby : c.code = code) {x : Int32} {o : Int} (hd : InsB code pc (.ifCond .eq o) o pn pt) (ky : x = 0 → Gd p e below P T (mkF m pt Ls st)) (kn : ¬ x = 0 → Gd p e below P T (mkF m pn Ls st)) : Gd p e below P T (mkF m pc Ls (.int x :: st)) := by
  obtain ⟨hd, rfl, ho, hp⟩ := hd
  by_cases w : x = 0
  · exact (ky w).imp fun t q => ⟨XS.ifYes X.here hx rfl rfl (hb hby hd) rfl ((if0 _ _).trans (teq w).1) ho hp q.1, q.2⟩
  · exact (kn w).imp fun t q => ⟨XS.ifNo X.here hx rfl (hb hby hd) rfl ((if0 _ _).trans (feq w).1) q.1, q.2⟩
theorem g_lcmp_eq (X : Stand p l e R s m args below meth c T locs cells slots) (hx : p.tables.exec = Jvm.exec) (hby : c.code = code) {x y : Int64} {o : Int} {pc1 : Nat} (hc : Ins1 code pc .lcmp 1 pc1) (hd : InsB code pc1 (.ifCond .eq o) o pn pt) (ky : x = y → Gd p e below P T (mkF m pt Ls st)) (kn : ¬ x = y → Gd p e below P T (mkF m pn Ls st)) : Gd p e below P T (mkF m pc Ls (.long y :: .long x :: st)) :=
  g_lcmp X hx hby hc (g_if_eq X hx hby hd (fun w => ky ((lw_eq x y).mp w)) (fun w => kn (fun q => w ((lw_eq x y).mpr q))))
theorem g_icmp_ne (X : Stand p l e R s m args below meth c T locs cells slots) (hx : p.tables.exec = Jvm.exec) (hby : c.code = code) {x y : Int32} {o : Int} (hd : InsB code pc (.if_icmp .ne o) o pn pt) (ky : ¬ x = y → Gd p e below P T (mkF m pt Ls st)) (kn : x = y → Gd p e below P T (mkF m pn Ls st)) : Gd p e below P T (mkF m pc Ls (.int y :: .int x :: st)) := by
  obtain ⟨hd, rfl, ho, hp⟩ := hd
  by_cases w : x = y
  · exact (kn w).imp fun t q => ⟨XS.icmpNo X.here hx rfl (hb hby hd) rfl (teq w).2 q.1, q.2⟩
  · exact (ky w).imp fun t q => ⟨XS.icmpYes X.here hx rfl rfl (hb hby hd) rfl (feq w).2 ho hp q.1, q.2⟩
theorem g_if_ne (X : Stand p l e R s m args below meth c T locs cells slots) (hx : p.tables.exec = Jvm.exec) (hby : c.code = code) {x : Int32} {o : Int} (hd : InsB code pc (.ifCond .ne o) o pn pt) (ky : ¬ x = 0 → Gd p e below P T (mkF m pt Ls st)) (kn : x = 0 → Gd p e below P T (mkF m pn Ls st)) : Gd p e below P T (mkF m pc Ls (.int x :: st)) := by
  obtain ⟨hd, rfl, ho, hp⟩ := hd
  by_cases w : x = 0
  · exact (kn w).imp fun t q => ⟨XS.ifNo X.here hx rfl (hb hby hd) rfl ((if0 _ _).trans (teq w).2) q.1, q.2⟩
  · exact (ky w).imp fun t q => ⟨XS.ifYes X.here hx rfl rfl (hb hby hd) rfl ((if0 _ _).trans (feq w).2) ho hp q.1, q.2⟩
theorem g_lcmp_ne (X : Stand p l e R s m args below meth c T locs cells slots) (hx : p.tables.exec = Jvm.exec) (hby : c.code = code) {x y : Int64} {o : Int} {pc1 : Nat} (hc : Ins1 code pc .lcmp 1 pc1) (hd : InsB code pc1 (.ifCond .ne o) o pn pt) (ky : ¬ x = y → Gd p e below P T (mkF m pt Ls st)) (kn : x = y → Gd p e below P T (mkF m pn Ls st)) : Gd p e below P T (mkF m pc Ls (.long y :: .long x :: st)) :=
  g_lcmp X hx hby hc (g_if_ne X hx hby hd (fun w => ky (fun q => w ((lw_eq x y).mpr q))) (fun w => kn ((lw_eq x y).mp w)))
theorem g_ifnull_y (X : Stand p l e R s m args below meth c T locs cells slots) (hx : p.tables.exec = Jvm.exec) (hby : c.code = code) {o : Int} (hd : InsB code pc (.ifnull o) o pn pt) (k : Gd p e below P T (mkF m pt Ls st)) : Gd p e below P T (mkF m pc Ls (.null :: st)) := by
  obtain ⟨hd, -, ho, hp⟩ := hd
  exact k.imp fun t q => ⟨XS.ifnullYes X.here hx rfl rfl (hb hby hd) rfl ho hp q.1, q.2⟩
theorem g_ifnull_n (X : Stand p l e R s m args below meth c T locs cells slots) (hx : p.tables.exec = Jvm.exec) (hby : c.code = code) {o : Int} {b : Addr} (hd : InsB code pc (.ifnull o) o pn pt) (k : Gd p e below P T (mkF m pn Ls st)) : Gd p e below P T (mkF m pc Ls (.ref b :: st)) := by
  obtain ⟨hd, rfl, ho, hp⟩ := hd
  exact k.imp fun t q => ⟨XS.ifnullNo X.here hx rfl (hb hby hd) rfl q.1, q.2⟩
theorem g_ifnonnull_n (X : Stand p l e R s m args below meth c T locs cells slots) (hx : p.tables.exec = Jvm.exec) (hby : c.code = code) {o : Int} (hd : InsB code pc (.ifnonnull o) o pn pt) (k : Gd p e below P T (mkF m pn Ls st)) : Gd p e below P T (mkF m pc Ls (.null :: st)) := by
  obtain ⟨hd, rfl, ho, hp⟩ := hd
  exact k.imp fun t q => ⟨XS.ifnonnullNo X.here hx rfl (hb hby hd) rfl q.1, q.2⟩
theorem g_ifnonnull_y (X : Stand p l e R s m args below meth c T locs cells slots) (hx : p.tables.exec = Jvm.exec) (hby : c.code = code) {o : Int} {b : Addr} (hd : InsB code pc (.ifnonnull o) o pn pt) (k : Gd p e below P T (mkF m pt Ls st)) : Gd p e below P T (mkF m pc Ls (.ref b :: st)) := by
  obtain ⟨hd, -, ho, hp⟩ := hd
  exact k.imp fun t q => ⟨XS.ifnonnullYes X.here hx rfl rfl (hb hby hd) rfl ho hp q.1, q.2⟩
theorem g_acmp_eq (X : Stand p l e R s m args below meth c T locs cells slots) (hx : p.tables.exec = Jvm.exec) (hby : c.code = code) {o : Int} {x y : Value} (hd : InsB code pc (.if_acmp .eq o) o pn pt) (h1 : x.isRef = true) (h2 : y.isRef = true) (ky : x = y → Gd p e below P T (mkF m pt Ls st)) (kn : ¬ x = y → Gd p e below P T (mkF m pn Ls st)) : Gd p e below P T (mkF m pc Ls (y :: x :: st)) := by
  obtain ⟨hd, hn, ho, hp⟩ := hd
  by_cases w : x = y
  · exact (ky w).imp fun t q => ⟨Jvm.RoadKit.acmp (g := mkF m pc Ls (y :: x :: st)) X hx rfl h1 h2 rfl (hb hby hd) rfl (same := true) (decide_eq_true w) ho (by show _ = ((pc : Int) + o).toNat; exact hp.symm) q.1, q.2⟩
  · exact (kn w).imp fun t q => ⟨Jvm.RoadKit.acmp (g := mkF m pc Ls (y :: x :: st)) X hx rfl h1 h2 rfl (hb hby hd) rfl (same := false) (decide_eq_false w) ho (by show _ = pc + 3; exact hn.symm) q.1, q.2⟩
theorem g_acmp_ne (X : Stand p l e R s m args below meth c T locs cells slots) (hx : p.tables.exec = Jvm.exec) (hby : c.code = code) {o : Int} {x y : Value} (hd : InsB code pc (.if_acmp .ne o) o pn pt) (h1 : x.isRef = true) (h2 : y.isRef = true) (ky : ¬ x = y → Gd p e below P T (mkF m pt Ls st)) (kn : x = y → Gd p e below P T (mkF m pn Ls st)) : Gd p e below P T (mkF m pc Ls (y :: x :: st)) := by
  obtain ⟨hd, hn, ho, hp⟩ := hd
  by_cases w : x = y
  · exact (kn w).imp fun t q => ⟨Jvm.RoadKit.acmp (g := mkF m pc Ls (y :: x :: st)) X hx rfl h1 h2 rfl (hb hby hd) rfl (same := true) (decide_eq_true w) ho (by show _ = pc + 3; exact hn.symm) q.1, q.2⟩
  · exact (ky w).imp fun t q => ⟨Jvm.RoadKit.acmp (g := mkF m pc Ls (y :: x :: st)) X hx rfl h1 h2 rfl (hb hby hd) rfl (same := false) (decide_eq_false w) ho (by show _ = ((pc : Int) + o).toNat; exact hp.symm) q.1, q.2⟩
theorem g_ldcInt (X : Stand p l e R s m args below meth c T locs cells slots) (hx : p.tables.exec = Jvm.exec) (hby : c.code = code) (hZ : Z.Warmed39 s.vm) {own : String} (hown : s.vm.findClass own = some m.cls) {i : Nat} {v : Int32} (w : (Jvm.Cond.constant own i v).before a0 Z = true) (hd : Ins1 code pc (.ldc i) 2 pn) (k : Gd p e below P T (mkF m pn Ls (.int v :: st))) : Gd p e below P T (mkF m pc Ls st) := by
  obtain ⟨hd, rfl⟩ := hd
  exact k.imp fun t q => ⟨X.ldcInt hx hown (mvT hZ w) (g := mkF m pc Ls st) rfl (hb hby hd) _ q.1, q.2⟩
theorem g_ldc2Long (X : Stand p l e R s m args below meth c T locs cells slots) (hx : p.tables.exec = Jvm.exec) (hby : c.code = code) (hZ : Z.Warmed39 s.vm) {own : String} (hown : s.vm.findClass own = some m.cls) {i : Nat} {v : Int64} (w : (Jvm.Cond.constantLong own i v).before a0 Z = true) (hd : Ins1 code pc (.ldc2_w i) 3 pn) (k : Gd p e below P T (mkF m pn Ls (.long v :: st))) : Gd p e below P T (mkF m pc Ls st) := by
  obtain ⟨hd, rfl⟩ := hd
  exact k.imp fun t q => ⟨X.ldc2Long hx hown (mvT hZ w) (g := mkF m pc Ls st) rfl (hb hby hd) _ q.1, q.2⟩
theorem g_getfield (X : Stand p l e R s m args below meth c T locs cells slots) (hx : p.tables.exec = Jvm.exec) (hby : c.code = code) (hZ : Z.Warmed39 s.vm) {own R0 O n d host : String} {index : Nat} (hown : s.vm.findClass own = some m.cls) (w : (Jvm.Cond.fieldLink own index R0 n d).before a0 Z = true ∨ (Jvm.Cond.fieldLinkNest own index R0 n d host).before a0 Z = true) (via : Via Z R0 O n d) (eT : T.heap = h) {a : Addr} {v : Value} (F : Fld Z h a O n d v) (hd : Ins1 code pc (.getfield index) 3 pn)
    (k : ∀ T', Stand p l e R s m args below meth c T' locs cells slots → T'.heap = h → Gd p e below P T' (mkF m pn Ls (v :: st))) : Gd p e below P T (mkF m pc Ls (.ref a :: st)) := by
  obtain ⟨hd, rfl⟩ := hd
  obtain ⟨T', X', e', stp⟩ := getF X hx hZ hown w via eT F (g := mkF m pc Ls (.ref a :: st)) rfl rfl (hb hby hd)
  exact (k T' X' e').of stp
theorem g_getstatic (X : Stand p l e R s m args below meth c T locs cells slots) (hx : p.tables.exec = Jvm.exec) (hby : c.code = code) (hZ : Z.Warmed39 s.vm) {own R0 O n d host : String} {index : Nat} (hown : s.vm.findClass own = some m.cls) (w : (Jvm.Cond.fieldLink own index R0 n d).before a0 Z = true ∨ (Jvm.Cond.fieldLinkNest own index R0 n d host).before a0 Z = true) (via : Via Z R0 O n d) (eT : T.heap = h) {v : Value} (F : Sta Z h O n d v) (hd : Ins1 code pc (.getstatic index) 3 pn)
    (k : ∀ T', Stand p l e R s m args below meth c T' locs cells slots → T'.heap = h → Gd p e below P T' (mkF m pn Ls (v :: st))) : Gd p e below P T (mkF m pc Ls st) := by
  obtain ⟨hd, rfl⟩ := hd
  obtain ⟨T', X', e', stp⟩ := getS2 X hx hZ hown w via eT F (g := mkF m pc Ls st) rfl (hb hby hd)
  exact (k T' X' e').of stp
theorem g_putfield (X : Stand p l e R s m args below meth c T locs cells slots) (hx : p.tables.exec = Jvm.exec) (hby : c.code = code) (hZ : Z.Warmed39 s.vm) {own R0 O n d host C : String} {index kk : Nat} {ty : FieldType} (hown : s.vm.findClass own = some m.cls) (w : (Jvm.Cond.fieldLink own index R0 n d).before a0 Z = true ∨ (Jvm.Cond.fieldLinkNest own index R0 n d host).before a0 Z = true) (via : Via Z R0 O n d) (eT : T.heap = h) {a : Addr} {v old : Value} (F : Fld Z h a O n d old) (E : Exa Z h a C)
    (L : (Jvm.Cond.lays C O n d).before a0 Z = true ∨ ((Jvm.Cond.laysFinal C O n d).before a0 Z = true ∧ own = O ∧ meth.name = "<init>")) (wi : (Jvm.Cond.instantiable C kk).before a0 Z = true) (hty : parseFieldDescriptor d = some ty) (hn : narrow ty v = v) (hf : fits ty v = true) (hd : Ins1 code pc (.putfield index) 3 pn)
    (k : ∀ T' h', Stand p l e R s m args below meth c T' (locs ++ [⟨a, Jvm.RoadKit.slotOf Z O n d⟩]) cells slots → T'.heap = h' → Wr h h' a (Jvm.RoadKit.slotOf Z O n d) v → Gd p e below P T' (mkF m pn Ls st)) : Gd p e below P T (mkF m pc Ls (v :: .ref a :: st)) := by
  obtain ⟨hd, rfl⟩ := hd
  obtain ⟨T', h', X', e', W, stp⟩ := putF X hx hZ hown w via eT F E L wi hty hn hf (g := mkF m pc Ls (v :: .ref a :: st)) rfl rfl (hb hby hd)
  exact (k T' h' X' e' W).of stp
theorem g_putfieldN (X : Stand p l e R s m args below meth c T locs cells slots) (hx : p.tables.exec = Jvm.exec) (hby : c.code = code) (hZ : Z.Warmed39 s.vm) {own R0 O n d C : String} {index kk : Nat} {ty : FieldType} (hown : s.vm.findClass own = some m.cls) (w : (Jvm.Cond.fieldLink own index R0 n d).before a0 Z = true) (via : Via Z R0 O n d) (eT : T.heap = h) {a : Addr} {v v' old : Value} (F : Fld Z h a O n d old) (E : Exa Z h a C)
    (L : (Jvm.Cond.lays C O n d).before a0 Z = true ∨ ((Jvm.Cond.laysFinal C O n d).before a0 Z = true ∧ own = O ∧ meth.name = "<init>")) (wi : (Jvm.Cond.instantiable C kk).before a0 Z = true) (hty : parseFieldDescriptor d = some ty) (hn : narrow ty v = v') (hf : fits ty v' = true) (hd : Ins1 code pc (.putfield index) 3 pn)
    (k : ∀ T' h', Stand p l e R s m args below meth c T' (locs ++ [⟨a, Jvm.RoadKit.slotOf Z O n d⟩]) cells slots → T'.heap = h' → Wr h h' a (Jvm.RoadKit.slotOf Z O n d) v' → Gd p e below P T' (mkF m pn Ls st)) : Gd p e below P T (mkF m pc Ls (v :: .ref a :: st)) := by
  obtain ⟨hd, rfl⟩ := hd
  obtain ⟨T', h', X', e', W, stp⟩ := putFN X hx hZ hown w via eT F E L wi hty hn hf (g := mkF m pc Ls (v :: .ref a :: st)) rfl rfl (hb hby hd)
  exact (k T' h' X' e' W).of stp
theorem g_new (X : Stand p l e R s m args below meth c T locs cells slots) (hx : p.tables.exec = Jvm.exec) (hby : c.code = code) (hZ : Z.Warmed39 s.vm) {own C : String} {index n : Nat} (hown : s.vm.findClass own = some m.cls) (w : (Jvm.Cond.classLink own index C).before a0 Z = true) (wi : (Jvm.Cond.instantiable C n).before a0 Z = true) (wz : (Jvm.Cond.initialized C).before a0 Z = true) (eT : T.heap = h) (hd : Ins1 code pc (.new index) 3 pn) (hc : cells + 1 ≤ R.cells) (hl : slots + n ≤ R.slots)
    (k : ∀ T' h' b, Stand p l e R s m args below meth c T' locs (cells + 1) (slots + n) → T'.heap = h' → Ext h h' → b = h.size → Exa Z h' b C → (∀ {O nm d : String} {ty : FieldType}, Laid Z a0 C O nm d → parseFieldDescriptor d = some ty → Fld Z h' b O nm d (defaultValue ty)) → Gd p e below P T' (mkF m pn Ls (.ref b :: st))) : Gd p e below P T (mkF m pc Ls st) := by
  obtain ⟨hd, rfl⟩ := hd
  obtain ⟨T', h', X', e', E, A, D, -, stp⟩ := newO X hx hZ hown w wi wz eT (g := mkF m pc Ls st) rfl (hb hby hd) hc hl
  exact (k T' h' _ X' e' E rfl A D).of stp
theorem g_newarray (X : Stand p l e R s m args below meth c T locs cells slots) (hx : p.tables.exec = Jvm.exec) (hby : c.code = code) (hZ : Z.Warmed39 s.vm) {aty : ArrayType} {n : Int32} {ty : FieldType} (hty : newarray.typeOf aty = ty) (w : (Jvm.Cond.arrayClass ty).before a0 Z = true) (eT : T.heap = h) (hd : Ins1 code pc (.newarray aty) 2 pn) (hn : ¬ n < 0) (cap : Nat) (hcap : n.toNatClampNeg ≤ cap) (hb' : cap * 8 ≤ 536870912) (hc : cells + 1 ≤ R.cells) (hl : slots + cap ≤ R.slots)
    (k : ∀ T' h' b cA, Stand p l e R s m args below meth c T' locs (cells + 1) (slots + cap) → T'.heap = h' → Ext h h' → b = h.size → Arv Z h' b cA ty n [] (defaultValue ty) → Gd p e below P T' (mkF m pn Ls (.ref b :: st))) : Gd p e below P T (mkF m pc Ls (.int n :: st)) := by
  obtain ⟨hd, rfl⟩ := hd
  subst hty
  obtain ⟨T', h', cA, X', e', E, A, stp⟩ := newP X hx hZ w eT (g := mkF m pc Ls (.int n :: st)) rfl (hb hby hd) rfl hn hcap hb' hc hl
  exact (k T' h' _ cA X' e' E rfl (Arv.new A hn)).of stp
theorem g_iastore (X : Stand p l e R s m args below meth c T locs cells slots) (hx : p.tables.exec = Jvm.exec) (hby : c.code = code) (hZ : Z.Warmed39 s.vm) (eT : T.heap = h) {a : Addr} {kc : ClassId} {z j : Int32} {vs : List Value} {dv : Value} {x : Int32} (A : Arv Z h a kc .int z vs dv) {i : Nat} (hj0 : ¬ j < 0) (hj : j < z) (hji : j.toNatClampNeg = i) (hil : i < vs.length) (hd : Ins1 code pc .iastore 1 pn)
    (k : ∀ T' h', Stand p l e R s m args below meth c T' (locs ++ [⟨a, i⟩]) cells slots → T'.heap = h' → Wr h h' a i (.int x) → Arv Z h' a kc .int z (vs.set i (.int x)) dv → Gd p e below P T' (mkF m pn Ls st)) : Gd p e below P T (mkF m pc Ls (.int x :: .int j :: .ref a :: st)) := by
  obtain ⟨hd, rfl⟩ := hd
  obtain ⟨cl, Ar, q1, S, N, H, G⟩ := A
  obtain ⟨T', h', X', e', W, stp⟩ := stI X hx hZ eT Ar (j := j) (inb_of S ⟨hj0, hj⟩) (g := mkF m pc Ls (.int x :: .int j :: .ref a :: st)) rfl rfl (hb hby hd)
  have V := Arv.set Ar q1 S N H G rfl W i hji hil
  rw [hji] at X' W
  exact (k T' h' X' e' W V).of stp
theorem g_lastore (X : Stand p l e R s m args below meth c T locs cells slots) (hx : p.tables.exec = Jvm.exec) (hby : c.code = code) (hZ : Z.Warmed39 s.vm) (eT : T.heap = h) {a : Addr} {kc : ClassId} {z j : Int32} {vs : List Value} {dv : Value} {x : Int64} (A : Arv Z h a kc .long z vs dv) {i : Nat} (hj0 : ¬ j < 0) (hj : j < z) (hji : j.toNatClampNeg = i) (hil : i < vs.length) (hd : Ins1 code pc .lastore 1 pn)
    (k : ∀ T' h', Stand p l e R s m args below meth c T' (locs ++ [⟨a, i⟩]) cells slots → T'.heap = h' → Wr h h' a i (.long x) → Arv Z h' a kc .long z (vs.set i (.long x)) dv → Gd p e below P T' (mkF m pn Ls st)) : Gd p e below P T (mkF m pc Ls (.long x :: .int j :: .ref a :: st)) := by
  obtain ⟨hd, rfl⟩ := hd
  obtain ⟨cl, Ar, q1, S, N, H, G⟩ := A
  obtain ⟨T', h', X', e', W, stp⟩ := stJ X hx hZ eT Ar (j := j) (inb_of S ⟨hj0, hj⟩) (g := mkF m pc Ls (.long x :: .int j :: .ref a :: st)) rfl rfl (hb hby hd)
  have V := Arv.set Ar q1 S N H G rfl W i hji hil
  rw [hji] at X' W
  exact (k T' h' X' e' W V).of stp
theorem g_castore (X : Stand p l e R s m args below meth c T locs cells slots) (hx : p.tables.exec = Jvm.exec) (hby : c.code = code) (hZ : Z.Warmed39 s.vm) (eT : T.heap = h) {a : Addr} {kc : ClassId} {z j : Int32} {vs : List Value} {dv : Value} {x : Int32} (A : Arv Z h a kc .char z vs dv) {i : Nat} (hj0 : ¬ j < 0) (hj : j < z) (hji : j.toNatClampNeg = i) (hil : i < vs.length) (hd : Ins1 code pc .castore 1 pn)
    (k : ∀ T' h', Stand p l e R s m args below meth c T' (locs ++ [⟨a, i⟩]) cells slots → T'.heap = h' → Wr h h' a i (.int (nar .char x)) → Arv Z h' a kc .char z (vs.set i (.int (nar .char x))) dv → Gd p e below P T' (mkF m pn Ls st)) : Gd p e below P T (mkF m pc Ls (.int x :: .int j :: .ref a :: st)) := by
  obtain ⟨hd, rfl⟩ := hd
  obtain ⟨cl, Ar, q1, S, N, H, G⟩ := A
  obtain ⟨T', h', X', e', W, stp⟩ := stC X hx hZ eT Ar (j := j) (inb_of S ⟨hj0, hj⟩) (g := mkF m pc Ls (.int x :: .int j :: .ref a :: st)) rfl rfl (hb hby hd)
  have V := Arv.set Ar q1 S N H G (fits_nar_char x) W i hji hil
  rw [hji] at X' W
  exact (k T' h' X' e' W V).of stp
theorem g_sastore (X : Stand p l e R s m args below meth c T locs cells slots) (hx : p.tables.exec = Jvm.exec) (hby : c.code = code) (hZ : Z.Warmed39 s.vm) (eT : T.heap = h) {a : Addr} {kc : ClassId} {z j : Int32} {vs : List Value} {dv : Value} {x : Int32} (A : Arv Z h a kc .short z vs dv) {i : Nat} (hj0 : ¬ j < 0) (hj : j < z) (hji : j.toNatClampNeg = i) (hil : i < vs.length) (hd : Ins1 code pc .sastore 1 pn)
    (k : ∀ T' h', Stand p l e R s m args below meth c T' (locs ++ [⟨a, i⟩]) cells slots → T'.heap = h' → Wr h h' a i (.int (nar .short x)) → Arv Z h' a kc .short z (vs.set i (.int (nar .short x))) dv → Gd p e below P T' (mkF m pn Ls st)) : Gd p e below P T (mkF m pc Ls (.int x :: .int j :: .ref a :: st)) := by
  obtain ⟨hd, rfl⟩ := hd
  obtain ⟨cl, Ar, q1, S, N, H, G⟩ := A
  obtain ⟨T', h', X', e', W, stp⟩ := stS X hx hZ eT Ar (j := j) (inb_of S ⟨hj0, hj⟩) (g := mkF m pc Ls (.int x :: .int j :: .ref a :: st)) rfl rfl (hb hby hd)
  have V := Arv.set Ar q1 S N H G (fits_nar_short x) W i hji hil
  rw [hji] at X' W
  exact (k T' h' X' e' W V).of stp
theorem g_bastore (X : Stand p l e R s m args below meth c T locs cells slots) (hx : p.tables.exec = Jvm.exec) (hby : c.code = code) (hZ : Z.Warmed39 s.vm) (eT : T.heap = h) {a : Addr} {kc : ClassId} {z j : Int32} {vs : List Value} {dv : Value} {x : Int32} (A : Arv Z h a kc .byte z vs dv) {i : Nat} (hj0 : ¬ j < 0) (hj : j < z) (hji : j.toNatClampNeg = i) (hil : i < vs.length) (hd : Ins1 code pc .bastore 1 pn)
    (k : ∀ T' h', Stand p l e R s m args below meth c T' (locs ++ [⟨a, i⟩]) cells slots → T'.heap = h' → Wr h h' a i (.int (nar .byte x)) → Arv Z h' a kc .byte z (vs.set i (.int (nar .byte x))) dv → Gd p e below P T' (mkF m pn Ls st)) : Gd p e below P T (mkF m pc Ls (.int x :: .int j :: .ref a :: st)) := by
  obtain ⟨hd, rfl⟩ := hd
  obtain ⟨cl, Ar, q1, S, N, H, G⟩ := A
  obtain ⟨T', h', X', e', W, stp⟩ := stB X hx hZ eT Ar (j := j) (inb_of S ⟨hj0, hj⟩) (g := mkF m pc Ls (.int x :: .int j :: .ref a :: st)) rfl rfl (hb hby hd)
  have V := Arv.set Ar q1 S N H G (fits_nar_byte x) W i hji hil
  rw [hji] at X' W
  exact (k T' h' X' e' W V).of stp
theorem g_iaload (X : Stand p l e R s m args below meth c T locs cells slots) (hx : p.tables.exec = Jvm.exec) (hby : c.code = code) (hZ : Z.Warmed39 s.vm) (eT : T.heap = h) {a : Addr} {kc : ClassId} {z j : Int32} {vs : List Value} {dv v : Value} (A : Arv Z h a kc .int z vs dv) {i : Nat} (hj0 : ¬ j < 0) (hj : j < z) (hji : j.toNatClampNeg = i) (hv : vs.getD i dv = v) (hd : Ins1 code pc .iaload 1 pn)
    (k : Gd p e below P T (mkF m pn Ls (v :: st))) : Gd p e below P T (mkF m pc Ls (.int j :: .ref a :: st)) := by
  obtain ⟨hd, rfl⟩ := hd
  obtain ⟨cl, Ar, q1, S, N, H, G⟩ := A
  have hin := inb_of S ⟨hj0, hj⟩
  exact k.imp fun t q => ⟨X.iaload hx (j := j) (v := v) (by rw [eT]; exact Ar.1) (State.isArrayOf_alike hZ.alike Ar.2.1) Ar.2.2 hin (H.at hin (by rw [hji]; exact hv)) (g := mkF m pc Ls (.int j :: .ref a :: st)) rfl rfl (hb hby hd) _ q.1, q.2⟩
theorem g_laload (X : Stand p l e R s m args below meth c T locs cells slots) (hx : p.tables.exec = Jvm.exec) (hby : c.code = code) (hZ : Z.Warmed39 s.vm) (eT : T.heap = h) {a : Addr} {kc : ClassId} {z j : Int32} {vs : List Value} {dv v : Value} (A : Arv Z h a kc .long z vs dv) {i : Nat} (hj0 : ¬ j < 0) (hj : j < z) (hji : j.toNatClampNeg = i) (hv : vs.getD i dv = v) (hd : Ins1 code pc .laload 1 pn)
    (k : Gd p e below P T (mkF m pn Ls (v :: st))) : Gd p e below P T (mkF m pc Ls (.int j :: .ref a :: st)) := by
  obtain ⟨hd, rfl⟩ := hd
  obtain ⟨cl, Ar, q1, S, N, H, G⟩ := A
  have hin := inb_of S ⟨hj0, hj⟩
  exact k.imp fun t q => ⟨X.laload hx (j := j) (v := v) (by rw [eT]; exact Ar.1) (State.isArrayOf_alike hZ.alike Ar.2.1) Ar.2.2 hin (H.at hin (by rw [hji]; exact hv)) (g := mkF m pc Ls (.int j :: .ref a :: st)) rfl rfl (hb hby hd) _ q.1, q.2⟩
theorem g_caload (X : Stand p l e R s m args below meth c T locs cells slots) (hx : p.tables.exec = Jvm.exec) (hby : c.code = code) (hZ : Z.Warmed39 s.vm) (eT : T.heap = h) {a : Addr} {kc : ClassId} {z j : Int32} {vs : List Value} {dv v : Value} (A : Arv Z h a kc .char z vs dv) {i : Nat} (hj0 : ¬ j < 0) (hj : j < z) (hji : j.toNatClampNeg = i) (hv : vs.getD i dv = v) (hd : Ins1 code pc .caload 1 pn)
    (k : Gd p e below P T (mkF m pn Ls (v :: st))) : Gd p e below P T (mkF m pc Ls (.int j :: .ref a :: st)) := by
  obtain ⟨hd, rfl⟩ := hd
  obtain ⟨cl, Ar, q1, S, N, H, G⟩ := A
  have hin := inb_of S ⟨hj0, hj⟩
  exact k.imp fun t q => ⟨X.caload hx (j := j) (v := v) (by rw [eT]; exact Ar.1) (State.isArrayOf_alike hZ.alike Ar.2.1) Ar.2.2 hin (H.at hin (by rw [hji]; exact hv)) (g := mkF m pc Ls (.int j :: .ref a :: st)) rfl rfl (hb hby hd) _ q.1, q.2⟩
theorem g_saload (X : Stand p l e R s m args below meth c T locs cells slots) (hx : p.tables.exec = Jvm.exec) (hby : c.code = code) (hZ : Z.Warmed39 s.vm) (eT : T.heap = h) {a : Addr} {kc : ClassId} {z j : Int32} {vs : List Value} {dv v : Value} (A : Arv Z h a kc .short z vs dv) {i : Nat} (hj0 : ¬ j < 0) (hj : j < z) (hji : j.toNatClampNeg = i) (hv : vs.getD i dv = v) (hd : Ins1 code pc .saload 1 pn)
    (k : Gd p e below P T (mkF m pn Ls (v :: st))) : Gd p e below P T (mkF m pc Ls (.int j :: .ref a :: st)) := by
  obtain ⟨hd, rfl⟩ := hd
  obtain ⟨cl, Ar, q1, S, N, H, G⟩ := A
  have hin := inb_of S ⟨hj0, hj⟩
  exact k.imp fun t q => ⟨X.saload hx (j := j) (v := v) (by rw [eT]; exact Ar.1) (State.isArrayOf_alike hZ.alike Ar.2.1) Ar.2.2 hin (H.at hin (by rw [hji]; exact hv)) (g := mkF m pc Ls (.int j :: .ref a :: st)) rfl rfl (hb hby hd) _ q.1, q.2⟩
theorem g_baload (X : Stand p l e R s m args below meth c T locs cells slots) (hx : p.tables.exec = Jvm.exec) (hby : c.code = code) (hZ : Z.Warmed39 s.vm) (eT : T.heap = h) {a : Addr} {kc : ClassId} {z j : Int32} {vs : List Value} {dv v : Value} (A : Arv Z h a kc .byte z vs dv) {i : Nat} (hj0 : ¬ j < 0) (hj : j < z) (hji : j.toNatClampNeg = i) (hv : vs.getD i dv = v) (hd : Ins1 code pc .baload 1 pn)
    (k : Gd p e below P T (mkF m pn Ls (v :: st))) : Gd p e below P T (mkF m pc Ls (.int j :: .ref a :: st)) := by
  obtain ⟨hd, rfl⟩ := hd
  obtain ⟨cl, Ar, q1, S, N, H, G⟩ := A
  have hin := inb_of S ⟨hj0, hj⟩
  exact k.imp fun t q => ⟨X.baloadBytes hx (j := j) (v := v) (by rw [eT]; exact Ar.1) (State.isArrayOf_alike hZ.alike Ar.2.1) Ar.2.2 hin (H.at hin (by rw [hji]; exact hv)) (g := mkF m pc Ls (.int j :: .ref a :: st)) rfl rfl (hb hby hd) _ q.1, q.2⟩
theorem g_arraylength (X : Stand p l e R s m args below meth c T locs cells slots) (hx : p.tables.exec = Jvm.exec) (hby : c.code = code) (hZ : Z.Warmed39 s.vm) (eT : T.heap = h) {a : Addr} {kc : ClassId} {ty : FieldType} {z : Int32} {vs : List Value} {dv : Value} (A : Arv Z h a kc ty z vs dv) (hd : Ins1 code pc .arraylength 1 pn) (k : Gd p e below P T (mkF m pn Ls (.int z :: st))) : Gd p e below P T (mkF m pc Ls (.ref a :: st)) := by
  obtain ⟨hd, rfl⟩ := hd
  obtain ⟨cl, Ar, q1, S, N, H, G⟩ := A
  rw [← len_of S N] at k
  exact k.imp fun t q => ⟨X.arraylength hx (by rw [eT]; exact Ar.1) (State.isArrayOf_alike hZ.alike Ar.2.1) (g := mkF m pc Ls (.ref a :: st)) rfl rfl (hb hby hd) _ q.1, q.2⟩
theorem g_objInit (X : Stand p l e R s m args below meth c T locs cells slots) (hx : p.tables.exec = Jvm.exec) (hby : c.code = code) (hZ : Z.Warmed39 s.vm) {own : String} {idx : Nat} (hown : s.vm.findClass own = some m.cls) (w1 : (Jvm.Cond.methodLink own idx Lib.objectInit).before a0 Z = true) (w2 : (Jvm.Cond.instanceMethod Lib.objectInit).before a0 Z = true) (w3 : (Jvm.Cond.code Lib.objectInit ⟨#[0xb1]⟩ 1 none).before a0 Z = true) (eT : T.heap = h) (hsize : Ls.size = c.maxLocals) {a : Addr} (hd : Ins1 code pc (.invokespecial idx) 3 pn)
    (W : Nat) (hW : (st.map fun v => v.category).sum = W) (hf : 1 ≤ R.frames) (hl : W + 12 ≤ R.locals) (k : ∀ T', Stand p l e R s m args below meth c T' locs cells slots → T'.heap = h → Gd p e below P T' (mkF m pn Ls st)) : Gd p e below P T (mkF m pc Ls (.ref a :: st)) := by
  obtain ⟨hd, rfl⟩ := hd
  obtain ⟨T', X', e', stp⟩ := initO X hx hZ hown w1 w2 w3 eT (g := mkF m pc Ls (.ref a :: st)) rfl hsize rfl (hb hby hd) hf (W := W) (by show 2 * 0 + _ ≤ _; rw [hW]; omega) hl
  exact (k T' X' e').of stp
theorem g_callS0 (X : Stand p l e R s m args below meth c T locs cells slots) (hx : p.tables.exec = Jvm.exec) (hby : c.code = code) (hZ : Z.Warmed39 s.vm) {y : MethodName} {bytes : ByteArray} {maxL : Nat} {ret : Option FieldType} {rm : Room} {argsL rest : List Value} {Q : Option Value → Heap → List Loc → Prop} {own : String} {index : Nat} (hown : s.vm.findClass own = some m.cls) (w1 : (Jvm.Cond.methodLink own index y).before a0 Z = true) (w2 : (Jvm.Cond.static y).before a0 Z = true) (w3 : (Jvm.Cond.initialized y.cls).before a0 Z = true) (w4 : (Jvm.Cond.code y bytes maxL ret).before a0 Z = true) (hy : y.cls ≠ "java/lang/invoke/MethodHandle" ∧ y.cls ≠ "java/lang/invoke/VarHandle")
    (M : Met1 l y bytes maxL ret [] rm argsL.toArray Z h Q) (eT : T.heap = h) (hsize : Ls.size = c.maxLocals) {ps : List FieldType} {r : Option FieldType} (hpd : parseMethodDescriptor y.desc = some ⟨ps, r⟩) (hlen : argsL.length = ps.length) (hst : st = argsL.reverse ++ rest) (hd : Ins1 code pc (.invokestatic index) 3 pn) (hf : rm.frames + 1 ≤ R.frames) (W : Nat) (hW : (rest.map fun v => v.category).sum = W) (hl : W + (maxL + 11) + rm.locals ≤ R.locals) (hcl : cells + rm.cells ≤ R.cells) (hsl : slots + rm.slots ≤ R.slots)
    (k : ∀ T' v L, Stand p l e R s m args below meth c T' (locs ++ L) (cells + rm.cells) (slots + rm.slots) → Q v T'.heap L → Gd p e below P T' (mkF m pn Ls (v.toList ++ rest))) : Gd p e below P T (mkF m pc Ls st) := by
  obtain ⟨hd, rfl⟩ := hd
  obtain ⟨v, _, ⟨T', L', k', n'⟩, -, X', ⟨Lc, hQ, l1, y1, z1⟩, stp⟩ := Jvm.LawKit.callS X hx (y := y) hown (mvT hZ w1) (mvT hZ w2) (mvT hZ w3) (mvT hZ w4) hy (backOf (W := W) M hZ w4 w3 hf hl) (g := mkF m pc Ls st) rfl hsize (argsL := argsL) (rest := rest) (lenOf hpd hlen) hst (by show 2 * 0 + _ ≤ _; rw [hW]; omega) (hb hby hd) (fun _ _ => ⟨rfl, eT, hcl, hsl⟩)
  dsimp only [Pt.U, Pt.locs, Pt.cells, Pt.slots] at X' l1 y1 z1 stp hQ
  subst l1 y1 z1
  exact (k T' v Lc X' hQ).of stp
theorem g_callInit0 (X : Stand p l e R s m args below meth c T locs cells slots) (hx : p.tables.exec = Jvm.exec) (hby : c.code = code) (hZ : Z.Warmed39 s.vm) {y : MethodName} {bytes : ByteArray} {maxL : Nat} {rm : Room} {argsL rest : List Value} {Q : Option Value → Heap → List Loc → Prop} {own : String} {index : Nat} (hy1 : y.name = "<init>") (hown : s.vm.findClass own = some m.cls) (w1 : (Jvm.Cond.methodLink own index y).before a0 Z = true) (w2 : (Jvm.Cond.instanceMethod y).before a0 Z = true) (w3 : (Jvm.Cond.initialized y.cls).before a0 Z = true) (w4 : (Jvm.Cond.code y bytes maxL none).before a0 Z = true) (hy : y.cls ≠ "java/lang/invoke/MethodHandle" ∧ y.cls ≠ "java/lang/invoke/VarHandle")
    {a : Addr} (M : Met1 l y bytes maxL none [] rm (.ref a :: argsL).toArray Z h Q) (eT : T.heap = h) (hsize : Ls.size = c.maxLocals) {ps : List FieldType} {r : Option FieldType} (hpd : parseMethodDescriptor y.desc = some ⟨ps, r⟩) (hlen : argsL.length = ps.length) (hst : st = argsL.reverse ++ .ref a :: rest) (hd : Ins1 code pc (.invokespecial index) 3 pn) (hf : rm.frames + 1 ≤ R.frames) (W : Nat) (hW : (rest.map fun v => v.category).sum = W) (hl : W + (maxL + 11) + rm.locals ≤ R.locals) (hcl : cells + rm.cells ≤ R.cells) (hsl : slots + rm.slots ≤ R.slots)
    (k : ∀ T' v L, Stand p l e R s m args below meth c T' (locs ++ L) (cells + rm.cells) (slots + rm.slots) → Q v T'.heap L → Gd p e below P T' (mkF m pn Ls (v.toList ++ rest))) : Gd p e below P T (mkF m pc Ls st) := by
  obtain ⟨hd, rfl⟩ := hd
  obtain ⟨v, _, ⟨T', L', k', n'⟩, -, X', ⟨Lc, hQ, l1, y1, z1⟩, stp⟩ := X.specialBack hx (y := y) hy1 hown (mvT hZ w1) (mvT hZ w2) (mvT hZ w4) hy (backOf (W := W) M hZ w4 w3 hf hl) (g := mkF m pc Ls st) rfl hsize (Steps.refl _) (a := a) (argsL := argsL) (rest := rest) (lenOf hpd hlen) hst (by show 2 * 0 + _ ≤ _; rw [hW]; omega) (hb hby hd) (fun _ _ => ⟨rfl, eT, hcl, hsl⟩)
  dsimp only [Pt.U, Pt.locs, Pt.cells, Pt.slots] at X' l1 y1 z1 stp hQ
  subst l1 y1 z1
  exact (k T' v Lc X' hQ).of fun t q => stp.trans q
theorem g_callV0 (X : Stand p l e R s m args below meth c T locs cells slots) (hx : p.tables.exec = Jvm.exec) (hby : c.code = code) (hZ : Z.Warmed39 s.vm) {y : MethodName} {bytes : ByteArray} {maxL : Nat} {ret : Option FieldType} {rm : Room} {argsL rest : List Value} {Q : Option Value → Heap → List Loc → Prop} {own C : String} {index : Nat} {y0 : MethodName} (hown : s.vm.findClass own = some m.cls) (w1 : (Jvm.Cond.methodLink own index y0).before a0 Z = true) (w2 : (Jvm.Cond.declares y0).before a0 Z = true) (hnf : NotFace s y0) (w5 : (Jvm.Cond.selects C y0 y).before a0 Z = true) (w6 : (Jvm.Cond.instanceMethod y).before a0 Z = true) (w3 : (Jvm.Cond.initialized y.cls).before a0 Z = true) (w4 : (Jvm.Cond.code y bytes maxL ret).before a0 Z = true) (hy : y0.cls ≠ "java/lang/invoke/MethodHandle" ∧ y0.cls ≠ "java/lang/invoke/VarHandle")
    {a : Addr} (E : Exa Z h a C) (M : Met1 l y bytes maxL ret [] rm (.ref a :: argsL).toArray Z h Q) (eT : T.heap = h) (hsize : Ls.size = c.maxLocals) {ps : List FieldType} {r : Option FieldType} (hpd : parseMethodDescriptor y0.desc = some ⟨ps, r⟩) (hlen : argsL.length = ps.length) (hst : st = argsL.reverse ++ .ref a :: rest) (hd : Ins1 code pc (.invokevirtual index) 3 pn) (hf : rm.frames + 1 ≤ R.frames) (W : Nat) (hW : (rest.map fun v => v.category).sum = W) (hl : W + (maxL + 11) + rm.locals ≤ R.locals) (hcl : cells + rm.cells ≤ R.cells) (hsl : slots + rm.slots ≤ R.slots)
    (k : ∀ T' v L, Stand p l e R s m args below meth c T' (locs ++ L) (cells + rm.cells) (slots + rm.slots) → Q v T'.heap L → Gd p e below P T' (mkF m pn Ls (v.toList ++ rest))) : Gd p e below P T (mkF m pc Ls st) := by
  obtain ⟨hd, rfl⟩ := hd
  obtain ⟨cq, kq, qa, qb, qc⟩ := isOf hZ eT E
  obtain ⟨v, _, ⟨T', L', k', n'⟩, -, X', ⟨Lc, hQ, l1, y1, z1⟩, stp⟩ := X.virtualBack hx (y := y0) (z := y) hown (mvT hZ w1) (mvT hZ w2) hnf (mvT hZ w5) (mvT hZ w6) hy (backOf (W := W) M hZ w4 w3 hf hl) qa qc (g := mkF m pc Ls st) rfl hsize (Steps.refl _) (argsL := argsL) (rest := rest) (lenOf hpd hlen) hst (by show 2 * 0 + _ ≤ _; rw [hW]; omega) (hb hby hd) (fun _ _ => ⟨rfl, eT, hcl, hsl⟩)
  dsimp only [Pt.U, Pt.locs, Pt.cells, Pt.slots] at X' l1 y1 z1 stp hQ
  subst l1 y1 z1
  exact (k T' v Lc X' hQ).of fun t q => stp.trans q
theorem g_ireturn (X : Stand p l e R s m args below meth c T locs cells slots) (hx : p.tables.exec = Jvm.exec) (hby : c.code = code) (hret : meth.sig.returnType = some .int) (hlk : meth.locks = false) {z : Int32} {Q : Option Value → Heap → List Loc → Prop} {C S : Nat} (hd : Ins1 code pc .ireturn 1 pn) (hc : cells ≤ C) (hs : slots ≤ S) (hQ : Q (some (.int z)) T.heap locs) : Gd p e below (Fin1 s below C S Q) T (mkF m pc Ls (.int z :: st)) := by
  obtain ⟨fs, hr, hrun, hended, hW, hsame⟩ := X.leave (v := some (.int z)) (fun q => by rw [hret] at q; cases q) hlk
  exact ⟨_, retOut X hx (t := .int) hret rfl (Or.inl ⟨rfl, Or.inl rfl, z, rfl⟩) (hb hby hd.1) hr, _, hrun, hended, _, _, rfl, hQ, ⟨_, rfl⟩, hW, hsame.mono hc hs⟩
theorem g_ireturnN (X : Stand p l e R s m args below meth c T locs cells slots) (hx : p.tables.exec = Jvm.exec) (hby : c.code = code) {ty : FieldType} (hret : meth.sig.returnType = some ty) (hty : ty = .boolean ∨ ty = .byte ∨ ty = .char ∨ ty = .short) (hlk : meth.locks = false) {z : Int32} {Q : Option Value → Heap → List Loc → Prop} {C S : Nat} (hd : Ins1 code pc .ireturn 1 pn) (hc : cells ≤ C) (hs : slots ≤ S) (hQ : Q (some (.int (nar ty z))) T.heap locs) : Gd p e below (Fin1 s below C S Q) T (mkF m pc Ls (.int z :: st)) := by
  obtain ⟨fs, hr, hrun, hended, hW, hsame⟩ := X.leave (v := some (.int (nar ty z))) (fun q => by rw [hret] at q; cases q) hlk
  exact ⟨_, retN X hx hret hty (hb hby hd.1) hr, _, hrun, hended, _, _, rfl, hQ, ⟨_, rfl⟩, hW, hsame.mono hc hs⟩
theorem g_lreturn (X : Stand p l e R s m args below meth c T locs cells slots) (hx : p.tables.exec = Jvm.exec) (hby : c.code = code) (hret : meth.sig.returnType = some .long) (hlk : meth.locks = false) {z : Int64} {Q : Option Value → Heap → List Loc → Prop} {C S : Nat} (hd : Ins1 code pc .lreturn 1 pn) (hc : cells ≤ C) (hs : slots ≤ S) (hQ : Q (some (.long z)) T.heap locs) : Gd p e below (Fin1 s below C S Q) T (mkF m pc Ls (.long z :: st)) := by
  obtain ⟨fs, hr, hrun, hended, hW, hsame⟩ := X.leave (v := some (.long z)) (fun q => by rw [hret] at q; cases q) hlk
  exact ⟨_, retOut X hx (t := .long) hret rfl (Or.inr (Or.inl ⟨rfl, rfl, z, rfl⟩)) (hb hby hd.1) hr, _, hrun, hended, _, _, rfl, hQ, ⟨_, rfl⟩, hW, hsame.mono hc hs⟩
theorem g_dreturn (X : Stand p l e R s m args below meth c T locs cells slots) (hx : p.tables.exec = Jvm.exec) (hby : c.code = code) (hret : meth.sig.returnType = some .double) (hlk : meth.locks = false) {z : UInt64} {Q : Option Value → Heap → List Loc → Prop} {C S : Nat} (hd : Ins1 code pc .dreturn 1 pn) (hc : cells ≤ C) (hs : slots ≤ S) (hQ : Q (some (.double z)) T.heap locs) : Gd p e below (Fin1 s below C S Q) T (mkF m pc Ls (.double z :: st)) := by
  obtain ⟨fs, hr, hrun, hended, hW, hsame⟩ := X.leave (v := some (.double z)) (fun q => by rw [hret] at q; cases q) hlk
  exact ⟨_, retOut X hx (t := .double) hret rfl (Or.inr (Or.inr (Or.inl ⟨rfl, rfl, z, rfl⟩))) (hb hby hd.1) hr, _, hrun, hended, _, _, rfl, hQ, ⟨_, rfl⟩, hW, hsame.mono hc hs⟩
theorem g_areturn (X : Stand p l e R s m args below meth c T locs cells slots) (hx : p.tables.exec = Jvm.exec) (hby : c.code = code) {ty : FieldType} (hret : meth.sig.returnType = some ty) (hty : ty.isReference = true) (hn : ∀ v, narrow ty v = v) (hlk : meth.locks = false) {z : Value} (hz : z.isRef = true) {Q : Option Value → Heap → List Loc → Prop} {C S : Nat} (hd : Ins1 code pc .areturn 1 pn) (hc : cells ≤ C) (hs : slots ≤ S) (hQ : Q (some z) T.heap locs) : Gd p e below (Fin1 s below C S Q) T (mkF m pc Ls (z :: st)) := by
  obtain ⟨fs, hr, hrun, hended, hW, hsame⟩ := X.leave (v := some z) (fun q => by rw [hret] at q; cases q) hlk
  exact ⟨_, retOut X hx hret (hn z) (Or.inr (Or.inr (Or.inr (Or.inr ⟨rfl, hty, hz⟩)))) (hb hby hd.1) hr, _, hrun, hended, _, _, rfl, hQ, ⟨_, rfl⟩, hW, hsame.mono hc hs⟩
theorem g_return (X : Stand p l e R s m args below meth c T locs cells slots) (hx : p.tables.exec = Jvm.exec) (hby : c.code = code) (hret : meth.sig.returnType = none) (hlk : meth.locks = false) {Q : Option Value → Heap → List Loc → Prop} {C S : Nat} (hd : Ins1 code pc .return_ 1 pn) (hc : cells ≤ C) (hs : slots ≤ S) (hQ : Q none T.heap locs) : Gd p e below (Fin1 s below C S Q) T (mkF m pc Ls []) := by
  obtain ⟨fs, hr, hrun, hended, hW, hsame⟩ := X.leave (v := none) (fun _ => rfl) hlk
  exact ⟨_, X.returnOut hx hret (hb hby hd.1) hr, _, hrun, hended, _, _, rfl, hQ, ⟨_, rfl⟩, hW, hsame.mono hc hs⟩
theorem own_stat {C n d K : String} (hx : (Jvm.Cond.exactly (.static C n d) K).value args Z none Z [] = some true) (w1 : (Jvm.Cond.initialized C).before args Z = true) (w2 : (Jvm.Cond.laysStatic C n d).before args Z = true) : ∃ a, (Term.static C n d).eval args Z none [] Z = some (.ref a) ∧ Sta Z Z.heap C n d (.ref a) ∧ Exa Z Z.heap a K := by
  obtain ⟨a, c', cell, k, e1, -⟩ := Cond.exactly_spec (Cond.before_iff.mpr hx)
  exact ⟨a, e1, Sta.start e1 (Or.inr ⟨w1, w2⟩), Exa.start e1 hx⟩
theorem own_sfld {t : Term} {a : Addr} {C f dd : String} {n : Int32} (ev : t.eval args Z none [] Z = some (.ref a)) (q : (Jvm.Cond.eq (.field t C f dd) (.int n)).value args Z none Z [] = some true) : Fld Z Z.heap a C f dd (.int n) := Fld.start (by rw [← fld_at (C := C) (n := f) (dd := dd) ev]; exact eqv_i (Term.int_eval n) q)
end K
end Jvm.OwnG
namespace Jvm.OwnG
open Sem ClassFile Op Lib Jvm.Stand Jvm.Free Jvm.LawKit Jvm.RoadKit
section K2
variable {p : Program} {l : Launch} {e : Env} {R : Room} {s : State} {m : MethodId} {args : Array Value} {below : List Frame} {meth : Method} {c : Code} {T : State} {locs : List Loc} {cells slots : Nat} {Z : State} {a0 : Array Value} {h : Heap} {P : State → Prop} {code : ByteArray} {pc pn pt : Nat} {Ls : Array Slot} {st : List Value}
theorem own_decl {y : MethodName} {bytes : ByteArray} {maxL : Nat} {ret : Option FieldType} (w2 : (Jvm.Cond.instanceMethod y).before a0 Z = true) (w4 : (Jvm.Cond.code y bytes maxL ret).before a0 Z = true) : (Jvm.Cond.declares y).before a0 Z = true := by
  obtain ⟨mk, methM, hnamed, hmethM, hst, hab⟩ := Cond.instanceMethod_spec w2
  obtain ⟨m2, cM, q1, -, -, -, -, -, -, hsig⟩ := Cond.code_spec hnamed w4
  cases hmethM.symm.trans q1
  simp [Cond.before, Cond.holds, Cond.value, hnamed, hmethM, hst, hsig]
theorem own_same {y : MethodName} {S : String} (w2 : (Jvm.Cond.instanceMethod y).before a0 Z = true) (w3 : (Jvm.Cond.superclass y.cls S).before a0 Z = true) (hy : y.cls ≠ "java/lang/invoke/MethodHandle" ∧ y.cls ≠ "java/lang/invoke/VarHandle") : (Jvm.Cond.sameMethod y.cls y.cls y.name y.desc).before a0 Z = true := by
  obtain ⟨mk, methM, hnamed, hmethM, hst, hab⟩ := Cond.instanceMethod_spec w2
  have hc := findClass_of_methodNamed hnamed
  have hf := State.methodFound?_of_named hnamed hy
  obtain ⟨k, hk, -⟩ := Vm.findClass_spec hc
  have hn : Z.methodNamed? ⟨y.cls, y.name, y.desc⟩ = some mk := hnamed
  simp only [Cond.before, Cond.holds, Cond.value, hc] at w3
  cases hs : Z.vm.findClass S with
  | none => simp [hs] at w3
  | some cp =>
    cases hp : Z.vm.classes[cp]? with
    | none => simp [hs, hp, hk] at w3
    | some kp =>
      simp [hs, hp, hk] at w3
      simp [Cond.before, Cond.holds, Cond.value, hc, hf, hn, hk, w3.2]
theorem g_callUp0 (X : Stand p l e R s m args below meth c T locs cells slots) (hx : p.tables.exec = Jvm.exec) (hby : c.code = code) (hZ : Z.Warmed39 s.vm) {y : MethodName} {bytes : ByteArray} {maxL : Nat} {ret : Option FieldType} {rm : Room} {argsL rest : List Value} {Q : Option Value → Heap → List Loc → Prop} {own K : String} {index : Nat} (hown : s.vm.findClass own = some m.cls) (w1 : (Jvm.Cond.methodLink own index y).before a0 Z = true) (w2 : (Jvm.Cond.sameMethod y.cls y.cls y.name y.desc).before a0 Z = true) (w5 : (Jvm.Cond.instanceMethod y).before a0 Z = true) (w6 : (Jvm.Cond.superclass own y.cls).before a0 Z = true) (w3 : (Jvm.Cond.initialized y.cls).before a0 Z = true) (w4 : (Jvm.Cond.code y bytes maxL ret).before a0 Z = true) (hn : y.name ≠ "<init>")
    {a : Addr} (F : Ins Z h a K true) (M : Met1 l y bytes maxL ret [] rm (.ref a :: argsL).toArray Z h Q) (eT : T.heap = h) (hsize : Ls.size = c.maxLocals) {ps : List FieldType} {r : Option FieldType} (hpd : parseMethodDescriptor y.desc = some ⟨ps, r⟩) (hlen : argsL.length = ps.length) (hst : st = argsL.reverse ++ .ref a :: rest) (hd : Ins1 code pc (.invokespecial index) 3 pn) (hf : rm.frames + 1 ≤ R.frames) (W : Nat) (hW : (rest.map fun v => v.category).sum = W) (hl : W + (maxL + 11) + rm.locals ≤ R.locals) (hcl : cells + rm.cells ≤ R.cells) (hsl : slots + rm.slots ≤ R.slots)
    (k : ∀ T' v L, Stand p l e R s m args below meth c T' (locs ++ L) (cells + rm.cells) (slots + rm.slots) → Q v T'.heap L → Gd p e below P T' (mkF m pn Ls (v.toList ++ rest))) : Gd p e below P T (mkF m pc Ls st) := by
  obtain ⟨hd, rfl⟩ := hd
  obtain ⟨v, _, ⟨T', L', k', n'⟩, -, X', ⟨Lc, hQ, l1, y1, z1⟩, stp⟩ := superBack X hx hZ (y := y) hown w1 w2 w5 w6 hn (backOf (W := W) M hZ w4 w3 hf hl) eT F (g := mkF m pc Ls st) rfl hsize w4 (argsL := argsL) (rest := rest) (lenOf hpd hlen) hst (by show 2 * 0 + _ ≤ _; rw [hW]; omega) (hb hby hd) (fun _ _ => ⟨rfl, eT, hcl, hsl⟩)
  dsimp only [Pt.U, Pt.locs, Pt.cells, Pt.slots] at X' l1 y1 z1 stp hQ
  subst l1 y1 z1
  exact (k T' v Lc X' hQ).of fun t q => stp.trans q
theorem g_arraycopy (X : Stand p l e R s m args below meth c T locs cells slots) (hx : p.tables.exec = Jvm.exec) (hby : c.code = code) (hZ : Z.Warmed39 s.vm) {own : String} {index : Nat} (hown : s.vm.findClass own = some m.cls) (w1 : (Jvm.Cond.methodLink own index Jvm.Stand.acN).before a0 Z = true) (w2 : (Jvm.Cond.native Jvm.Stand.acN).before a0 Z = true) (w3 : (Jvm.Cond.static Jvm.Stand.acN).before a0 Z = true) (w4 : (Jvm.Cond.initialized "java/lang/System").before a0 Z = true) (eT : T.heap = h)
    {a b : Addr} {ka kb : ClassId} {ty : FieldType} {z z' sp dp nn : Int32} {vs vd us : List Value} {dv dd : Value} (A : Arv Z h a ka ty z vs dv) (B : Arv Z h b kb ty z' vd dd) (hty : refKind ty = false) (h1 : ¬ sp < 0) (h2 : ¬ dp < 0) (h3 : ¬ nn < 0) (h4 : sp.toNatClampNeg + nn.toNatClampNeg ≤ z.toNatClampNeg) (h5 : dp.toNatClampNeg + nn.toNatClampNeg ≤ z'.toNatClampNeg)
    (hus : us = (List.range nn.toNatClampNeg).map fun i => vs.getD (sp.toNatClampNeg + i) dv) (hl : dp.toNatClampNeg + nn.toNatClampNeg ≤ vd.length) {n0 : Nat} (N : Fr n0 locs) (ge : n0 ≤ b) (hsize : Ls.size = c.maxLocals) (hd : Ins1 code pc (.invokestatic index) 3 pn) (hf : 1 ≤ R.frames) (W : Nat) (hW : (st.map fun v => v.category).sum = W) (hlo : W + (nativeFrameWords "java/lang/System" "arraycopy" 5 + 11) ≤ R.locals)
    (k : ∀ T' h' L, Stand p l e R s m args below meth c T' L cells slots → T'.heap = h' → Fr n0 L → Keep h h' [b] → Arv Z h' b kb ty z' (vd.take dp.toNatClampNeg ++ us ++ vd.drop (dp.toNatClampNeg + nn.toNatClampNeg)) dd → Gd p e below P T' (mkF m pn Ls st)) : Gd p e below P T (mkF m pc Ls (.int nn :: .int dp :: .ref b :: .int sp :: .ref a :: st)) := by
  obtain ⟨hd, rfl⟩ := hd
  obtain ⟨T', h', L, X', e', N', K', V', stp⟩ := cpA X hx hZ hown w1 w2 w3 w4 eT A B (Or.inl ⟨rfl, hty⟩) h1 h2 h3 h4 h5 hus hl N ge (g := mkF m pc Ls (.int nn :: .int dp :: .ref b :: .int sp :: .ref a :: st)) rfl hsize rfl (hb hby hd) hf (W := W) (by show 2 * 0 + _ ≤ _; rw [hW]; omega) hlo
  exact (k T' h' L X' e' N' K' V').of stp
theorem g_castY (X : Stand p l e R s m args below meth c T locs cells slots) (hx : p.tables.exec = Jvm.exec) (hby : c.code = code) (hZ : Z.Warmed39 s.vm) {own K : String} {index : Nat} (hown : s.vm.findClass own = some m.cls) (w : (Jvm.Cond.classLink own index K).before a0 Z = true) (eT : T.heap = h) {a : Addr} (F : Ins Z h a K true) (hd : Ins1 code pc (.checkcast index) 3 pn)
    (k : ∀ T', Stand p l e R s m args below meth c T' locs cells slots → T'.heap = h → Gd p e below P T' (mkF m pn Ls (.ref a :: st))) : Gd p e below P T (mkF m pc Ls (.ref a :: st)) := by
  obtain ⟨hd, rfl⟩ := hd
  obtain ⟨T', X', e', stp⟩ := castY X hx hZ hown w eT F (g := mkF m pc Ls (.ref a :: st)) rfl rfl (hb hby hd)
  exact (k T' X' e').of stp
theorem g_instY (X : Stand p l e R s m args below meth c T locs cells slots) (hx : p.tables.exec = Jvm.exec) (hby : c.code = code) (hZ : Z.Warmed39 s.vm) {own K : String} {index : Nat} (hown : s.vm.findClass own = some m.cls) (w : (Jvm.Cond.classLink own index K).before a0 Z = true) (eT : T.heap = h) {a : Addr} (F : Ins Z h a K true) (hd : Ins1 code pc (.instanceof index) 3 pn)
    (k : ∀ T', Stand p l e R s m args below meth c T' locs cells slots → T'.heap = h → Gd p e below P T' (mkF m pn Ls (.int 1 :: st))) : Gd p e below P T (mkF m pc Ls (.ref a :: st)) := by
  obtain ⟨hd, rfl⟩ := hd
  obtain ⟨T', X', e', stp⟩ := instY X hx hZ hown w eT F (g := mkF m pc Ls (.ref a :: st)) rfl rfl (hb hby hd)
  exact (k T' X' e').of stp
theorem g_instN (X : Stand p l e R s m args below meth c T locs cells slots) (hx : p.tables.exec = Jvm.exec) (hby : c.code = code) (hZ : Z.Warmed39 s.vm) {own K C : String} {index : Nat} (hown : s.vm.findClass own = some m.cls) (w : (Jvm.Cond.classLink own index K).before a0 Z = true) (eT : T.heap = h) {a : Addr} (E : Exa Z h a C) (F : ∃ c t, Z.vm.findClass C = some c ∧ Z.vm.findClass K = some t ∧ Z.vm.assignable c t = false) (hd : Ins1 code pc (.instanceof index) 3 pn)
    (k : ∀ T', Stand p l e R s m args below meth c T' locs cells slots → T'.heap = h → Gd p e below P T' (mkF m pn Ls (.int 0 :: st))) : Gd p e below P T (mkF m pc Ls (.ref a :: st)) := by
  obtain ⟨hd, rfl⟩ := hd
  obtain ⟨T', X', e', stp⟩ := instNo X hx hZ hown w eT E F (g := mkF m pc Ls (.ref a :: st)) rfl rfl (hb hby hd)
  exact (k T' X' e').of stp
end K2
end Jvm.OwnG
namespace Jvm.Pilot.@@N@@
open Jvm Jvm.ClassFile Sem Op Lib Jvm.Free Jvm.Stand Jvm.LawKit Jvm.RoadKit Jvm.OwnG Bundle Jvm.Pilot.@@N@@.Jvm.D
theorem own_k0 : ((0 : Int32) &&& 31) = 0 := by decide
theorem own_shr0 (z : Int32) : z >>> ((0 : Int32) &&& 31) = z := by
  have h := c_ishr z 0 0 (by decide)
  apply Int32.toInt_inj.mp
  rw [h]
  simp
theorem own_shl0 (z : Int32) : z <<< ((0 : Int32) &&& 31) = z := by
  have h := c_ishl z 0 0 (by decide)
  have r := rng32 z
  have r2 := rng32 (z <<< ((0 : Int32) &&& 31))
  apply Int32.toInt_inj.mp
  simp at h
  simp
theorem own_cap {v p : Int32} (hv : v = (16 : Int32) >>> ((0 : Int32) &&& 31)) (h0 : 0 ≤ p.toInt) (h1 : p.toInt ≤ 16) (q : (0 : Int32) < p - v) : False := by
  rw [own_shr0] at hv
  subst hv
  have e0 : (0 : Int32).toInt = 0 := by decide
  have e16 : (16 : Int32).toInt = 16 := by decide
  have a := c_isub p 16
  have r := rng32 (p - 16)
  rw [Int32.lt_iff_toInt_lt, e0] at q
  rw [e16] at a
  omega
theorem own_notSub {Z : State} {a0 : Array Value} {C S K : String} {n : Nat} (w : (Jvm.Cond.superclass C S).before a0 Z = true) (wk : (Jvm.Cond.instantiable K n).before a0 Z = true) (nn : NS Z C K) (hn : C ≠ K) : ∃ c t, Z.vm.findClass C = some c ∧ Z.vm.findClass K = some t ∧ Z.vm.assignable c t = false := by
  obtain ⟨c, t, h0, g0, n3⟩ := nn
  obtain ⟨p, k, kp, h1, h2, h3, h4, h5, -, h7⟩ := Cond.superclass_spec h0 w
  obtain ⟨t', k', g1, g2, g3, g4, -, -⟩ := Cond.instantiable_spec wk
  cases g0.symm.trans g1
  have ne := ids_ne h0 g0 hn
  have g5 : k'.isInterface = false := by
    cases hi : k'.isInterface
    · rfl
    · rw [hi] at g4; simp at g4
  refine ⟨c, t, h0, g0, ?_⟩
  show Z.vm.assignableAux (255 + 1) c t = false
  simp [Vm.assignableAux, ne, h2, g2, h5, g3, g5, Vm.isSubclass, n3]
theorem own_NSroot {Z : State} {a0 : Array Value} {O K : String} {n : Nat} (w : (Jvm.Cond.noSuperclass O).before a0 Z = true) (wk : (Jvm.Cond.instantiable K n).before a0 Z = true) (hn : O ≠ K) : NS Z O K := by
  obtain ⟨c, k, h1, h2, h3, -, -⟩ := Cond.noSuperclass_spec w
  obtain ⟨t, k', g1, -⟩ := Cond.instantiable_spec wk
  have ne := ids_ne h1 g1 hn
  refine ⟨c, t, h1, g1, fun fuel => ?_⟩
  cases fuel with
  | zero => rfl
  | succ f => simp [Vm.isSubclassAux, ne, h2, h3]
def own_us (n : Nat) (vs : List Value) : List Value := (List.range n).map fun j => vs.getD j (.int (0 : Int32))
def own_put (vd : List Value) (i n : Nat) (vs : List Value) : List Value := vd.take i ++ own_us n vs ++ vd.drop (i + n)
theorem own_z0 : (0 : Int32).toNatClampNeg = 0 := by decide
theorem own_0 (n : Nat) : (0 : Int32).toNatClampNeg + n = n := by rw [own_z0, Nat.zero_add]
theorem own_us0 (n : Nat) (vs : List Value) : own_us n vs = (List.range n).map fun i => vs.getD ((0 : Int32).toNatClampNeg + i) (.int (0 : Int32)) := by
  unfold own_us
  simp only [own_0]
theorem own_sub0 (z : Int32) : z - (0 : Int32) = z := by simp
theorem own_min {c : Int32} (h : c < (16 : Int32)) : c < ((16 : Int32) - (0 : Int32)) := h
theorem own_padz (n : Nat) (us : List Value) (dv : Value) (hl : us.length = n) : (List.replicate n dv).take (0 : Int32).toNatClampNeg ++ us ++ (List.replicate n dv).drop ((0 : Int32).toNatClampNeg + n) = us := by
  rw [own_z0, Nat.zero_add]
  simp
theorem own_uslen (n : Nat) (vs : List Value) : (own_us n vs).length = n := by simp [own_us]
theorem own_rt_dec : ∀ n : Fin 256, nar .char (nar .char (((nar .byte (Int32.ofNat n.val).toInt8.toInt32) &&& (255 : Int32)).toUInt32.toUInt16.toUInt32.toInt32)) = nar .char (Int32.ofNat n.val) := by decide +kernel
theorem own_lo {v w : Int32} (h : v = (w &&& (255 : Int32)).toUInt32.toUInt16.toUInt32.toInt32) : ∃ n : Fin 256, v = Int32.ofNat n.val := by
  have m := c_mask w 255 8 (by decide) (by decide)
  have q := c_i2c (w &&& 255)
  rw [← h] at q
  have hv : 0 ≤ v.toInt ∧ v.toInt < 256 := by omega
  have hlt : v.toInt.toNat < 256 := by omega
  refine ⟨⟨v.toInt.toNat, hlt⟩, Int32.toInt_inj.mp ?_⟩
  have d := (by decide +kernel : ∀ n : Fin 256, (Int32.ofNat n.val).toInt = (n.val : Int)) ⟨v.toInt.toNat, hlt⟩
  rw [d]
  show v.toInt = (v.toInt.toNat : Int)
  omega
theorem own_enc {v w : Int32} (h : v = (w &&& (255 : Int32)).toUInt32.toUInt16.toUInt32.toInt32) : ¬ (255 : Int32) < v := by
  obtain ⟨n, rfl⟩ := own_lo h
  exact (by decide +kernel : ∀ n : Fin 256, ¬ (255 : Int32) < Int32.ofNat n.val) n
theorem own_rt {v w : Int32} (h : v = (w &&& (255 : Int32)).toUInt32.toUInt16.toUInt32.toInt32) : nar .char (nar .char (((nar .byte v.toInt8.toInt32) &&& (255 : Int32)).toUInt32.toUInt16.toUInt32.toInt32)) = nar .char v := by
  obtain ⟨n, rfl⟩ := own_lo h
  exact own_rt_dec n
theorem i6_0 : Ins1 jdk_43_method_3_code 0 (.iload_n 0) 1 1 := ⟨by decide +kernel, rfl⟩
theorem i6_1 : Ins1 jdk_43_method_3_code 1 (.sipush 255) 3 4 := ⟨by decide +kernel, rfl⟩
theorem i6_4 : InsB jdk_43_method_3_code 4 (.if_icmp .gt 7) 7 7 11 := ⟨by decide +kernel, rfl, by decide, by decide⟩
theorem i6_7 : Ins1 jdk_43_method_3_code 7 (.iconst 1) 1 8 := ⟨by decide +kernel, rfl⟩
theorem i6_8 : InsB jdk_43_method_3_code 8 (.goto 4) 4 11 12 := ⟨by decide +kernel, rfl, by decide, by decide⟩
theorem i6_11 : Ins1 jdk_43_method_3_code 11 (.iconst 0) 1 12 := ⟨by decide +kernel, rfl⟩
theorem i6_12 : Ins1 jdk_43_method_3_code 12 (.ireturn) 1 13 := ⟨by decide +kernel, rfl⟩
theorem pn_java_lang_StringLatin1 : plainName "java/lang/StringLatin1" = true := by first | (simp [plainName, overriddenIn]; done) | decide +kernel
theorem ef_6 (m : MethodId) (p0 : Int32) : entryFrame m #[(.int p0)] 1 = mkF m 0 #[.val (.int p0)] [] := by first | (simp [entryFrame, mkF, argsToLocals, Value.category]; done) | rfl
set_option maxRecDepth 65536 in
set_option maxHeartbeats 40000000 in
theorem rm6 (l : Launch) (Z : State) (a0 : Array Value) (hw : ∀ d ∈ tables_1, d.before a0 Z = true) (ws : List Jvm.Cond) (p0 : Int32)  (h0 : Heap) (n0 : Nat) (Z0 : n0 ≤ h0.size) (hp : ¬ (255 : Int32) < p0) :
    Met1 l (⟨"java/lang/StringLatin1", "canEncode", "(C)Z"⟩ : MethodName) jdk_43_method_3_code 1 (some .boolean) ws ({ frames := 0, cells := 0, slots := 0, locals := 0 } : Room) #[(.int p0)] Z h0 (RV fun vv h L => vv = .int 1 ∧ h = h0 ∧ Fr n0 L) := by
  refine met_of (plainFor_of_name pn_java_lang_StringLatin1) ?_
  intro p e s m below meth c T0 X0 hx hby hml hZ hown hnm hret hlk e0 es
  have N0 := Fr.nil n0
  refine Gd.cast (ef_6 m p0) ?_
  refine g_iloadN X0 hx hby i6_0 rfl ?_
  refine g_sipush X0 hx hby i6_1 (z := (255 : Int32)) (by decide) ?_
  refine g_icmp_gt X0 hx hby i6_4 (fun c4_1 => False.elim (hp c4_1)) fun c4_1 => ?_
  refine g_iconst X0 hx hby i6_7 (z := (1 : Int32)) (by decide) ?_
  refine g_goto X0 hx hby i6_8 ?_
  refine g_ireturnN X0 hx hby (ty := .boolean) hret (by simp) hlk i6_12 (by decide) (by decide) ?_
  exact ⟨_, rfl, rfl, e0, N0⟩
theorem i7_0 : Ins1 jdk_43_method_46_code 0 (.iconst 1) 1 1 := ⟨by decide +kernel, rfl⟩
theorem i7_1 : Ins1 jdk_43_method_46_code 1 (.newarray .byte) 2 3 := ⟨by decide +kernel, rfl⟩
theorem i7_3 : Ins1 jdk_43_method_46_code 3 (.dup) 1 4 := ⟨by decide +kernel, rfl⟩
theorem i7_4 : Ins1 jdk_43_method_46_code 4 (.iconst 0) 1 5 := ⟨by decide +kernel, rfl⟩
theorem i7_5 : Ins1 jdk_43_method_46_code 5 (.iload_n 0) 1 6 := ⟨by decide +kernel, rfl⟩
theorem i7_6 : Ins1 jdk_43_method_46_code 6 (.i2b) 1 7 := ⟨by decide +kernel, rfl⟩
theorem i7_7 : Ins1 jdk_43_method_46_code 7 (.bastore) 1 8 := ⟨by decide +kernel, rfl⟩
theorem i7_8 : Ins1 jdk_43_method_46_code 8 (.areturn) 1 9 := ⟨by decide +kernel, rfl⟩
theorem ef_7 (m : MethodId) (p0 : Int32) : entryFrame m #[(.int p0)] 1 = mkF m 0 #[.val (.int p0)] [] := by first | (simp [entryFrame, mkF, argsToLocals, Value.category]; done) | rfl
set_option maxRecDepth 65536 in
set_option maxHeartbeats 40000000 in
theorem rm7 (l : Launch) (Z : State) (a0 : Array Value) (hw : ∀ d ∈ tables_1, d.before a0 Z = true) (ws : List Jvm.Cond) (p0 : Int32)  (h0 : Heap) (n0 : Nat) (Z0 : n0 ≤ h0.size)  :
    Met1 l (⟨"java/lang/StringLatin1", "toBytes", "(C)[B"⟩ : MethodName) jdk_43_method_46_code 1 (some (.array .byte)) ws ({ frames := 0, cells := 1, slots := 1, locals := 0 } : Room) #[(.int p0)] Z h0 (RV fun z h L => ∃ b kc, z = .ref b ∧ Keep h0 h [] ∧ Arv Z h b kc .byte (1 : Int32) [(.int (nar .byte p0.toInt8.toInt32))] (.int 0) ∧ n0 ≤ b ∧ h0.size ≤ b ∧ Fr n0 L) := by
  refine met_of (plainFor_of_name pn_java_lang_StringLatin1) ?_
  intro p e s m below meth c T0 X0 hx hby hml hZ hown hnm hret hlk e0 es
  have N0 := Fr.nil n0
  refine Gd.cast (ef_7 m p0) ?_
  have K0 : Keep h0 h0 [] := Keep.refl _ _
  refine g_iconst X0 hx hby i7_0 (z := (1 : Int32)) (by decide) ?_
  refine g_newarray X0 hx hby hZ (ty := .byte) rfl (hw _ (List.mem_of_getElem? (i := 24) rfl)) e0 i7_1 (by decide) 1 (by decide) (by decide) (by decide) (by decide) fun T1 h1 b1 k1 X1 e1 E1 hb1 V1 => ?_
  have g_b1 : n0 ≤ b1 := Nat.le_trans Z0 (Nat.le_of_eq hb1.symm)
  have sz_b1 : h0.size ≤ b1 := Nat.le_trans K0.1 (Nat.le_of_eq hb1.symm)
  have K0 := K0.ext E1
  have Z0 : n0 ≤ h1.size := Nat.le_trans Z0 E1.1
  have V1 : Arv Z h1 b1 k1 .byte (1 : Int32) [(.int (0 : Int32))] (.int (0 : Int32)) := V1.pad (pad_rep [] _ 1)
  refine g_dup X1 hx hby i7_3 rfl ?_
  refine g_iconst X1 hx hby i7_4 (z := (0 : Int32)) (by decide) ?_
  refine g_iloadN X1 hx hby i7_5 rfl ?_
  refine g_i2b X1 hx hby i7_6 ?_
  refine g_bastore X1 hx hby hZ e1 V1 (i := 0) (by decide) (by decide) (by decide) (Nat.le_of_ble_eq_true rfl) i7_7 fun T2 h2 X2 e2 W2 V1 => ?_
  have V1 : Arv Z h2 b1 k1 .byte (1 : Int32) [(.int (nar .byte p0.toInt8.toInt32))] (.int (0 : Int32)) := V1
  have Z0 : n0 ≤ h2.size := Nat.le_trans Z0 (Nat.le_of_eq W2.size.symm)
  have N0 := Fr.snoc X2 N0 g_b1
  have K0 := K0.wr W2 (Or.inr sz_b1)
  refine g_areturn X2 hx hby hret rfl (fun _ => rfl) hlk rfl i7_8 (by decide) (by decide) ?_
  rw [e2]
  exact ⟨_, rfl, b1, _, rfl, K0, V1, g_b1, sz_b1, N0⟩
theorem i8_0 : Ins1 jdk_42_method_151_code 0 (.aload_n 0) 1 1 := ⟨by decide +kernel, rfl⟩
theorem i8_1 : Ins1 jdk_42_method_151_code 1 (.invokespecial 1) 3 4 := ⟨by decide +kernel, rfl⟩
theorem i8_4 : Ins1 jdk_42_method_151_code 4 (.aload_n 0) 1 5 := ⟨by decide +kernel, rfl⟩
theorem i8_5 : Ins1 jdk_42_method_151_code 5 (.aload_n 1) 1 6 := ⟨by decide +kernel, rfl⟩
theorem i8_6 : Ins1 jdk_42_method_151_code 6 (.putfield 9) 3 9 := ⟨by decide +kernel, rfl⟩
theorem i8_9 : Ins1 jdk_42_method_151_code 9 (.aload_n 0) 1 10 := ⟨by decide +kernel, rfl⟩
theorem i8_10 : Ins1 jdk_42_method_151_code 10 (.iload_n 2) 1 11 := ⟨by decide +kernel, rfl⟩
theorem i8_11 : Ins1 jdk_42_method_151_code 11 (.putfield 15) 3 14 := ⟨by decide +kernel, rfl⟩
theorem i8_14 : Ins1 jdk_42_method_151_code 14 (.return_) 1 15 := ⟨by decide +kernel, rfl⟩
theorem pn_java_lang_String : plainName "java/lang/String" = true := by first | (simp [plainName, overriddenIn]; done) | decide +kernel
theorem ef_8 (m : MethodId) (a : Addr) (b : Addr) (p2 : Int32) : entryFrame m #[(.ref a), (.ref b), (.int p2)] 3 = mkF m 0 #[.val (.ref a), .val (.ref b), .val (.int p2)] [] := by first | (simp [entryFrame, mkF, argsToLocals, Value.category]; done) | rfl
set_option maxRecDepth 65536 in
set_option maxHeartbeats 40000000 in
theorem rm8 (l : Launch) (Z : State) (a0 : Array Value) (hw : ∀ d ∈ tables_1, d.before a0 Z = true) (ws : List Jvm.Cond) (a : Addr) (b : Addr) (p2 : Int32)  (h0 : Heap) (n0 : Nat) (Z0 : n0 ≤ h0.size) (E_a : Exa Z h0 a "java/lang/String") (FV : Fld Z h0 a "java/lang/String" "value" "[B" .null) (FC : Fld Z h0 a "java/lang/String" "coder" "B" (.int 0)) (g_a : n0 ≤ a) :
    Met1 l (⟨"java/lang/String", "<init>", "([BB)V"⟩ : MethodName) jdk_42_method_151_code 3 none ws ({ frames := 1, cells := 0, slots := 0, locals := 12 } : Room) #[(.ref a), (.ref b), (.int p2)] Z h0 (RN fun h L => Keep h0 h [a] ∧ Exa Z h a "java/lang/String" ∧ Fld Z h a "java/lang/String" "value" "[B" (.ref b) ∧ Fld Z h a "java/lang/String" "coder" "B" (.int (nar .byte p2)) ∧ Fr n0 L) := by
  refine met_of (plainFor_of_name pn_java_lang_String) ?_
  intro p e s m below meth c T0 X0 hx hby hml hZ hown hnm hret hlk e0 es
  have N0 := Fr.nil n0
  refine Gd.cast (ef_8 m a b p2) ?_
  have K0 : Keep h0 h0 [a] := Keep.refl _ _
  refine g_aloadN X0 hx hby i8_0 rfl rfl ?_
  refine g_objInit X0 hx hby hZ hown (hw _ (List.mem_of_getElem? (i := 48) rfl)) (hw _ (List.mem_of_getElem? (i := 7) rfl)) (hw _ (List.mem_of_getElem? (i := 8) rfl)) e0 (by rw [hml]; rfl) i8_1 0 rfl (by decide) (by decide) fun T1 X1 e1 => ?_
  refine g_aloadN X1 hx hby i8_4 rfl rfl ?_
  refine g_aloadN X1 hx hby i8_5 rfl rfl ?_
  refine g_putfield X1 hx hby hZ hown (host := "") (Or.inl (hw _ (List.mem_of_getElem? (i := 49) rfl))) Via.refl e1 FV E_a (Or.inr ⟨(hw _ (List.mem_of_getElem? (i := 50) rfl)), rfl, hnm⟩) (hw _ (List.mem_of_getElem? (i := 40) rfl)) (ty := (.array .byte)) (by decide) rfl rfl i8_6 fun T2 h2 X2 e2 W2 => ?_
  have FV := FV.same W2
  have E_a := E_a.wr W2
  have FC := FC.other W2 (Or.inr (slot_ne (Or.inr (hw _ (List.mem_of_getElem? (i := 52) rfl))) (Or.inr (hw _ (List.mem_of_getElem? (i := 50) rfl))) (by decide) (t := .byte) (t' := (.array .byte)) (by decide) (by decide)))
  have Z0 : n0 ≤ h2.size := Nat.le_trans Z0 (Nat.le_of_eq W2.size.symm)
  have N0 := Fr.snoc X2 N0 g_a
  have K0 := K0.wr W2 (Or.inl (List.mem_singleton.mpr rfl))
  refine g_aloadN X2 hx hby i8_9 rfl rfl ?_
  refine g_iloadN X2 hx hby i8_10 rfl ?_
  refine g_putfieldN X2 hx hby hZ hown (hw _ (List.mem_of_getElem? (i := 51) rfl)) Via.refl e2 FC E_a (Or.inr ⟨(hw _ (List.mem_of_getElem? (i := 52) rfl)), rfl, hnm⟩) (hw _ (List.mem_of_getElem? (i := 40) rfl)) (ty := .byte) (v' := (.int (nar .byte p2))) (by decide) rfl (fits_nar_byte _) i8_11 fun T3 h3 X3 e3 W3 => ?_
  have FC := FC.same W3
  have E_a := E_a.wr W3
  have FV := FV.other W3 (Or.inr (slot_ne (Or.inr (hw _ (List.mem_of_getElem? (i := 50) rfl))) (Or.inr (hw _ (List.mem_of_getElem? (i := 52) rfl))) (by decide) (t := (.array .byte)) (t' := .byte) (by decide) (by decide)))
  have Z0 : n0 ≤ h3.size := Nat.le_trans Z0 (Nat.le_of_eq W3.size.symm)
  have N0 := Fr.snoc X3 N0 g_a
  have K0 := K0.wr W3 (Or.inl (List.mem_singleton.mpr rfl))
  refine g_return X3 hx hby hret hlk i8_14 (by decide) (by decide) ?_
  rw [e3]
  exact ⟨rfl, K0, E_a, FV, FC, N0⟩
theorem i5_0 : Ins1 jdk_42_method_139_code 0 (.getstatic 38) 3 3 := ⟨by decide +kernel, rfl⟩
theorem i5_3 : InsB jdk_42_method_139_code 3 (.ifCond .eq 23) 23 6 26 := ⟨by decide +kernel, rfl, by decide, by decide⟩
theorem i5_6 : Ins1 jdk_42_method_139_code 6 (.iload_n 0) 1 7 := ⟨by decide +kernel, rfl⟩
theorem i5_7 : Ins1 jdk_42_method_139_code 7 (.invokestatic 1015) 3 10 := ⟨by decide +kernel, rfl⟩
theorem i5_10 : InsB jdk_42_method_139_code 10 (.ifCond .eq 16) 16 13 26 := ⟨by decide +kernel, rfl, by decide, by decide⟩
theorem i5_13 : Ins1 jdk_42_method_139_code 13 (.new 10) 3 16 := ⟨by decide +kernel, rfl⟩
theorem i5_16 : Ins1 jdk_42_method_139_code 16 (.dup) 1 17 := ⟨by decide +kernel, rfl⟩
theorem i5_17 : Ins1 jdk_42_method_139_code 17 (.iload_n 0) 1 18 := ⟨by decide +kernel, rfl⟩
theorem i5_18 : Ins1 jdk_42_method_139_code 18 (.invokestatic 1018) 3 21 := ⟨by decide +kernel, rfl⟩
theorem i5_21 : Ins1 jdk_42_method_139_code 21 (.iconst 0) 1 22 := ⟨by decide +kernel, rfl⟩
theorem i5_22 : Ins1 jdk_42_method_139_code 22 (.invokespecial 209) 3 25 := ⟨by decide +kernel, rfl⟩
theorem i5_25 : Ins1 jdk_42_method_139_code 25 (.areturn) 1 26 := ⟨by decide +kernel, rfl⟩
theorem i5_26 : Ins1 jdk_42_method_139_code 26 (.new 10) 3 29 := ⟨by decide +kernel, rfl⟩
theorem i5_29 : Ins1 jdk_42_method_139_code 29 (.dup) 1 30 := ⟨by decide +kernel, rfl⟩
theorem i5_30 : Ins1 jdk_42_method_139_code 30 (.iload_n 0) 1 31 := ⟨by decide +kernel, rfl⟩
theorem i5_31 : Ins1 jdk_42_method_139_code 31 (.invokestatic 1021) 3 34 := ⟨by decide +kernel, rfl⟩
theorem i5_34 : Ins1 jdk_42_method_139_code 34 (.iconst 1) 1 35 := ⟨by decide +kernel, rfl⟩
theorem i5_35 : Ins1 jdk_42_method_139_code 35 (.invokespecial 209) 3 38 := ⟨by decide +kernel, rfl⟩
theorem i5_38 : Ins1 jdk_42_method_139_code 38 (.areturn) 1 39 := ⟨by decide +kernel, rfl⟩
theorem ef_5 (m : MethodId) (p0 : Int32) : entryFrame m #[(.int p0)] 1 = mkF m 0 #[.val (.int p0)] [] := by first | (simp [entryFrame, mkF, argsToLocals, Value.category]; done) | rfl
theorem pd_0 : parseMethodDescriptor "(C)Z" = some ⟨[.char], some .boolean⟩ := by decide +kernel
theorem pd_1 : parseMethodDescriptor "(C)[B" = some ⟨[.char], some (.array .byte)⟩ := by decide +kernel
theorem pd_2 : parseMethodDescriptor "([BB)V" = some ⟨[(.array .byte), .byte], none⟩ := by decide +kernel
set_option maxRecDepth 65536 in
set_option maxHeartbeats 40000000 in
theorem rm5 (l : Launch) (Z : State) (a0 : Array Value) (hw : ∀ d ∈ tables_1, d.before a0 Z = true) (ws : List Jvm.Cond) (p0 : Int32) (cz : Int32)  (h0 : Heap) (n0 : Nat) (Z0 : n0 ≤ h0.size) (S0 : Sta Z Z.heap "java/lang/String" "COMPACT_STRINGS" "Z" (.int cz)) (hcz : ¬ cz = (0 : Int32)) (O : Old Z n0 h0) (hp : ¬ (255 : Int32) < p0) :
    Met1 l (⟨"java/lang/String", "valueOf", "(C)Ljava/lang/String;"⟩ : MethodName) jdk_42_method_139_code 1 (some (.object "java/lang/String")) ws ({ frames := 2, cells := 2, slots := 5, locals := 28 } : Room) #[(.int p0)] Z h0 (RV fun z h L => ∃ a b kc, z = .ref a ∧ Keep h0 h [] ∧ Exa Z h a "java/lang/String" ∧ Fld Z h a "java/lang/String" "value" "[B" (.ref b) ∧ Fld Z h a "java/lang/String" "coder" "B" (.int 0) ∧ Arv Z h b kc .byte (1 : Int32) [(.int (nar .byte p0.toInt8.toInt32))] (.int 0) ∧ n0 ≤ a ∧ n0 ≤ b ∧ h0.size ≤ a ∧ h0.size ≤ b ∧ a ≠ b ∧ Fr n0 L) := by
  refine met_of (plainFor_of_name pn_java_lang_String) ?_
  intro p e s m below meth c T0 X0 hx hby hml hZ hown hnm hret hlk e0 es
  have N0 := Fr.nil n0
  refine Gd.cast (ef_5 m p0) ?_
  have K0 : Keep h0 h0 [] := Keep.refl _ _
  refine g_getstatic X0 hx hby hZ hown (host := "") (Or.inl (hw _ (List.mem_of_getElem? (i := 34) rfl))) Via.refl e0 (S0.ext O.2) i5_0 fun T1 X1 e1 => ?_
  refine g_if_eq X1 hx hby i5_3 (fun c3_2 => False.elim (hcz c3_2)) fun c3_2 => ?_
  refine g_iloadN X1 hx hby i5_6 rfl ?_
  refine g_callS0 X1 hx hby hZ (y := (⟨"java/lang/StringLatin1", "canEncode", "(C)Z"⟩ : MethodName)) (argsL := [(.int p0)]) (rest := []) hown (hw _ (List.mem_of_getElem? (i := 35) rfl)) (hw _ (List.mem_of_getElem? (i := 36) rfl)) (hw _ (List.mem_of_getElem? (i := 37) rfl)) (hw _ (List.mem_of_getElem? (i := 38) rfl)) (by decide) (rm6 l Z a0 hw [] p0  h0 n0 Z0 hp) e1 (by rw [hml]; rfl) pd_0 rfl rfl i5_7 (by decide) 0 rfl (by decide) (by decide) (by decide) fun T3 v3 L3 X3 q3 => ?_
  obtain ⟨_, rfl, rfl, e3, N3⟩ := q3
  have N0 := Fr.app N0 N3
  show Gd p e below _ T3 (mkF m 10 #[.val (.int p0)] [(.int (1 : Int32))])
  refine g_if_eq X3 hx hby i5_10 (fun c10_4 => False.elim (absurd c10_4 (by decide))) fun c10_4 => ?_
  refine g_new X3 hx hby hZ hown (hw _ (List.mem_of_getElem? (i := 39) rfl)) (hw _ (List.mem_of_getElem? (i := 40) rfl)) (hw _ (List.mem_of_getElem? (i := 23) rfl)) e3 i5_13 (by decide) (by decide) fun T5 h5 b5 X5 e5 E5 hb5 A5 D5 => ?_
  have g_b5 : n0 ≤ b5 := Nat.le_trans Z0 (Nat.le_of_eq hb5.symm)
  have O := O.ext E5
  have sz_b5 : h0.size ≤ b5 := Nat.le_trans K0.1 (Nat.le_of_eq hb5.symm)
  have K0 := K0.ext E5
  have Z0 : n0 ≤ h5.size := Nat.le_trans Z0 E5.1
  have F5_value : Fld Z h5 b5 "java/lang/String" "value" "[B" .null := D5 (Or.inr (hw _ (List.mem_of_getElem? (i := 50) rfl))) (ty := (.array .byte)) (by decide)
  have F5_coder : Fld Z h5 b5 "java/lang/String" "coder" "B" (.int (0 : Int32)) := D5 (Or.inr (hw _ (List.mem_of_getElem? (i := 52) rfl))) (ty := .byte) (by decide)
  refine g_dup X5 hx hby i5_16 rfl ?_
  refine g_iloadN X5 hx hby i5_17 rfl ?_
  refine g_callS0 X5 hx hby hZ (y := (⟨"java/lang/StringLatin1", "toBytes", "(C)[B"⟩ : MethodName)) (argsL := [(.int p0)]) (rest := [(.ref b5), (.ref b5)]) hown (hw _ (List.mem_of_getElem? (i := 41) rfl)) (hw _ (List.mem_of_getElem? (i := 42) rfl)) (hw _ (List.mem_of_getElem? (i := 37) rfl)) (hw _ (List.mem_of_getElem? (i := 43) rfl)) (by decide) (rm7 l Z a0 hw [] p0 h5 n0 Z0) e5 (by rw [hml]; rfl) pd_1 rfl rfl i5_18 (by decide) 2 rfl (by decide) (by decide) (by decide) fun T6 v6 L6 X6 q6 => ?_
  obtain ⟨_, rfl, t6, kt6, rfl, K6, V6, g_t6, s6, N6⟩ := q6
  have N0 := Fr.app N0 N6
  have ne_b5_t6 : b5 ≠ t6 := Nat.ne_of_lt (Nat.lt_of_lt_of_le A5.lt s6)
  have sz_t6 : h0.size ≤ t6 := Nat.le_trans K0.1 s6
  have K0 := K0.trans K6 (fun x hx => nomatch hx)
  have A5 := A5.keep K6
  have F5_value := F5_value.keep K6 nin0
  have F5_coder := F5_coder.keep K6 nin0
  have O := O.keep K6 all0
  have Z0 : n0 ≤ T6.heap.size := Nat.le_trans Z0 K6.1
  show Gd p e below _ T6 (mkF m 21 #[.val (.int p0)] [(.ref t6), (.ref b5), (.ref b5)])
  refine g_iconst X6 hx hby i5_21 (z := (0 : Int32)) (by decide) ?_
  refine g_callInit0 X6 hx hby hZ (y := (⟨"java/lang/String", "<init>", "([BB)V"⟩ : MethodName)) (argsL := [(.ref t6), (.int (0 : Int32))]) (rest := [(.ref b5)]) rfl hown (hw _ (List.mem_of_getElem? (i := 44) rfl)) (hw _ (List.mem_of_getElem? (i := 45) rfl)) (hw _ (List.mem_of_getElem? (i := 23) rfl)) (hw _ (List.mem_of_getElem? (i := 47) rfl)) (by decide) (a := b5) (rm8 l Z a0 hw [] b5 t6 (0 : Int32) T6.heap n0 Z0 A5 F5_value F5_coder g_b5) rfl (by rw [hml]; rfl) pd_2 rfl rfl i5_22 (by decide) 1 rfl (by decide) (by decide) (by decide) fun T7 v7 L7 X7 q7 => ?_
  obtain ⟨rfl, K7, -, FV7, FC7, N7⟩ := q7
  have N0 := Fr.app N0 N7
  have K0 := K0.trans K7 (fun x hx => Or.inr (by cases hx with | head => exact sz_b5 | tail _ q => cases q))
  have A5 := A5.keep K7
  have V6 := V6.keep K7 (ninS (Ne.symm ne_b5_t6) nin0)
  have O := O.keep K7 (allS g_b5 all0)
  have Z0 : n0 ≤ T7.heap.size := Nat.le_trans Z0 K7.1
  show Gd p e below _ T7 (mkF m 25 #[.val (.int p0)] [(.ref b5)])
  refine g_areturn X7 hx hby hret rfl (fun _ => rfl) hlk rfl i5_25 (by decide) (by decide) ?_
  exact ⟨_, rfl, b5, t6, _, rfl, K0, A5, FV7, FC7, V6, g_b5, g_t6, sz_b5, sz_t6, ne_b5_t6, N0⟩
theorem i13_0 : Ins1 jdk_42_method_152_code 0 (.getstatic 38) 3 3 := ⟨by decide +kernel, rfl⟩
theorem i13_3 : InsB jdk_42_method_152_code 3 (.ifCond .eq 10) 10 6 13 := ⟨by decide +kernel, rfl, by decide, by decide⟩
theorem i13_6 : Ins1 jdk_42_method_152_code 6 (.aload_n 0) 1 7 := ⟨by decide +kernel, rfl⟩
theorem i13_7 : Ins1 jdk_42_method_152_code 7 (.getfield 15) 3 10 := ⟨by decide +kernel, rfl⟩
theorem i13_10 : InsB jdk_42_method_152_code 10 (.goto 4) 4 13 14 := ⟨by decide +kernel, rfl, by decide, by decide⟩
theorem i13_13 : Ins1 jdk_42_method_152_code 13 (.iconst 1) 1 14 := ⟨by decide +kernel, rfl⟩
theorem i13_14 : Ins1 jdk_42_method_152_code 14 (.ireturn) 1 15 := ⟨by decide +kernel, rfl⟩
theorem ef_13 (m : MethodId) (a : Addr) : entryFrame m #[(.ref a)] 1 = mkF m 0 #[.val (.ref a)] [] := by first | (simp [entryFrame, mkF, argsToLocals, Value.category]; done) | rfl
set_option maxRecDepth 65536 in
set_option maxHeartbeats 40000000 in
theorem rm13 (l : Launch) (Z : State) (a0 : Array Value) (hw : ∀ d ∈ tables_1, d.before a0 Z = true) (ws : List Jvm.Cond) (a : Addr) (cz : Int32)  (h0 : Heap) (n0 : Nat) (Z0 : n0 ≤ h0.size) (S0 : Sta Z Z.heap "java/lang/String" "COMPACT_STRINGS" "Z" (.int cz)) (hcz : ¬ cz = (0 : Int32)) (O : Old Z n0 h0) (FC : Fld Z h0 a "java/lang/String" "coder" "B" (.int 0)) :
    Met1 l (⟨"java/lang/String", "coder", "()B"⟩ : MethodName) jdk_42_method_152_code 1 (some .byte) ws ({ frames := 0, cells := 0, slots := 0, locals := 0 } : Room) #[(.ref a)] Z h0 (RV fun vv h L => vv = .int 0 ∧ h = h0 ∧ Fr n0 L) := by
  refine met_of (plainFor_of_name pn_java_lang_String) ?_
  intro p e s m below meth c T0 X0 hx hby hml hZ hown hnm hret hlk e0 es
  have N0 := Fr.nil n0
  refine Gd.cast (ef_13 m a) ?_
  refine g_getstatic X0 hx hby hZ hown (host := "") (Or.inl (hw _ (List.mem_of_getElem? (i := 34) rfl))) Via.refl e0 (S0.ext O.2) i13_0 fun T1 X1 e1 => ?_
  refine g_if_eq X1 hx hby i13_3 (fun c3_2 => False.elim (hcz c3_2)) fun c3_2 => ?_
  refine g_aloadN X1 hx hby i13_6 rfl rfl ?_
  refine g_getfield X1 hx hby hZ hown (host := "") (Or.inl (hw _ (List.mem_of_getElem? (i := 51) rfl))) Via.refl e1 FC i13_7 fun T3 X3 e3 => ?_
  refine g_goto X3 hx hby i13_10 ?_
  refine g_ireturnN X3 hx hby (ty := .byte) hret (by simp) hlk i13_14 (by decide) (by decide) ?_
  exact ⟨_, rfl, rfl, e3, N0⟩
theorem i41_0 : Ins1 jdk_42_method_154_code 0 (.getstatic 38) 3 3 := ⟨by decide +kernel, rfl⟩
theorem i41_3 : InsB jdk_42_method_154_code 3 (.ifCond .eq 14) 14 6 17 := ⟨by decide +kernel, rfl, by decide, by decide⟩
theorem i41_6 : Ins1 jdk_42_method_154_code 6 (.aload_n 0) 1 7 := ⟨by decide +kernel, rfl⟩
theorem i41_7 : Ins1 jdk_42_method_154_code 7 (.getfield 15) 3 10 := ⟨by decide +kernel, rfl⟩
theorem i41_10 : InsB jdk_42_method_154_code 10 (.ifCond .ne 7) 7 13 17 := ⟨by decide +kernel, rfl, by decide, by decide⟩
theorem i41_13 : Ins1 jdk_42_method_154_code 13 (.iconst 1) 1 14 := ⟨by decide +kernel, rfl⟩
theorem i41_14 : InsB jdk_42_method_154_code 14 (.goto 4) 4 17 18 := ⟨by decide +kernel, rfl, by decide, by decide⟩
theorem i41_17 : Ins1 jdk_42_method_154_code 17 (.iconst 0) 1 18 := ⟨by decide +kernel, rfl⟩
theorem i41_18 : Ins1 jdk_42_method_154_code 18 (.ireturn) 1 19 := ⟨by decide +kernel, rfl⟩
theorem ef_41 (m : MethodId) (a : Addr) : entryFrame m #[(.ref a)] 1 = mkF m 0 #[.val (.ref a)] [] := by first | (simp [entryFrame, mkF, argsToLocals, Value.category]; done) | rfl
set_option maxRecDepth 65536 in
set_option maxHeartbeats 40000000 in
theorem rm41 (l : Launch) (Z : State) (a0 : Array Value) (hw : ∀ d ∈ tables_1, d.before a0 Z = true) (ws : List Jvm.Cond) (a : Addr) (cz : Int32)  (h0 : Heap) (n0 : Nat) (Z0 : n0 ≤ h0.size) (S0 : Sta Z Z.heap "java/lang/String" "COMPACT_STRINGS" "Z" (.int cz)) (hcz : ¬ cz = (0 : Int32)) (O : Old Z n0 h0) (FC : Fld Z h0 a "java/lang/String" "coder" "B" (.int 0)) :
    Met1 l (⟨"java/lang/String", "isLatin1", "()Z"⟩ : MethodName) jdk_42_method_154_code 1 (some .boolean) ws ({ frames := 0, cells := 0, slots := 0, locals := 0 } : Room) #[(.ref a)] Z h0 (RV fun vv h L => vv = .int 1 ∧ h = h0 ∧ Fr n0 L) := by
  refine met_of (plainFor_of_name pn_java_lang_String) ?_
  intro p e s m below meth c T0 X0 hx hby hml hZ hown hnm hret hlk e0 es
  have N0 := Fr.nil n0
  refine Gd.cast (ef_41 m a) ?_
  refine g_getstatic X0 hx hby hZ hown (host := "") (Or.inl (hw _ (List.mem_of_getElem? (i := 34) rfl))) Via.refl e0 (S0.ext O.2) i41_0 fun T1 X1 e1 => ?_
  refine g_if_eq X1 hx hby i41_3 (fun c3_2 => False.elim (hcz c3_2)) fun c3_2 => ?_
  refine g_aloadN X1 hx hby i41_6 rfl rfl ?_
  refine g_getfield X1 hx hby hZ hown (host := "") (Or.inl (hw _ (List.mem_of_getElem? (i := 51) rfl))) Via.refl e1 FC i41_7 fun T3 X3 e3 => ?_
  refine g_if_ne X3 hx hby i41_10 (fun c10_4 => False.elim (absurd c10_4 (by decide))) fun c10_4 => ?_
  refine g_iconst X3 hx hby i41_13 (z := (1 : Int32)) (by decide) ?_
  refine g_goto X3 hx hby i41_14 ?_
  refine g_ireturnN X3 hx hby (ty := .boolean) hret (by simp) hlk i41_18 (by decide) (by decide) ?_
  exact ⟨_, rfl, rfl, e3, N0⟩
theorem i12_0 : Ins1 jdk_42_method_54_code 0 (.aload_n 0) 1 1 := ⟨by decide +kernel, rfl⟩
theorem i12_1 : Ins1 jdk_42_method_54_code 1 (.getfield 9) 3 4 := ⟨by decide +kernel, rfl⟩
theorem i12_4 : Ins1 jdk_42_method_54_code 4 (.arraylength) 1 5 := ⟨by decide +kernel, rfl⟩
theorem i12_5 : Ins1 jdk_42_method_54_code 5 (.aload_n 0) 1 6 := ⟨by decide +kernel, rfl⟩
theorem i12_6 : Ins1 jdk_42_method_54_code 6 (.invokevirtual 335) 3 9 := ⟨by decide +kernel, rfl⟩
theorem i12_9 : Ins1 jdk_42_method_54_code 9 (.ishr) 1 10 := ⟨by decide +kernel, rfl⟩
theorem i12_10 : Ins1 jdk_42_method_54_code 10 (.ireturn) 1 11 := ⟨by decide +kernel, rfl⟩
theorem ef_12 (m : MethodId) (a : Addr) : entryFrame m #[(.ref a)] 1 = mkF m 0 #[.val (.ref a)] [] := by first | (simp [entryFrame, mkF, argsToLocals, Value.category]; done) | rfl
theorem pd_3 : parseMethodDescriptor "()B" = some ⟨[], some .byte⟩ := by decide +kernel
set_option maxRecDepth 65536 in
set_option maxHeartbeats 40000000 in
theorem rm12 (l : Launch) (Z : State) (a0 : Array Value) (hw : ∀ d ∈ tables_1, d.before a0 Z = true) (ws : List Jvm.Cond) (a : Addr) (cz : Int32) (b : Addr) (kc : ClassId) (z : Int32) (vs : List Value) (h0 : Heap) (n0 : Nat) (Z0 : n0 ≤ h0.size) (S0 : Sta Z Z.heap "java/lang/String" "COMPACT_STRINGS" "Z" (.int cz)) (hcz : ¬ cz = (0 : Int32)) (O : Old Z n0 h0) (E : Exa Z h0 a "java/lang/String") (FV : Fld Z h0 a "java/lang/String" "value" "[B" (.ref b)) (FC : Fld Z h0 a "java/lang/String" "coder" "B" (.int 0)) (V : Arv Z h0 b kc .byte z vs (.int (0 : Int32))) :
    Met1 l (⟨"java/lang/String", "length", "()I"⟩ : MethodName) jdk_42_method_54_code 1 (some .int) ws ({ frames := 1, cells := 0, slots := 0, locals := 13 } : Room) #[(.ref a)] Z h0 (RV fun vv h L => vv = .int z ∧ h = h0 ∧ Fr n0 L) := by
  refine met_of (plainFor_of_name pn_java_lang_String) ?_
  intro p e s m below meth c T0 X0 hx hby hml hZ hown hnm hret hlk e0 es
  have N0 := Fr.nil n0
  refine Gd.cast (ef_12 m a) ?_
  refine g_aloadN X0 hx hby i12_0 rfl rfl ?_
  refine g_getfield X0 hx hby hZ hown (host := "") (Or.inl (hw _ (List.mem_of_getElem? (i := 49) rfl))) Via.refl e0 FV i12_1 fun T1 X1 e1 => ?_
  refine g_arraylength X1 hx hby hZ e1 V i12_4 ?_
  refine g_aloadN X1 hx hby i12_5 rfl rfl ?_
  refine g_callV0 X1 hx hby hZ (y0 := (⟨"java/lang/String", "coder", "()B"⟩ : MethodName)) (y := (⟨"java/lang/String", "coder", "()B"⟩ : MethodName)) (argsL := []) (rest := [(.int z)]) hown (hw _ (List.mem_of_getElem? (i := 73) rfl)) (hw _ (List.mem_of_getElem? (i := 74) rfl)) (notFace_of_selects (args := #[]) (mvT hZ (hw _ (List.mem_of_getElem? (i := 76) rfl)))) (hw _ (List.mem_of_getElem? (i := 76) rfl)) (hw _ (List.mem_of_getElem? (i := 75) rfl)) (hw _ (List.mem_of_getElem? (i := 23) rfl)) (hw _ (List.mem_of_getElem? (i := 77) rfl)) (by decide) (a := a) E (rm13 l Z a0 hw [] a cz  h0 n0 Z0 S0 hcz O FC) e1 (by rw [hml]; rfl) pd_3 rfl rfl i12_6 (by decide) 1 rfl (by decide) (by decide) (by decide) fun T2 v2 L2 X2 q2 => ?_
  obtain ⟨_, rfl, rfl, e2, N2⟩ := q2
  have N0 := Fr.app N0 N2
  show Gd p e below _ T2 (mkF m 9 #[.val (.ref a)] [(.int (0 : Int32)), (.int z)])
  refine g_ishr X2 hx hby i12_9 ?_
  refine g_ireturn X2 hx hby hret hlk i12_10 (by decide) (by decide) ?_
  exact ⟨_, rfl, by rw [own_shr0], e2, N0⟩
theorem i14_0 : Ins1 jdk_68_method_9_code 0 (.aload_n 0) 1 1 := ⟨by decide +kernel, rfl⟩
theorem i14_1 : Ins1 jdk_68_method_9_code 1 (.getfield 15) 3 4 := ⟨by decide +kernel, rfl⟩
theorem i14_4 : Ins1 jdk_68_method_9_code 4 (.arraylength) 1 5 := ⟨by decide +kernel, rfl⟩
theorem i14_5 : Ins1 jdk_68_method_9_code 5 (.aload_n 0) 1 6 := ⟨by decide +kernel, rfl⟩
theorem i14_6 : Ins1 jdk_68_method_9_code 6 (.getfield 22) 3 9 := ⟨by decide +kernel, rfl⟩
theorem i14_9 : Ins1 jdk_68_method_9_code 9 (.ishr) 1 10 := ⟨by decide +kernel, rfl⟩
theorem i14_10 : Ins1 jdk_68_method_9_code 10 (.istore_n 2) 1 11 := ⟨by decide +kernel, rfl⟩
theorem i14_11 : Ins1 jdk_68_method_9_code 11 (.iload_n 1) 1 12 := ⟨by decide +kernel, rfl⟩
theorem i14_12 : Ins1 jdk_68_method_9_code 12 (.iload_n 2) 1 13 := ⟨by decide +kernel, rfl⟩
theorem i14_13 : Ins1 jdk_68_method_9_code 13 (.isub) 1 14 := ⟨by decide +kernel, rfl⟩
theorem i14_14 : InsB jdk_68_method_9_code 14 (.ifCond .le 24) 24 17 38 := ⟨by decide +kernel, rfl, by decide, by decide⟩
theorem i14_17 : Ins1 jdk_68_method_9_code 17 (.aload_n 0) 1 18 := ⟨by decide +kernel, rfl⟩
theorem i14_18 : Ins1 jdk_68_method_9_code 18 (.aload_n 0) 1 19 := ⟨by decide +kernel, rfl⟩
theorem i14_19 : Ins1 jdk_68_method_9_code 19 (.getfield 15) 3 22 := ⟨by decide +kernel, rfl⟩
theorem i14_22 : Ins1 jdk_68_method_9_code 22 (.aload_n 0) 1 23 := ⟨by decide +kernel, rfl⟩
theorem i14_23 : Ins1 jdk_68_method_9_code 23 (.iload_n 1) 1 24 := ⟨by decide +kernel, rfl⟩
theorem i14_24 : Ins1 jdk_68_method_9_code 24 (.invokevirtual 104) 3 27 := ⟨by decide +kernel, rfl⟩
theorem i14_27 : Ins1 jdk_68_method_9_code 27 (.aload_n 0) 1 28 := ⟨by decide +kernel, rfl⟩
theorem i14_28 : Ins1 jdk_68_method_9_code 28 (.getfield 22) 3 31 := ⟨by decide +kernel, rfl⟩
theorem i14_31 : Ins1 jdk_68_method_9_code 31 (.ishl) 1 32 := ⟨by decide +kernel, rfl⟩
theorem i14_32 : Ins1 jdk_68_method_9_code 32 (.invokestatic 108) 3 35 := ⟨by decide +kernel, rfl⟩
theorem i14_35 : Ins1 jdk_68_method_9_code 35 (.putfield 15) 3 38 := ⟨by decide +kernel, rfl⟩
theorem i14_38 : Ins1 jdk_68_method_9_code 38 (.return_) 1 39 := ⟨by decide +kernel, rfl⟩
theorem pn_java_lang_AbstractStringBuilder : plainName "java/lang/AbstractStringBuilder" = true := by first | (simp [plainName, overriddenIn]; done) | decide +kernel
theorem ef_14 (m : MethodId) (a : Addr) (p1 : Int32) : entryFrame m #[(.ref a), (.int p1)] 3 = mkF m 0 #[.val (.ref a), .val (.int p1), .unset] [] := by first | (simp [entryFrame, mkF, argsToLocals, Value.category]; done) | rfl
set_option maxRecDepth 65536 in
set_option maxHeartbeats 40000000 in
theorem rm14 (l : Launch) (Z : State) (a0 : Array Value) (hw : ∀ d ∈ tables_1, d.before a0 Z = true) (ws : List Jvm.Cond) (a : Addr) (p1 : Int32) (b : Addr) (kb : ClassId) (vd : List Value) (cn : Int32) (h0 : Heap) (n0 : Nat) (Z0 : n0 ≤ h0.size) (E : Exa Z h0 a "java/lang/StringBuilder") (FV : Fld Z h0 a "java/lang/AbstractStringBuilder" "value" "[B" (.ref b)) (FC : Fld Z h0 a "java/lang/AbstractStringBuilder" "coder" "B" (.int 0)) (FN : Fld Z h0 a "java/lang/AbstractStringBuilder" "count" "I" (.int cn)) (V : Arv Z h0 b kb .byte (16 : Int32) vd (.int (0 : Int32))) (hp0 : 0 ≤ p1.toInt) (hp1 : p1.toInt ≤ 16) :
    Met1 l (⟨"java/lang/AbstractStringBuilder", "ensureCapacityInternal", "(I)V"⟩ : MethodName) jdk_68_method_9_code 3 none ws ({ frames := 0, cells := 0, slots := 0, locals := 0 } : Room) #[(.ref a), (.int p1)] Z h0 (RN fun h L => h = h0 ∧ Fr n0 L) := by
  refine met_of (plainFor_of_name pn_java_lang_AbstractStringBuilder) ?_
  intro p e s m below meth c T0 X0 hx hby hml hZ hown hnm hret hlk e0 es
  have N0 := Fr.nil n0
  refine Gd.cast (ef_14 m a p1) ?_
  refine g_aloadN X0 hx hby i14_0 rfl rfl ?_
  refine g_getfield X0 hx hby hZ hown (host := "") (Or.inl (hw _ (List.mem_of_getElem? (i := 25) rfl))) Via.refl e0 FV i14_1 fun T1 X1 e1 => ?_
  refine g_arraylength X1 hx hby hZ e1 V i14_4 ?_
  refine g_aloadN X1 hx hby i14_5 rfl rfl ?_
  refine g_getfield X1 hx hby hZ hown (host := "") (Or.inl (hw _ (List.mem_of_getElem? (i := 27) rfl))) Via.refl e1 FC i14_6 fun T2 X2 e2 => ?_
  refine g_ishr X2 hx hby i14_9 ?_
  refine g_istoreNW X2 hx hby i14_10 (l' := fun v3 => #[.val (.ref a), .val (.int p1), .val (.int v3)]) (fun _ => rfl) fun v3 hv3 => ?_
  refine g_iloadN X2 hx hby i14_11 rfl ?_
  refine g_iloadN X2 hx hby i14_12 rfl ?_
  refine g_isub X2 hx hby i14_13 ?_
  refine g_if_le X2 hx hby i14_14 (fun c14_4 => ?_) (fun c14_4 => False.elim (own_cap hv3 hp0 hp1 c14_4))
  refine g_return X2 hx hby hret hlk i14_38 (by decide) (by decide) ?_
  exact ⟨rfl, e2, N0⟩
theorem i20_0 : Ins1 jdk_68_method_68_code 0 (.getstatic 18) 3 3 := ⟨by decide +kernel, rfl⟩
theorem i20_3 : InsB jdk_68_method_68_code 3 (.ifCond .eq 14) 14 6 17 := ⟨by decide +kernel, rfl, by decide, by decide⟩
theorem i20_6 : Ins1 jdk_68_method_68_code 6 (.aload_n 0) 1 7 := ⟨by decide +kernel, rfl⟩
theorem i20_7 : Ins1 jdk_68_method_68_code 7 (.getfield 22) 3 10 := ⟨by decide +kernel, rfl⟩
theorem i20_10 : InsB jdk_68_method_68_code 10 (.ifCond .ne 7) 7 13 17 := ⟨by decide +kernel, rfl, by decide, by decide⟩
theorem i20_13 : Ins1 jdk_68_method_68_code 13 (.iconst 1) 1 14 := ⟨by decide +kernel, rfl⟩
theorem i20_14 : InsB jdk_68_method_68_code 14 (.goto 4) 4 17 18 := ⟨by decide +kernel, rfl, by decide, by decide⟩
theorem i20_17 : Ins1 jdk_68_method_68_code 17 (.iconst 0) 1 18 := ⟨by decide +kernel, rfl⟩
theorem i20_18 : Ins1 jdk_68_method_68_code 18 (.ireturn) 1 19 := ⟨by decide +kernel, rfl⟩
theorem ef_20 (m : MethodId) (a : Addr) : entryFrame m #[(.ref a)] 1 = mkF m 0 #[.val (.ref a)] [] := by first | (simp [entryFrame, mkF, argsToLocals, Value.category]; done) | rfl
set_option maxRecDepth 65536 in
set_option maxHeartbeats 40000000 in
theorem rm20 (l : Launch) (Z : State) (a0 : Array Value) (hw : ∀ d ∈ tables_1, d.before a0 Z = true) (ws : List Jvm.Cond) (a : Addr) (cz : Int32) (b : Addr) (kb : ClassId) (vd : List Value) (cn : Int32) (h0 : Heap) (n0 : Nat) (Z0 : n0 ≤ h0.size) (S0 : Sta Z Z.heap "java/lang/String" "COMPACT_STRINGS" "Z" (.int cz)) (hcz : ¬ cz = (0 : Int32)) (O : Old Z n0 h0) (E : Exa Z h0 a "java/lang/StringBuilder") (FV : Fld Z h0 a "java/lang/AbstractStringBuilder" "value" "[B" (.ref b)) (FC : Fld Z h0 a "java/lang/AbstractStringBuilder" "coder" "B" (.int 0)) (FN : Fld Z h0 a "java/lang/AbstractStringBuilder" "count" "I" (.int cn)) (V : Arv Z h0 b kb .byte (16 : Int32) vd (.int (0 : Int32))) :
    Met1 l (⟨"java/lang/AbstractStringBuilder", "isLatin1", "()Z"⟩ : MethodName) jdk_68_method_68_code 1 (some .boolean) ws ({ frames := 0, cells := 0, slots := 0, locals := 0 } : Room) #[(.ref a)] Z h0 (RV fun vv h L => vv = .int 1 ∧ h = h0 ∧ Fr n0 L) := by
  refine met_of (plainFor_of_name pn_java_lang_AbstractStringBuilder) ?_
  intro p e s m below meth c T0 X0 hx hby hml hZ hown hnm hret hlk e0 es
  have N0 := Fr.nil n0
  refine Gd.cast (ef_20 m a) ?_
  refine g_getstatic X0 hx hby hZ hown (host := "") (Or.inl (hw _ (List.mem_of_getElem? (i := 22) rfl))) Via.refl e0 (S0.ext O.2) i20_0 fun T1 X1 e1 => ?_
  refine g_if_eq X1 hx hby i20_3 (fun c3_2 => False.elim (hcz c3_2)) fun c3_2 => ?_
  refine g_aloadN X1 hx hby i20_6 rfl rfl ?_
  refine g_getfield X1 hx hby hZ hown (host := "") (Or.inl (hw _ (List.mem_of_getElem? (i := 27) rfl))) Via.refl e1 FC i20_7 fun T3 X3 e3 => ?_
  refine g_if_ne X3 hx hby i20_10 (fun c10_4 => False.elim (absurd c10_4 (by decide))) fun c10_4 => ?_
  refine g_iconst X3 hx hby i20_13 (z := (1 : Int32)) (by decide) ?_
  refine g_goto X3 hx hby i20_14 ?_
  refine g_ireturnN X3 hx hby (ty := .boolean) hret (by simp) hlk i20_18 (by decide) (by decide) ?_
  exact ⟨_, rfl, rfl, e3, N0⟩
theorem i28_0 : Ins1 jdk_68_method_67_code 0 (.getstatic 18) 3 3 := ⟨by decide +kernel, rfl⟩
theorem i28_3 : InsB jdk_68_method_67_code 3 (.ifCond .eq 10) 10 6 13 := ⟨by decide +kernel, rfl, by decide, by decide⟩
theorem i28_6 : Ins1 jdk_68_method_67_code 6 (.aload_n 0) 1 7 := ⟨by decide +kernel, rfl⟩
theorem i28_7 : Ins1 jdk_68_method_67_code 7 (.getfield 22) 3 10 := ⟨by decide +kernel, rfl⟩
theorem i28_10 : InsB jdk_68_method_67_code 10 (.goto 4) 4 13 14 := ⟨by decide +kernel, rfl, by decide, by decide⟩
theorem i28_13 : Ins1 jdk_68_method_67_code 13 (.iconst 1) 1 14 := ⟨by decide +kernel, rfl⟩
theorem i28_14 : Ins1 jdk_68_method_67_code 14 (.ireturn) 1 15 := ⟨by decide +kernel, rfl⟩
theorem ef_28 (m : MethodId) (a : Addr) : entryFrame m #[(.ref a)] 1 = mkF m 0 #[.val (.ref a)] [] := by first | (simp [entryFrame, mkF, argsToLocals, Value.category]; done) | rfl
set_option maxRecDepth 65536 in
set_option maxHeartbeats 40000000 in
theorem rm28 (l : Launch) (Z : State) (a0 : Array Value) (hw : ∀ d ∈ tables_1, d.before a0 Z = true) (ws : List Jvm.Cond) (a : Addr) (cz : Int32) (b : Addr) (kb : ClassId) (vd : List Value) (cn : Int32) (h0 : Heap) (n0 : Nat) (Z0 : n0 ≤ h0.size) (S0 : Sta Z Z.heap "java/lang/String" "COMPACT_STRINGS" "Z" (.int cz)) (hcz : ¬ cz = (0 : Int32)) (O : Old Z n0 h0) (E : Exa Z h0 a "java/lang/StringBuilder") (FV : Fld Z h0 a "java/lang/AbstractStringBuilder" "value" "[B" (.ref b)) (FC : Fld Z h0 a "java/lang/AbstractStringBuilder" "coder" "B" (.int 0)) (FN : Fld Z h0 a "java/lang/AbstractStringBuilder" "count" "I" (.int cn)) (V : Arv Z h0 b kb .byte (16 : Int32) vd (.int (0 : Int32))) :
    Met1 l (⟨"java/lang/AbstractStringBuilder", "getCoder", "()B"⟩ : MethodName) jdk_68_method_67_code 1 (some .byte) ws ({ frames := 0, cells := 0, slots := 0, locals := 0 } : Room) #[(.ref a)] Z h0 (RV fun vv h L => vv = .int 0 ∧ h = h0 ∧ Fr n0 L) := by
  refine met_of (plainFor_of_name pn_java_lang_AbstractStringBuilder) ?_
  intro p e s m below meth c T0 X0 hx hby hml hZ hown hnm hret hlk e0 es
  have N0 := Fr.nil n0
  refine Gd.cast (ef_28 m a) ?_
  refine g_getstatic X0 hx hby hZ hown (host := "") (Or.inl (hw _ (List.mem_of_getElem? (i := 22) rfl))) Via.refl e0 (S0.ext O.2) i28_0 fun T1 X1 e1 => ?_
  refine g_if_eq X1 hx hby i28_3 (fun c3_2 => False.elim (hcz c3_2)) fun c3_2 => ?_
  refine g_aloadN X1 hx hby i28_6 rfl rfl ?_
  refine g_getfield X1 hx hby hZ hown (host := "") (Or.inl (hw _ (List.mem_of_getElem? (i := 27) rfl))) Via.refl e1 FC i28_7 fun T3 X3 e3 => ?_
  refine g_goto X3 hx hby i28_10 ?_
  refine g_ireturnN X3 hx hby (ty := .byte) hret (by simp) hlk i28_14 (by decide) (by decide) ?_
  exact ⟨_, rfl, rfl, e3, N0⟩
theorem i26_0 : Ins1 jdk_68_method_6_code 0 (.aload_n 0) 1 1 := ⟨by decide +kernel, rfl⟩
theorem i26_1 : Ins1 jdk_68_method_6_code 1 (.getfield 79) 3 4 := ⟨by decide +kernel, rfl⟩
theorem i26_4 : Ins1 jdk_68_method_6_code 4 (.ireturn) 1 5 := ⟨by decide +kernel, rfl⟩
theorem ef_26 (m : MethodId) (a : Addr) : entryFrame m #[(.ref a)] 1 = mkF m 0 #[.val (.ref a)] [] := by first | (simp [entryFrame, mkF, argsToLocals, Value.category]; done) | rfl
set_option maxRecDepth 65536 in
set_option maxHeartbeats 40000000 in
theorem rm26 (l : Launch) (Z : State) (a0 : Array Value) (hw : ∀ d ∈ tables_1, d.before a0 Z = true) (ws : List Jvm.Cond) (a : Addr) (b : Addr) (kb : ClassId) (vd : List Value) (cn : Int32) (h0 : Heap) (n0 : Nat) (Z0 : n0 ≤ h0.size) (E : Exa Z h0 a "java/lang/StringBuilder") (FV : Fld Z h0 a "java/lang/AbstractStringBuilder" "value" "[B" (.ref b)) (FC : Fld Z h0 a "java/lang/AbstractStringBuilder" "coder" "B" (.int 0)) (FN : Fld Z h0 a "java/lang/AbstractStringBuilder" "count" "I" (.int cn)) (V : Arv Z h0 b kb .byte (16 : Int32) vd (.int (0 : Int32))) :
    Met1 l (⟨"java/lang/AbstractStringBuilder", "length", "()I"⟩ : MethodName) jdk_68_method_6_code 1 (some .int) ws ({ frames := 0, cells := 0, slots := 0, locals := 0 } : Room) #[(.ref a)] Z h0 (RV fun vv h L => vv = .int cn ∧ h = h0 ∧ Fr n0 L) := by
  refine met_of (plainFor_of_name pn_java_lang_AbstractStringBuilder) ?_
  intro p e s m below meth c T0 X0 hx hby hml hZ hown hnm hret hlk e0 es
  have N0 := Fr.nil n0
  refine Gd.cast (ef_26 m a) ?_
  refine g_aloadN X0 hx hby i26_0 rfl rfl ?_
  refine g_getfield X0 hx hby hZ hown (host := "") (Or.inl (hw _ (List.mem_of_getElem? (i := 78) rfl))) Via.refl e0 FN i26_1 fun T1 X1 e1 => ?_
  refine g_ireturn X1 hx hby hret hlk i26_4 (by decide) (by decide) ?_
  exact ⟨_, rfl, rfl, e1, N0⟩
theorem i17_0 : Ins1 jdk_42_method_147_code 0 (.aload_n 0) 1 1 := ⟨by decide +kernel, rfl⟩
theorem i17_1 : Ins1 jdk_42_method_147_code 1 (.invokevirtual 335) 3 4 := ⟨by decide +kernel, rfl⟩
theorem i17_4 : Ins1 jdk_42_method_147_code 4 (.iload_n 3) 1 5 := ⟨by decide +kernel, rfl⟩
theorem i17_5 : InsB jdk_42_method_147_code 5 (.if_icmp .ne 23) 23 8 28 := ⟨by decide +kernel, rfl, by decide, by decide⟩
theorem i17_8 : Ins1 jdk_42_method_147_code 8 (.aload_n 0) 1 9 := ⟨by decide +kernel, rfl⟩
theorem i17_9 : Ins1 jdk_42_method_147_code 9 (.getfield 9) 3 12 := ⟨by decide +kernel, rfl⟩
theorem i17_12 : Ins1 jdk_42_method_147_code 12 (.iconst 0) 1 13 := ⟨by decide +kernel, rfl⟩
theorem i17_13 : Ins1 jdk_42_method_147_code 13 (.aload_n 1) 1 14 := ⟨by decide +kernel, rfl⟩
theorem i17_14 : Ins1 jdk_42_method_147_code 14 (.iload_n 2) 1 15 := ⟨by decide +kernel, rfl⟩
theorem i17_15 : Ins1 jdk_42_method_147_code 15 (.iload_n 3) 1 16 := ⟨by decide +kernel, rfl⟩
theorem i17_16 : Ins1 jdk_42_method_147_code 16 (.ishl) 1 17 := ⟨by decide +kernel, rfl⟩
theorem i17_17 : Ins1 jdk_42_method_147_code 17 (.aload_n 0) 1 18 := ⟨by decide +kernel, rfl⟩
theorem i17_18 : Ins1 jdk_42_method_147_code 18 (.getfield 9) 3 21 := ⟨by decide +kernel, rfl⟩
theorem i17_21 : Ins1 jdk_42_method_147_code 21 (.arraylength) 1 22 := ⟨by decide +kernel, rfl⟩
theorem i17_22 : Ins1 jdk_42_method_147_code 22 (.invokestatic 212) 3 25 := ⟨by decide +kernel, rfl⟩
theorem i17_25 : InsB jdk_42_method_147_code 25 (.goto 18) 18 28 43 := ⟨by decide +kernel, rfl, by decide, by decide⟩
theorem i17_28 : Ins1 jdk_42_method_147_code 28 (.aload_n 0) 1 29 := ⟨by decide +kernel, rfl⟩
theorem i17_29 : Ins1 jdk_42_method_147_code 29 (.getfield 9) 3 32 := ⟨by decide +kernel, rfl⟩
theorem i17_32 : Ins1 jdk_42_method_147_code 32 (.iconst 0) 1 33 := ⟨by decide +kernel, rfl⟩
theorem i17_33 : Ins1 jdk_42_method_147_code 33 (.aload_n 1) 1 34 := ⟨by decide +kernel, rfl⟩
theorem i17_34 : Ins1 jdk_42_method_147_code 34 (.iload_n 2) 1 35 := ⟨by decide +kernel, rfl⟩
theorem i17_35 : Ins1 jdk_42_method_147_code 35 (.aload_n 0) 1 36 := ⟨by decide +kernel, rfl⟩
theorem i17_36 : Ins1 jdk_42_method_147_code 36 (.getfield 9) 3 39 := ⟨by decide +kernel, rfl⟩
theorem i17_39 : Ins1 jdk_42_method_147_code 39 (.arraylength) 1 40 := ⟨by decide +kernel, rfl⟩
theorem i17_40 : Ins1 jdk_42_method_147_code 40 (.invokestatic 106) 3 43 := ⟨by decide +kernel, rfl⟩
theorem i17_43 : Ins1 jdk_42_method_147_code 43 (.return_) 1 44 := ⟨by decide +kernel, rfl⟩
theorem ef_17 (m : MethodId) (a : Addr) (d : Addr) (p2 : Int32) (p3 : Int32) : entryFrame m #[(.ref a), (.ref d), (.int p2), (.int p3)] 4 = mkF m 0 #[.val (.ref a), .val (.ref d), .val (.int p2), .val (.int p3)] [] := by first | (simp [entryFrame, mkF, argsToLocals, Value.category]; done) | rfl
set_option maxRecDepth 65536 in
set_option maxHeartbeats 40000000 in
theorem rm17 (l : Launch) (Z : State) (a0 : Array Value) (hw : ∀ d ∈ tables_1, d.before a0 Z = true) (ws : List Jvm.Cond) (a : Addr) (d : Addr) (p2 : Int32) (p3 : Int32) (cz : Int32) (b : Addr) (kc : ClassId) (z : Int32) (vs : List Value) (kd : ClassId) (vd : List Value) (i zn : Nat) (h0 : Heap) (n0 : Nat) (Z0 : n0 ≤ h0.size) (S0 : Sta Z Z.heap "java/lang/String" "COMPACT_STRINGS" "Z" (.int cz)) (hcz : ¬ cz = (0 : Int32)) (O : Old Z n0 h0) (E : Exa Z h0 a "java/lang/String") (FV : Fld Z h0 a "java/lang/String" "value" "[B" (.ref b)) (FC : Fld Z h0 a "java/lang/String" "coder" "B" (.int 0)) (V : Arv Z h0 b kc .byte z vs (.int (0 : Int32))) (Vd : Arv Z h0 d kd .byte (16 : Int32) vd (.int (0 : Int32))) (g_d : n0 ≤ d) (hbd : b ≠ d) (hp3 : p3 = 0) (hi0 : ¬ p2 < 0) (hi : p2.toNatClampNeg = i) (hz0 : ¬ z < 0) (hzn : z.toNatClampNeg = zn) (hle : i + zn ≤ 16) (hvl : vd.length = 16) :
    Met1 l (⟨"java/lang/String", "getBytes", "([BIB)V"⟩ : MethodName) jdk_42_method_147_code 4 none ws ({ frames := 1, cells := 0, slots := 0, locals := 18 } : Room) #[(.ref a), (.ref d), (.int p2), (.int p3)] Z h0 (RN fun h L => Keep h0 h [d] ∧ Arv Z h d kd .byte (16 : Int32) (own_put vd i zn vs) (.int (0 : Int32)) ∧ Fr n0 L) := by
  refine met_of (plainFor_of_name pn_java_lang_String) ?_
  intro p e s m below meth c T0 X0 hx hby hml hZ hown hnm hret hlk e0 es
  have N0 := Fr.nil n0
  refine Gd.cast (ef_17 m a d p2 p3) ?_
  subst hp3
  have K0 : Keep h0 h0 [d] := Keep.refl _ _
  refine g_aloadN X0 hx hby i17_0 rfl rfl ?_
  refine g_callV0 X0 hx hby hZ (y0 := (⟨"java/lang/String", "coder", "()B"⟩ : MethodName)) (y := (⟨"java/lang/String", "coder", "()B"⟩ : MethodName)) (argsL := []) (rest := []) hown (hw _ (List.mem_of_getElem? (i := 73) rfl)) (hw _ (List.mem_of_getElem? (i := 74) rfl)) (notFace_of_selects (args := #[]) (mvT hZ (hw _ (List.mem_of_getElem? (i := 76) rfl)))) (hw _ (List.mem_of_getElem? (i := 76) rfl)) (hw _ (List.mem_of_getElem? (i := 75) rfl)) (hw _ (List.mem_of_getElem? (i := 23) rfl)) (hw _ (List.mem_of_getElem? (i := 77) rfl)) (by decide) (a := a) E (rm13 l Z a0 hw [] a cz  h0 n0 Z0 S0 hcz O FC) e0 (by rw [hml]; rfl) pd_3 rfl rfl i17_1 (by decide) 0 rfl (by decide) (by decide) (by decide) fun T1 v1 L1 X1 q1 => ?_
  obtain ⟨_, rfl, rfl, e1, N1⟩ := q1
  have N0 := Fr.app N0 N1
  show Gd p e below _ T1 (mkF m 4 #[.val (.ref a), .val (.ref d), .val (.int p2), .val (.int (0 : Int32))] [(.int (0 : Int32))])
  refine g_iloadN X1 hx hby i17_4 rfl ?_
  refine g_icmp_ne X1 hx hby i17_5 (fun c5_2 => False.elim (absurd c5_2 (by decide))) fun c5_2 => ?_
  refine g_aloadN X1 hx hby i17_8 rfl rfl ?_
  refine g_getfield X1 hx hby hZ hown (host := "") (Or.inl (hw _ (List.mem_of_getElem? (i := 49) rfl))) Via.refl e1 FV i17_9 fun T3 X3 e3 => ?_
  refine g_iconst X3 hx hby i17_12 (z := (0 : Int32)) (by decide) ?_
  refine g_aloadN X3 hx hby i17_13 rfl rfl ?_
  refine g_iloadN X3 hx hby i17_14 rfl ?_
  refine g_iloadN X3 hx hby i17_15 rfl ?_
  refine g_ishl X3 hx hby i17_16 ?_
  rw [own_shl0 p2]
  refine g_aloadN X3 hx hby i17_17 rfl rfl ?_
  refine g_getfield X3 hx hby hZ hown (host := "") (Or.inl (hw _ (List.mem_of_getElem? (i := 49) rfl))) Via.refl e3 FV i17_18 fun T4 X4 e4 => ?_
  refine g_arraylength X4 hx hby hZ e4 V i17_21 ?_
  refine g_arraycopy X4 hx hby hZ hown (hw _ (List.mem_of_getElem? (i := 101) rfl)) (hw _ (List.mem_of_getElem? (i := 104) rfl)) (hw _ (List.mem_of_getElem? (i := 102) rfl)) (hw _ (List.mem_of_getElem? (i := 103) rfl)) e4 V Vd rfl (by decide) hi0 hz0 (by rw [hzn]; exact Nat.le_of_eq (own_0 zn)) (by rw [hi, hzn]; exact hle) (us := own_us zn vs) (by rw [hzn]; exact own_us0 zn vs) (by rw [hi, hzn, hvl]; exact hle) N0 g_d (by rw [hml]; rfl) i17_22 (by decide) 0 rfl (by decide) fun T5 h5 L5 X5 e5 N0 K5 V5 => ?_
  have K0 := K0.trans K5 (fun x hx => Or.inl hx)
  have E := E.keep K5
  have V := V.keep K5 (ninS hbd nin0)
  have O := O.keep K5 (allS g_d all0)
  have Z0 : n0 ≤ h5.size := Nat.le_trans Z0 K5.1
  rw [hi, hzn] at V5
  show Gd p e below _ T5 (mkF m 25 #[.val (.ref a), .val (.ref d), .val (.int p2), .val (.int (0 : Int32))] [])
  refine g_goto X5 hx hby i17_25 ?_
  refine g_return X5 hx hby hret hlk i17_43 (by decide) (by decide) ?_
  rw [e5]
  exact ⟨rfl, K0, V5, N0⟩
theorem i16_0 : Ins1 jdk_68_method_71_code 0 (.getstatic 18) 3 3 := ⟨by decide +kernel, rfl⟩
theorem i16_3 : InsB jdk_68_method_71_code 3 (.ifCond .eq 18) 18 6 21 := ⟨by decide +kernel, rfl, by decide, by decide⟩
theorem i16_6 : Ins1 jdk_68_method_71_code 6 (.aload_n 0) 1 7 := ⟨by decide +kernel, rfl⟩
theorem i16_7 : Ins1 jdk_68_method_71_code 7 (.getfield 22) 3 10 := ⟨by decide +kernel, rfl⟩
theorem i16_10 : Ins1 jdk_68_method_71_code 10 (.aload_n 1) 1 11 := ⟨by decide +kernel, rfl⟩
theorem i16_11 : Ins1 jdk_68_method_71_code 11 (.invokevirtual 40) 3 14 := ⟨by decide +kernel, rfl⟩
theorem i16_14 : InsB jdk_68_method_71_code 14 (.if_icmp .eq 7) 7 17 21 := ⟨by decide +kernel, rfl, by decide, by decide⟩
theorem i16_17 : Ins1 jdk_68_method_71_code 17 (.aload_n 0) 1 18 := ⟨by decide +kernel, rfl⟩
theorem i16_18 : Ins1 jdk_68_method_71_code 18 (.invokevirtual 195) 3 21 := ⟨by decide +kernel, rfl⟩
theorem i16_21 : Ins1 jdk_68_method_71_code 21 (.return_) 1 22 := ⟨by decide +kernel, rfl⟩
theorem ef_16 (m : MethodId) (a : Addr) (o : Addr) : entryFrame m #[(.ref a), (.ref o)] 2 = mkF m 0 #[.val (.ref a), .val (.ref o)] [] := by first | (simp [entryFrame, mkF, argsToLocals, Value.category]; done) | rfl
set_option maxRecDepth 65536 in
set_option maxHeartbeats 40000000 in
theorem rm16 (l : Launch) (Z : State) (a0 : Array Value) (hw : ∀ d ∈ tables_1, d.before a0 Z = true) (ws : List Jvm.Cond) (a : Addr) (o : Addr) (cz : Int32) (b : Addr) (kb : ClassId) (vd : List Value) (cn : Int32) (ob : Addr) (ko : ClassId) (z : Int32) (vs : List Value) (h0 : Heap) (n0 : Nat) (Z0 : n0 ≤ h0.size) (S0 : Sta Z Z.heap "java/lang/String" "COMPACT_STRINGS" "Z" (.int cz)) (hcz : ¬ cz = (0 : Int32)) (O : Old Z n0 h0) (E : Exa Z h0 a "java/lang/StringBuilder") (FV : Fld Z h0 a "java/lang/AbstractStringBuilder" "value" "[B" (.ref b)) (FC : Fld Z h0 a "java/lang/AbstractStringBuilder" "coder" "B" (.int 0)) (FN : Fld Z h0 a "java/lang/AbstractStringBuilder" "count" "I" (.int cn)) (V : Arv Z h0 b kb .byte (16 : Int32) vd (.int (0 : Int32))) (Es : Exa Z h0 o "java/lang/String") (FVs : Fld Z h0 o "java/lang/String" "value" "[B" (.ref ob)) (FCs : Fld Z h0 o "java/lang/String" "coder" "B" (.int 0)) (Vs : Arv Z h0 ob ko .byte z vs (.int (0 : Int32))) :
    Met1 l (⟨"java/lang/AbstractStringBuilder", "inflateIfNeededFor", "(Ljava/lang/String;)V"⟩ : MethodName) jdk_68_method_71_code 2 none ws ({ frames := 1, cells := 0, slots := 0, locals := 13 } : Room) #[(.ref a), (.ref o)] Z h0 (RN fun h L => h = h0 ∧ Fr n0 L) := by
  refine met_of (plainFor_of_name pn_java_lang_AbstractStringBuilder) ?_
  intro p e s m below meth c T0 X0 hx hby hml hZ hown hnm hret hlk e0 es
  have N0 := Fr.nil n0
  refine Gd.cast (ef_16 m a o) ?_
  refine g_getstatic X0 hx hby hZ hown (host := "") (Or.inl (hw _ (List.mem_of_getElem? (i := 22) rfl))) Via.refl e0 (S0.ext O.2) i16_0 fun T1 X1 e1 => ?_
  refine g_if_eq X1 hx hby i16_3 (fun c3_2 => False.elim (hcz c3_2)) fun c3_2 => ?_
  refine g_aloadN X1 hx hby i16_6 rfl rfl ?_
  refine g_getfield X1 hx hby hZ hown (host := "") (Or.inl (hw _ (List.mem_of_getElem? (i := 27) rfl))) Via.refl e1 FC i16_7 fun T3 X3 e3 => ?_
  refine g_aloadN X3 hx hby i16_10 rfl rfl ?_
  refine g_callV0 X3 hx hby hZ (y0 := (⟨"java/lang/String", "coder", "()B"⟩ : MethodName)) (y := (⟨"java/lang/String", "coder", "()B"⟩ : MethodName)) (argsL := []) (rest := [(.int (0 : Int32))]) hown (hw _ (List.mem_of_getElem? (i := 95) rfl)) (hw _ (List.mem_of_getElem? (i := 74) rfl)) (notFace_of_selects (args := #[]) (mvT hZ (hw _ (List.mem_of_getElem? (i := 76) rfl)))) (hw _ (List.mem_of_getElem? (i := 76) rfl)) (hw _ (List.mem_of_getElem? (i := 75) rfl)) (hw _ (List.mem_of_getElem? (i := 23) rfl)) (hw _ (List.mem_of_getElem? (i := 77) rfl)) (by decide) (a := o) Es (rm13 l Z a0 hw [] o cz  h0 n0 Z0 S0 hcz O FCs) e3 (by rw [hml]; rfl) pd_3 rfl rfl i16_11 (by decide) 1 rfl (by decide) (by decide) (by decide) fun T4 v4 L4 X4 q4 => ?_
  obtain ⟨_, rfl, rfl, e4, N4⟩ := q4
  have N0 := Fr.app N0 N4
  show Gd p e below _ T4 (mkF m 14 #[.val (.ref a), .val (.ref o)] [(.int (0 : Int32)), (.int (0 : Int32))])
  refine g_icmp_eq X4 hx hby i16_14 (fun c14_5 => ?_) (fun c14_5 => False.elim (absurd c14_5 (by decide)))
  refine g_return X4 hx hby hret hlk i16_21 (by decide) (by decide) ?_
  exact ⟨rfl, e4, N0⟩
theorem i15_0 : Ins1 jdk_68_method_73_code 0 (.aload_n 0) 1 1 := ⟨by decide +kernel, rfl⟩
theorem i15_1 : Ins1 jdk_68_method_73_code 1 (.aload_n 2) 1 2 := ⟨by decide +kernel, rfl⟩
theorem i15_2 : Ins1 jdk_68_method_73_code 2 (.invokevirtual 397) 3 5 := ⟨by decide +kernel, rfl⟩
theorem i15_5 : Ins1 jdk_68_method_73_code 5 (.aload_n 2) 1 6 := ⟨by decide +kernel, rfl⟩
theorem i15_6 : Ins1 jdk_68_method_73_code 6 (.aload_n 0) 1 7 := ⟨by decide +kernel, rfl⟩
theorem i15_7 : Ins1 jdk_68_method_73_code 7 (.getfield 15) 3 10 := ⟨by decide +kernel, rfl⟩
theorem i15_10 : Ins1 jdk_68_method_73_code 10 (.iload_n 1) 1 11 := ⟨by decide +kernel, rfl⟩
theorem i15_11 : Ins1 jdk_68_method_73_code 11 (.aload_n 0) 1 12 := ⟨by decide +kernel, rfl⟩
theorem i15_12 : Ins1 jdk_68_method_73_code 12 (.getfield 22) 3 15 := ⟨by decide +kernel, rfl⟩
theorem i15_15 : Ins1 jdk_68_method_73_code 15 (.invokevirtual 399) 3 18 := ⟨by decide +kernel, rfl⟩
theorem i15_18 : Ins1 jdk_68_method_73_code 18 (.return_) 1 19 := ⟨by decide +kernel, rfl⟩
theorem ef_15 (m : MethodId) (a : Addr) (p1 : Int32) (o : Addr) : entryFrame m #[(.ref a), (.int p1), (.ref o)] 3 = mkF m 0 #[.val (.ref a), .val (.int p1), .val (.ref o)] [] := by first | (simp [entryFrame, mkF, argsToLocals, Value.category]; done) | rfl
theorem pd_4 : parseMethodDescriptor "(Ljava/lang/String;)V" = some ⟨[(.object "java/lang/String")], none⟩ := by decide +kernel
theorem pd_5 : parseMethodDescriptor "([BIB)V" = some ⟨[(.array .byte), .int, .byte], none⟩ := by decide +kernel
set_option maxRecDepth 65536 in
set_option maxHeartbeats 40000000 in
theorem rm15 (l : Launch) (Z : State) (a0 : Array Value) (hw : ∀ d ∈ tables_1, d.before a0 Z = true) (ws : List Jvm.Cond) (a : Addr) (p1 : Int32) (o : Addr) (cz : Int32) (b : Addr) (kb : ClassId) (vd : List Value) (cn : Int32) (ob : Addr) (ko : ClassId) (z : Int32) (vs : List Value) (i zn : Nat) (h0 : Heap) (n0 : Nat) (Z0 : n0 ≤ h0.size) (S0 : Sta Z Z.heap "java/lang/String" "COMPACT_STRINGS" "Z" (.int cz)) (hcz : ¬ cz = (0 : Int32)) (O : Old Z n0 h0) (E : Exa Z h0 a "java/lang/StringBuilder") (FV : Fld Z h0 a "java/lang/AbstractStringBuilder" "value" "[B" (.ref b)) (FC : Fld Z h0 a "java/lang/AbstractStringBuilder" "coder" "B" (.int 0)) (FN : Fld Z h0 a "java/lang/AbstractStringBuilder" "count" "I" (.int cn)) (V : Arv Z h0 b kb .byte (16 : Int32) vd (.int (0 : Int32))) (Es : Exa Z h0 o "java/lang/String") (FVs : Fld Z h0 o "java/lang/String" "value" "[B" (.ref ob)) (FCs : Fld Z h0 o "java/lang/String" "coder" "B" (.int 0)) (Vs : Arv Z h0 ob ko .byte z vs (.int (0 : Int32))) (g_b : n0 ≤ b) (hob : ob ≠ b) (hi0 : ¬ p1 < 0) (hi : p1.toNatClampNeg = i) (hz0 : ¬ z < 0) (hzn : z.toNatClampNeg = zn) (hle : i + zn ≤ 16) (hvl : vd.length = 16) :
    Met1 l (⟨"java/lang/AbstractStringBuilder", "putStringAt", "(ILjava/lang/String;)V"⟩ : MethodName) jdk_68_method_73_code 3 none ws ({ frames := 2, cells := 0, slots := 0, locals := 33 } : Room) #[(.ref a), (.int p1), (.ref o)] Z h0 (RN fun h L => Keep h0 h [b] ∧ Arv Z h b kb .byte (16 : Int32) (own_put vd i zn vs) (.int (0 : Int32)) ∧ Fr n0 L) := by
  refine met_of (plainFor_of_name pn_java_lang_AbstractStringBuilder) ?_
  intro p e s m below meth c T0 X0 hx hby hml hZ hown hnm hret hlk e0 es
  have N0 := Fr.nil n0
  refine Gd.cast (ef_15 m a p1 o) ?_
  have K0 : Keep h0 h0 [b] := Keep.refl _ _
  refine g_aloadN X0 hx hby i15_0 rfl rfl ?_
  refine g_aloadN X0 hx hby i15_1 rfl rfl ?_
  refine g_callV0 X0 hx hby hZ (y0 := (⟨"java/lang/AbstractStringBuilder", "inflateIfNeededFor", "(Ljava/lang/String;)V"⟩ : MethodName)) (y := (⟨"java/lang/AbstractStringBuilder", "inflateIfNeededFor", "(Ljava/lang/String;)V"⟩ : MethodName)) (argsL := [(.ref o)]) (rest := []) hown (hw _ (List.mem_of_getElem? (i := 90) rfl)) (own_decl (hw _ (List.mem_of_getElem? (i := 91) rfl)) (hw _ (List.mem_of_getElem? (i := 94) rfl))) (notFace_of_selects (args := #[]) (mvT hZ (hw _ (List.mem_of_getElem? (i := 93) rfl)))) (hw _ (List.mem_of_getElem? (i := 93) rfl)) (hw _ (List.mem_of_getElem? (i := 91) rfl)) (hw _ (List.mem_of_getElem? (i := 19) rfl)) (hw _ (List.mem_of_getElem? (i := 94) rfl)) (by decide) (a := a) E (rm16 l Z a0 hw [] a o cz b kb _ cn ob ko z _ h0 n0 Z0 S0 hcz O E FV FC FN V Es FVs FCs Vs) e0 (by rw [hml]; rfl) pd_4 rfl rfl i15_2 (by decide) 0 rfl (by decide) (by decide) (by decide) fun T1 v1 L1 X1 q1 => ?_
  obtain ⟨rfl, e1, N1⟩ := q1
  have N0 := Fr.app N0 N1
  show Gd p e below _ T1 (mkF m 5 #[.val (.ref a), .val (.int p1), .val (.ref o)] [])
  refine g_aloadN X1 hx hby i15_5 rfl rfl ?_
  refine g_aloadN X1 hx hby i15_6 rfl rfl ?_
  refine g_getfield X1 hx hby hZ hown (host := "") (Or.inl (hw _ (List.mem_of_getElem? (i := 25) rfl))) Via.refl e1 FV i15_7 fun T2 X2 e2 => ?_
  refine g_iloadN X2 hx hby i15_10 rfl ?_
  refine g_aloadN X2 hx hby i15_11 rfl rfl ?_
  refine g_getfield X2 hx hby hZ hown (host := "") (Or.inl (hw _ (List.mem_of_getElem? (i := 27) rfl))) Via.refl e2 FC i15_12 fun T3 X3 e3 => ?_
  refine g_callV0 X3 hx hby hZ (y0 := (⟨"java/lang/String", "getBytes", "([BIB)V"⟩ : MethodName)) (y := (⟨"java/lang/String", "getBytes", "([BIB)V"⟩ : MethodName)) (argsL := [(.ref b), (.int p1), (.int (0 : Int32))]) (rest := []) hown (hw _ (List.mem_of_getElem? (i := 96) rfl)) (hw _ (List.mem_of_getElem? (i := 97) rfl)) (notFace_of_selects (args := #[]) (mvT hZ (hw _ (List.mem_of_getElem? (i := 99) rfl)))) (hw _ (List.mem_of_getElem? (i := 99) rfl)) (hw _ (List.mem_of_getElem? (i := 98) rfl)) (hw _ (List.mem_of_getElem? (i := 23) rfl)) (hw _ (List.mem_of_getElem? (i := 100) rfl)) (by decide) (a := o) Es (rm17 l Z a0 hw [] o b p1 (0 : Int32) cz ob ko z _ kb _ i zn h0 n0 Z0 S0 hcz O Es FVs FCs Vs V g_b hob rfl hi0 hi hz0 hzn hle hvl) e3 (by rw [hml]; rfl) pd_5 rfl rfl i15_15 (by decide) 0 rfl (by decide) (by decide) (by decide) fun T4 v4 L4 X4 q4 => ?_
  obtain ⟨rfl, K4, V4, N4⟩ := q4
  have N0 := Fr.app N0 N4
  have K0 := K0.trans K4 (fun x hx => Or.inl hx)
  have E := E.keep K4
  have Es := Es.keep K4
  have Vs := Vs.keep K4 (ninS hob nin0)
  have O := O.keep K4 (allS g_b all0)
  have Z0 : n0 ≤ T4.heap.size := Nat.le_trans Z0 K4.1
  show Gd p e below _ T4 (mkF m 18 #[.val (.ref a), .val (.int p1), .val (.ref o)] [])
  refine g_return X4 hx hby hret hlk i15_18 (by decide) (by decide) ?_
  exact ⟨rfl, K0, V4, N0⟩
theorem i11_0 : Ins1 jdk_68_method_22_code 0 (.aload_n 1) 1 1 := ⟨by decide +kernel, rfl⟩
theorem i11_1 : InsB jdk_68_method_22_code 1 (.ifnonnull 8) 8 4 9 := ⟨by decide +kernel, rfl, by decide, by decide⟩
theorem i11_4 : Ins1 jdk_68_method_22_code 4 (.aload_n 0) 1 5 := ⟨by decide +kernel, rfl⟩
theorem i11_5 : Ins1 jdk_68_method_22_code 5 (.invokevirtual 204) 3 8 := ⟨by decide +kernel, rfl⟩
theorem i11_8 : Ins1 jdk_68_method_22_code 8 (.areturn) 1 9 := ⟨by decide +kernel, rfl⟩
theorem i11_9 : Ins1 jdk_68_method_22_code 9 (.aload_n 1) 1 10 := ⟨by decide +kernel, rfl⟩
theorem i11_10 : Ins1 jdk_68_method_22_code 10 (.invokevirtual 32) 3 13 := ⟨by decide +kernel, rfl⟩
theorem i11_13 : Ins1 jdk_68_method_22_code 13 (.istore_n 2) 1 14 := ⟨by decide +kernel, rfl⟩
theorem i11_14 : Ins1 jdk_68_method_22_code 14 (.aload_n 0) 1 15 := ⟨by decide +kernel, rfl⟩
theorem i11_15 : Ins1 jdk_68_method_22_code 15 (.aload_n 0) 1 16 := ⟨by decide +kernel, rfl⟩
theorem i11_16 : Ins1 jdk_68_method_22_code 16 (.getfield 79) 3 19 := ⟨by decide +kernel, rfl⟩
theorem i11_19 : Ins1 jdk_68_method_22_code 19 (.iload_n 2) 1 20 := ⟨by decide +kernel, rfl⟩
theorem i11_20 : Ins1 jdk_68_method_22_code 20 (.iadd) 1 21 := ⟨by decide +kernel, rfl⟩
theorem i11_21 : Ins1 jdk_68_method_22_code 21 (.invokevirtual 100) 3 24 := ⟨by decide +kernel, rfl⟩
theorem i11_24 : Ins1 jdk_68_method_22_code 24 (.aload_n 0) 1 25 := ⟨by decide +kernel, rfl⟩
theorem i11_25 : Ins1 jdk_68_method_22_code 25 (.aload_n 0) 1 26 := ⟨by decide +kernel, rfl⟩
theorem i11_26 : Ins1 jdk_68_method_22_code 26 (.getfield 79) 3 29 := ⟨by decide +kernel, rfl⟩
theorem i11_29 : Ins1 jdk_68_method_22_code 29 (.aload_n 1) 1 30 := ⟨by decide +kernel, rfl⟩
theorem i11_30 : Ins1 jdk_68_method_22_code 30 (.invokevirtual 208) 3 33 := ⟨by decide +kernel, rfl⟩
theorem i11_33 : Ins1 jdk_68_method_22_code 33 (.aload_n 0) 1 34 := ⟨by decide +kernel, rfl⟩
theorem i11_34 : Ins1 jdk_68_method_22_code 34 (.dup) 1 35 := ⟨by decide +kernel, rfl⟩
theorem i11_35 : Ins1 jdk_68_method_22_code 35 (.getfield 79) 3 38 := ⟨by decide +kernel, rfl⟩
theorem i11_38 : Ins1 jdk_68_method_22_code 38 (.iload_n 2) 1 39 := ⟨by decide +kernel, rfl⟩
theorem i11_39 : Ins1 jdk_68_method_22_code 39 (.iadd) 1 40 := ⟨by decide +kernel, rfl⟩
theorem i11_40 : Ins1 jdk_68_method_22_code 40 (.putfield 79) 3 43 := ⟨by decide +kernel, rfl⟩
theorem i11_43 : Ins1 jdk_68_method_22_code 43 (.aload_n 0) 1 44 := ⟨by decide +kernel, rfl⟩
theorem i11_44 : Ins1 jdk_68_method_22_code 44 (.areturn) 1 45 := ⟨by decide +kernel, rfl⟩
theorem ef_11 (m : MethodId) (a : Addr) (o : Addr) : entryFrame m #[(.ref a), (.ref o)] 3 = mkF m 0 #[.val (.ref a), .val (.ref o), .unset] [] := by first | (simp [entryFrame, mkF, argsToLocals, Value.category]; done) | rfl
theorem pd_6 : parseMethodDescriptor "()I" = some ⟨[], some .int⟩ := by decide +kernel
theorem pd_7 : parseMethodDescriptor "(I)V" = some ⟨[.int], none⟩ := by decide +kernel
theorem pd_8 : parseMethodDescriptor "(ILjava/lang/String;)V" = some ⟨[.int, (.object "java/lang/String")], none⟩ := by decide +kernel
set_option maxRecDepth 65536 in
set_option maxHeartbeats 40000000 in
theorem rm11 (l : Launch) (Z : State) (a0 : Array Value) (hw : ∀ d ∈ tables_1, d.before a0 Z = true) (ws : List Jvm.Cond) (a : Addr) (o : Addr) (cz : Int32) (b : Addr) (kb : ClassId) (vd : List Value) (cn : Int32) (ob : Addr) (ko : ClassId) (z : Int32) (vs : List Value) (i zn : Nat) (h0 : Heap) (n0 : Nat) (Z0 : n0 ≤ h0.size) (S0 : Sta Z Z.heap "java/lang/String" "COMPACT_STRINGS" "Z" (.int cz)) (hcz : ¬ cz = (0 : Int32)) (O : Old Z n0 h0) (E : Exa Z h0 a "java/lang/StringBuilder") (FV : Fld Z h0 a "java/lang/AbstractStringBuilder" "value" "[B" (.ref b)) (FC : Fld Z h0 a "java/lang/AbstractStringBuilder" "coder" "B" (.int 0)) (FN : Fld Z h0 a "java/lang/AbstractStringBuilder" "count" "I" (.int cn)) (V : Arv Z h0 b kb .byte (16 : Int32) vd (.int (0 : Int32))) (FM : Fld Z h0 a "java/lang/AbstractStringBuilder" "maybeLatin1" "Z" (.int 0)) (Es : Exa Z h0 o "java/lang/String") (FVs : Fld Z h0 o "java/lang/String" "value" "[B" (.ref ob)) (FCs : Fld Z h0 o "java/lang/String" "coder" "B" (.int 0)) (Vs : Arv Z h0 ob ko .byte z vs (.int (0 : Int32))) (g_a : n0 ≤ a) (g_b : n0 ≤ b) (hab : a ≠ b) (hoa : o ≠ a) (hob' : o ≠ b) (hoba : ob ≠ a) (hob : ob ≠ b) (hi0 : ¬ cn < 0) (hi : cn.toNatClampNeg = i) (hz0 : ¬ z < 0) (hzn : z.toNatClampNeg = zn) (hle : i + zn ≤ 16) (hvl : vd.length = 16) (hc0 : 0 ≤ (cn + z).toInt) (hc1 : (cn + z).toInt ≤ 16) :
    Met1 l (⟨"java/lang/AbstractStringBuilder", "append", "(Ljava/lang/String;)Ljava/lang/AbstractStringBuilder;"⟩ : MethodName) jdk_68_method_22_code 3 (some (.object "java/lang/AbstractStringBuilder")) ws ({ frames := 3, cells := 0, slots := 0, locals := 48 } : Room) #[(.ref a), (.ref o)] Z h0 (RV fun vv h L => vv = .ref a ∧ Keep h0 h [a, b] ∧ Exa Z h a "java/lang/StringBuilder" ∧ Fld Z h a "java/lang/AbstractStringBuilder" "value" "[B" (.ref b) ∧ Fld Z h a "java/lang/AbstractStringBuilder" "coder" "B" (.int 0) ∧ Fld Z h a "java/lang/AbstractStringBuilder" "count" "I" (.int (cn + z)) ∧ Arv Z h b kb .byte (16 : Int32) (own_put vd i zn vs) (.int (0 : Int32)) ∧ Fld Z h a "java/lang/AbstractStringBuilder" "maybeLatin1" "Z" (.int 0) ∧ Fr n0 L) := by
  refine met_of (plainFor_of_name pn_java_lang_AbstractStringBuilder) ?_
  intro p e s m below meth c T0 X0 hx hby hml hZ hown hnm hret hlk e0 es
  have N0 := Fr.nil n0
  refine Gd.cast (ef_11 m a o) ?_
  have K0 : Keep h0 h0 [a, b] := Keep.refl _ _
  refine g_aloadN X0 hx hby i11_0 rfl rfl ?_
  refine g_ifnonnull_y X0 hx hby i11_1 ?_
  refine g_aloadN X0 hx hby i11_9 rfl rfl ?_
  refine g_callV0 X0 hx hby hZ (y0 := (⟨"java/lang/String", "length", "()I"⟩ : MethodName)) (y := (⟨"java/lang/String", "length", "()I"⟩ : MethodName)) (argsL := []) (rest := []) hown (hw _ (List.mem_of_getElem? (i := 68) rfl)) (hw _ (List.mem_of_getElem? (i := 69) rfl)) (notFace_of_selects (args := #[]) (mvT hZ (hw _ (List.mem_of_getElem? (i := 71) rfl)))) (hw _ (List.mem_of_getElem? (i := 71) rfl)) (hw _ (List.mem_of_getElem? (i := 70) rfl)) (hw _ (List.mem_of_getElem? (i := 23) rfl)) (hw _ (List.mem_of_getElem? (i := 72) rfl)) (by decide) (a := o) Es (rm12 l Z a0 hw [] o cz ob ko z _ h0 n0 Z0 S0 hcz O Es FVs FCs Vs) e0 (by rw [hml]; rfl) pd_6 rfl rfl i11_10 (by decide) 0 rfl (by decide) (by decide) (by decide) fun T1 v1 L1 X1 q1 => ?_
  obtain ⟨_, rfl, rfl, e1, N1⟩ := q1
  have N0 := Fr.app N0 N1
  show Gd p e below _ T1 (mkF m 13 #[.val (.ref a), .val (.ref o), .unset] [(.int z)])
  refine g_istoreN X1 hx hby i11_13 (l' := #[.val (.ref a), .val (.ref o), .val (.int z)]) rfl ?_
  refine g_aloadN X1 hx hby i11_14 rfl rfl ?_
  refine g_aloadN X1 hx hby i11_15 rfl rfl ?_
  refine g_getfield X1 hx hby hZ hown (host := "") (Or.inl (hw _ (List.mem_of_getElem? (i := 78) rfl))) Via.refl e1 FN i11_16 fun T2 X2 e2 => ?_
  refine g_iloadN X2 hx hby i11_19 rfl ?_
  refine g_iadd X2 hx hby i11_20 ?_
  refine g_callV0 X2 hx hby hZ (y0 := (⟨"java/lang/AbstractStringBuilder", "ensureCapacityInternal", "(I)V"⟩ : MethodName)) (y := (⟨"java/lang/AbstractStringBuilder", "ensureCapacityInternal", "(I)V"⟩ : MethodName)) (argsL := [(.int (cn + z))]) (rest := []) hown (hw _ (List.mem_of_getElem? (i := 80) rfl)) (own_decl (hw _ (List.mem_of_getElem? (i := 81) rfl)) (hw _ (List.mem_of_getElem? (i := 84) rfl))) (notFace_of_selects (args := #[]) (mvT hZ (hw _ (List.mem_of_getElem? (i := 83) rfl)))) (hw _ (List.mem_of_getElem? (i := 83) rfl)) (hw _ (List.mem_of_getElem? (i := 81) rfl)) (hw _ (List.mem_of_getElem? (i := 19) rfl)) (hw _ (List.mem_of_getElem? (i := 84) rfl)) (by decide) (a := a) E (rm14 l Z a0 hw [] a (cn + z) b kb _ cn h0 n0 Z0 E FV FC FN V hc0 hc1) e2 (by rw [hml]; rfl) pd_7 rfl rfl i11_21 (by decide) 0 rfl (by decide) (by decide) (by decide) fun T3 v3 L3 X3 q3 => ?_
  obtain ⟨rfl, e3, N3⟩ := q3
  have N0 := Fr.app N0 N3
  show Gd p e below _ T3 (mkF m 24 #[.val (.ref a), .val (.ref o), .val (.int z)] [])
  refine g_aloadN X3 hx hby i11_24 rfl rfl ?_
  refine g_aloadN X3 hx hby i11_25 rfl rfl ?_
  refine g_getfield X3 hx hby hZ hown (host := "") (Or.inl (hw _ (List.mem_of_getElem? (i := 78) rfl))) Via.refl e3 FN i11_26 fun T4 X4 e4 => ?_
  refine g_aloadN X4 hx hby i11_29 rfl rfl ?_
  refine g_callV0 X4 hx hby hZ (y0 := (⟨"java/lang/AbstractStringBuilder", "putStringAt", "(ILjava/lang/String;)V"⟩ : MethodName)) (y := (⟨"java/lang/AbstractStringBuilder", "putStringAt", "(ILjava/lang/String;)V"⟩ : MethodName)) (argsL := [(.int cn), (.ref o)]) (rest := []) hown (hw _ (List.mem_of_getElem? (i := 85) rfl)) (own_decl (hw _ (List.mem_of_getElem? (i := 86) rfl)) (hw _ (List.mem_of_getElem? (i := 89) rfl))) (notFace_of_selects (args := #[]) (mvT hZ (hw _ (List.mem_of_getElem? (i := 88) rfl)))) (hw _ (List.mem_of_getElem? (i := 88) rfl)) (hw _ (List.mem_of_getElem? (i := 86) rfl)) (hw _ (List.mem_of_getElem? (i := 19) rfl)) (hw _ (List.mem_of_getElem? (i := 89) rfl)) (by decide) (a := a) E (rm15 l Z a0 hw [] a cn o cz b kb _ cn ob ko z _ i zn h0 n0 Z0 S0 hcz O E FV FC FN V Es FVs FCs Vs g_b hob hi0 hi hz0 hzn hle hvl) e4 (by rw [hml]; rfl) pd_8 rfl rfl i11_30 (by decide) 0 rfl (by decide) (by decide) (by decide) fun T5 v5 L5 X5 q5 => ?_
  obtain ⟨rfl, K5, V5, N5⟩ := q5
  have N0 := Fr.app N0 N5
  have K0 := K0.trans K5 (fun x hx => Or.inl (by cases hx with | head => simp | tail _ q => cases q))
  have E := E.keep K5
  have FV := FV.keep K5 (ninS hab nin0)
  have FC := FC.keep K5 (ninS hab nin0)
  have FN := FN.keep K5 (ninS hab nin0)
  have FM := FM.keep K5 (ninS hab nin0)
  have Es := Es.keep K5
  have FVs := FVs.keep K5 (ninS hob' nin0)
  have FCs := FCs.keep K5 (ninS hob' nin0)
  have Vs := Vs.keep K5 (ninS hob nin0)
  have O := O.keep K5 (allS g_b all0)
  have Z0 : n0 ≤ T5.heap.size := Nat.le_trans Z0 K5.1
  show Gd p e below _ T5 (mkF m 33 #[.val (.ref a), .val (.ref o), .val (.int z)] [])
  refine g_aloadN X5 hx hby i11_33 rfl rfl ?_
  refine g_dup X5 hx hby i11_34 rfl ?_
  refine g_getfield X5 hx hby hZ hown (host := "") (Or.inl (hw _ (List.mem_of_getElem? (i := 78) rfl))) Via.refl rfl FN i11_35 fun T6 X6 e6 => ?_
  refine g_iloadN X6 hx hby i11_38 rfl ?_
  refine g_iadd X6 hx hby i11_39 ?_
  refine g_putfield X6 hx hby hZ hown (host := "") (Or.inl (hw _ (List.mem_of_getElem? (i := 78) rfl))) Via.refl e6 FN E (Or.inl (hw _ (List.mem_of_getElem? (i := 79) rfl))) (hw _ (List.mem_of_getElem? (i := 10) rfl)) (ty := .int) (by decide) rfl rfl i11_40 fun T7 h7 X7 e7 W7 => ?_
  have FN := FN.same W7
  have E := E.wr W7
  have FV := FV.other W7 (Or.inr (slot_ne (Or.inl (hw _ (List.mem_of_getElem? (i := 26) rfl))) (Or.inl (hw _ (List.mem_of_getElem? (i := 79) rfl))) (by decide) (t := (.array .byte)) (t' := .int) (by decide) (by decide)))
  have FC := FC.other W7 (Or.inr (slot_ne (Or.inl (hw _ (List.mem_of_getElem? (i := 28) rfl))) (Or.inl (hw _ (List.mem_of_getElem? (i := 79) rfl))) (by decide) (t := .byte) (t' := .int) (by decide) (by decide)))
  have FM := FM.other W7 (Or.inr (slot_ne (Or.inl (hw _ (List.mem_of_getElem? (i := 168) rfl))) (Or.inl (hw _ (List.mem_of_getElem? (i := 79) rfl))) (by decide) (t := .boolean) (t' := .int) (by decide) (by decide)))
  have Es := Es.wr W7
  have FVs := FVs.other W7 (Or.inl hoa)
  have FCs := FCs.other W7 (Or.inl hoa)
  have Vs := Vs.other W7 hoba
  have V5 := V5.other W7 (Ne.symm hab)
  have O := O.wr W7 g_a
  have Z0 : n0 ≤ h7.size := Nat.le_trans Z0 (Nat.le_of_eq W7.size.symm)
  have N0 := Fr.snoc X7 N0 g_a
  have K0 := K0.wr W7 (Or.inl (by simp))
  refine g_aloadN X7 hx hby i11_43 rfl rfl ?_
  refine g_areturn X7 hx hby hret rfl (fun _ => rfl) hlk rfl i11_44 (by decide) (by decide) ?_
  rw [e7]
  exact ⟨_, rfl, rfl, K0, E, FV, FC, FN, V5, FM, N0⟩
theorem i10_0 : Ins1 jdk_67_method_7_code 0 (.aload_n 0) 1 1 := ⟨by decide +kernel, rfl⟩
theorem i10_1 : Ins1 jdk_67_method_7_code 1 (.aload_n 1) 1 2 := ⟨by decide +kernel, rfl⟩
theorem i10_2 : Ins1 jdk_67_method_7_code 2 (.invokespecial 29) 3 5 := ⟨by decide +kernel, rfl⟩
theorem i10_5 : Ins1 jdk_67_method_7_code 5 (.pop) 1 6 := ⟨by decide +kernel, rfl⟩
theorem i10_6 : Ins1 jdk_67_method_7_code 6 (.aload_n 0) 1 7 := ⟨by decide +kernel, rfl⟩
theorem i10_7 : Ins1 jdk_67_method_7_code 7 (.areturn) 1 8 := ⟨by decide +kernel, rfl⟩
theorem pn_java_lang_StringBuilder : plainName "java/lang/StringBuilder" = true := by first | (simp [plainName, overriddenIn]; done) | decide +kernel
theorem ef_10 (m : MethodId) (a : Addr) (o : Addr) : entryFrame m #[(.ref a), (.ref o)] 2 = mkF m 0 #[.val (.ref a), .val (.ref o)] [] := by first | (simp [entryFrame, mkF, argsToLocals, Value.category]; done) | rfl
theorem pd_9 : parseMethodDescriptor "(Ljava/lang/String;)Ljava/lang/AbstractStringBuilder;" = some ⟨[(.object "java/lang/String")], some (.object "java/lang/AbstractStringBuilder")⟩ := by decide +kernel
set_option maxRecDepth 65536 in
set_option maxHeartbeats 40000000 in
theorem rm10 (l : Launch) (Z : State) (a0 : Array Value) (hw : ∀ d ∈ tables_1, d.before a0 Z = true) (ws : List Jvm.Cond) (a : Addr) (o : Addr) (cz : Int32) (b : Addr) (kb : ClassId) (vd : List Value) (cn : Int32) (ob : Addr) (ko : ClassId) (z : Int32) (vs : List Value) (i zn : Nat) (h0 : Heap) (n0 : Nat) (Z0 : n0 ≤ h0.size) (S0 : Sta Z Z.heap "java/lang/String" "COMPACT_STRINGS" "Z" (.int cz)) (hcz : ¬ cz = (0 : Int32)) (O : Old Z n0 h0) (E : Exa Z h0 a "java/lang/StringBuilder") (FV : Fld Z h0 a "java/lang/AbstractStringBuilder" "value" "[B" (.ref b)) (FC : Fld Z h0 a "java/lang/AbstractStringBuilder" "coder" "B" (.int 0)) (FN : Fld Z h0 a "java/lang/AbstractStringBuilder" "count" "I" (.int cn)) (V : Arv Z h0 b kb .byte (16 : Int32) vd (.int (0 : Int32))) (FM : Fld Z h0 a "java/lang/AbstractStringBuilder" "maybeLatin1" "Z" (.int 0)) (Es : Exa Z h0 o "java/lang/String") (FVs : Fld Z h0 o "java/lang/String" "value" "[B" (.ref ob)) (FCs : Fld Z h0 o "java/lang/String" "coder" "B" (.int 0)) (Vs : Arv Z h0 ob ko .byte z vs (.int (0 : Int32))) (g_a : n0 ≤ a) (g_b : n0 ≤ b) (hab : a ≠ b) (hoa : o ≠ a) (hob' : o ≠ b) (hoba : ob ≠ a) (hob : ob ≠ b) (hi0 : ¬ cn < 0) (hi : cn.toNatClampNeg = i) (hz0 : ¬ z < 0) (hzn : z.toNatClampNeg = zn) (hle : i + zn ≤ 16) (hvl : vd.length = 16) (hc0 : 0 ≤ (cn + z).toInt) (hc1 : (cn + z).toInt ≤ 16) :
    Met1 l (⟨"java/lang/StringBuilder", "append", "(Ljava/lang/String;)Ljava/lang/StringBuilder;"⟩ : MethodName) jdk_67_method_7_code 2 (some (.object "java/lang/StringBuilder")) ws ({ frames := 4, cells := 0, slots := 0, locals := 62 } : Room) #[(.ref a), (.ref o)] Z h0 (RV fun vv h L => vv = .ref a ∧ Keep h0 h [a, b] ∧ Exa Z h a "java/lang/StringBuilder" ∧ Fld Z h a "java/lang/AbstractStringBuilder" "value" "[B" (.ref b) ∧ Fld Z h a "java/lang/AbstractStringBuilder" "coder" "B" (.int 0) ∧ Fld Z h a "java/lang/AbstractStringBuilder" "count" "I" (.int (cn + z)) ∧ Arv Z h b kb .byte (16 : Int32) (own_put vd i zn vs) (.int (0 : Int32)) ∧ Fld Z h a "java/lang/AbstractStringBuilder" "maybeLatin1" "Z" (.int 0) ∧ Fr n0 L) := by
  refine met_of (plainFor_of_name pn_java_lang_StringBuilder) ?_
  intro p e s m below meth c T0 X0 hx hby hml hZ hown hnm hret hlk e0 es
  have N0 := Fr.nil n0
  refine Gd.cast (ef_10 m a o) ?_
  have K0 : Keep h0 h0 [a, b] := Keep.refl _ _
  refine g_aloadN X0 hx hby i10_0 rfl rfl ?_
  refine g_aloadN X0 hx hby i10_1 rfl rfl ?_
  refine g_callUp0 X0 hx hby hZ (y := (⟨"java/lang/AbstractStringBuilder", "append", "(Ljava/lang/String;)Ljava/lang/AbstractStringBuilder;"⟩ : MethodName)) (argsL := [(.ref o)]) (rest := []) hown (hw _ (List.mem_of_getElem? (i := 63) rfl)) (own_same (hw _ (List.mem_of_getElem? (i := 64) rfl)) (hw _ (List.mem_of_getElem? (i := 135) rfl)) (by decide)) (hw _ (List.mem_of_getElem? (i := 64) rfl)) (hw _ (List.mem_of_getElem? (i := 65) rfl)) (hw _ (List.mem_of_getElem? (i := 19) rfl)) (hw _ (List.mem_of_getElem? (i := 67) rfl)) (by decide) (a := a) (Ins.self E) (rm11 l Z a0 hw [] a o cz b kb _ cn ob ko z _ i zn h0 n0 Z0 S0 hcz O E FV FC FN V FM Es FVs FCs Vs g_a g_b hab hoa hob' hoba hob hi0 hi hz0 hzn hle hvl hc0 hc1) e0 (by rw [hml]; rfl) pd_9 rfl rfl i10_2 (by decide) 0 rfl (by decide) (by decide) (by decide) fun T1 v1 L1 X1 q1 => ?_
  obtain ⟨_, rfl, rfl, K1, E1, FV1, FC1, FN1, V1, FM1, N1⟩ := q1
  have N0 := Fr.app N0 N1
  have K0 := K0.trans K1 (fun x hx => Or.inl hx)
  have E := E.keep K1
  have Es := Es.keep K1
  have FVs := FVs.keep K1 (ninS hoa (ninS hob' nin0))
  have FCs := FCs.keep K1 (ninS hoa (ninS hob' nin0))
  have Vs := Vs.keep K1 (ninS hoba (ninS hob nin0))
  have O := O.keep K1 (allS g_a (allS g_b all0))
  have Z0 : n0 ≤ T1.heap.size := Nat.le_trans Z0 K1.1
  show Gd p e below _ T1 (mkF m 5 #[.val (.ref a), .val (.ref o)] [(.ref a)])
  refine g_pop X1 hx hby i10_5 rfl ?_
  refine g_aloadN X1 hx hby i10_6 rfl rfl ?_
  refine g_areturn X1 hx hby hret rfl (fun _ => rfl) hlk rfl i10_7 (by decide) (by decide) ?_
  exact ⟨_, rfl, rfl, K0, E, FV1, FC1, FN1, V1, FM1, N0⟩
theorem i19_0 : Ins1 jdk_68_method_31_code 0 (.aload_n 0) 1 1 := ⟨by decide +kernel, rfl⟩
theorem i19_1 : Ins1 jdk_68_method_31_code 1 (.aload_n 0) 1 2 := ⟨by decide +kernel, rfl⟩
theorem i19_2 : Ins1 jdk_68_method_31_code 2 (.getfield 79) 3 5 := ⟨by decide +kernel, rfl⟩
theorem i19_5 : Ins1 jdk_68_method_31_code 5 (.iconst 1) 1 6 := ⟨by decide +kernel, rfl⟩
theorem i19_6 : Ins1 jdk_68_method_31_code 6 (.iadd) 1 7 := ⟨by decide +kernel, rfl⟩
theorem i19_7 : Ins1 jdk_68_method_31_code 7 (.invokevirtual 100) 3 10 := ⟨by decide +kernel, rfl⟩
theorem i19_10 : Ins1 jdk_68_method_31_code 10 (.aload_n 0) 1 11 := ⟨by decide +kernel, rfl⟩
theorem i19_11 : Ins1 jdk_68_method_31_code 11 (.invokevirtual 83) 3 14 := ⟨by decide +kernel, rfl⟩
theorem i19_14 : InsB jdk_68_method_31_code 14 (.ifCond .eq 31) 31 17 45 := ⟨by decide +kernel, rfl, by decide, by decide⟩
theorem i19_17 : Ins1 jdk_68_method_31_code 17 (.iload_n 1) 1 18 := ⟨by decide +kernel, rfl⟩
theorem i19_18 : Ins1 jdk_68_method_31_code 18 (.invokestatic 191) 3 21 := ⟨by decide +kernel, rfl⟩
theorem i19_21 : InsB jdk_68_method_31_code 21 (.ifCond .eq 24) 24 24 45 := ⟨by decide +kernel, rfl, by decide, by decide⟩
theorem i19_24 : Ins1 jdk_68_method_31_code 24 (.aload_n 0) 1 25 := ⟨by decide +kernel, rfl⟩
theorem i19_25 : Ins1 jdk_68_method_31_code 25 (.getfield 15) 3 28 := ⟨by decide +kernel, rfl⟩
theorem i19_28 : Ins1 jdk_68_method_31_code 28 (.aload_n 0) 1 29 := ⟨by decide +kernel, rfl⟩
theorem i19_29 : Ins1 jdk_68_method_31_code 29 (.dup) 1 30 := ⟨by decide +kernel, rfl⟩
theorem i19_30 : Ins1 jdk_68_method_31_code 30 (.getfield 79) 3 33 := ⟨by decide +kernel, rfl⟩
theorem i19_33 : Ins1 jdk_68_method_31_code 33 (.dup_x1) 1 34 := ⟨by decide +kernel, rfl⟩
theorem i19_34 : Ins1 jdk_68_method_31_code 34 (.iconst 1) 1 35 := ⟨by decide +kernel, rfl⟩
theorem i19_35 : Ins1 jdk_68_method_31_code 35 (.iadd) 1 36 := ⟨by decide +kernel, rfl⟩
theorem i19_36 : Ins1 jdk_68_method_31_code 36 (.putfield 79) 3 39 := ⟨by decide +kernel, rfl⟩
theorem i19_39 : Ins1 jdk_68_method_31_code 39 (.iload_n 1) 1 40 := ⟨by decide +kernel, rfl⟩
theorem i19_40 : Ins1 jdk_68_method_31_code 40 (.i2b) 1 41 := ⟨by decide +kernel, rfl⟩
theorem i19_41 : Ins1 jdk_68_method_31_code 41 (.bastore) 1 42 := ⟨by decide +kernel, rfl⟩
theorem i19_42 : InsB jdk_68_method_31_code 42 (.goto 33) 33 45 75 := ⟨by decide +kernel, rfl, by decide, by decide⟩
theorem i19_45 : Ins1 jdk_68_method_31_code 45 (.aload_n 0) 1 46 := ⟨by decide +kernel, rfl⟩
theorem i19_46 : Ins1 jdk_68_method_31_code 46 (.invokevirtual 83) 3 49 := ⟨by decide +kernel, rfl⟩
theorem i19_49 : InsB jdk_68_method_31_code 49 (.ifCond .eq 7) 7 52 56 := ⟨by decide +kernel, rfl, by decide, by decide⟩
theorem i19_52 : Ins1 jdk_68_method_31_code 52 (.aload_n 0) 1 53 := ⟨by decide +kernel, rfl⟩
theorem i19_53 : Ins1 jdk_68_method_31_code 53 (.invokevirtual 195) 3 56 := ⟨by decide +kernel, rfl⟩
theorem i19_56 : Ins1 jdk_68_method_31_code 56 (.aload_n 0) 1 57 := ⟨by decide +kernel, rfl⟩
theorem i19_57 : Ins1 jdk_68_method_31_code 57 (.getfield 15) 3 60 := ⟨by decide +kernel, rfl⟩
theorem i19_60 : Ins1 jdk_68_method_31_code 60 (.aload_n 0) 1 61 := ⟨by decide +kernel, rfl⟩
theorem i19_61 : Ins1 jdk_68_method_31_code 61 (.dup) 1 62 := ⟨by decide +kernel, rfl⟩
theorem i19_62 : Ins1 jdk_68_method_31_code 62 (.getfield 79) 3 65 := ⟨by decide +kernel, rfl⟩
theorem i19_65 : Ins1 jdk_68_method_31_code 65 (.dup_x1) 1 66 := ⟨by decide +kernel, rfl⟩
theorem i19_66 : Ins1 jdk_68_method_31_code 66 (.iconst 1) 1 67 := ⟨by decide +kernel, rfl⟩
theorem i19_67 : Ins1 jdk_68_method_31_code 67 (.iadd) 1 68 := ⟨by decide +kernel, rfl⟩
theorem i19_68 : Ins1 jdk_68_method_31_code 68 (.putfield 79) 3 71 := ⟨by decide +kernel, rfl⟩
theorem i19_71 : Ins1 jdk_68_method_31_code 71 (.iload_n 1) 1 72 := ⟨by decide +kernel, rfl⟩
theorem i19_72 : Ins1 jdk_68_method_31_code 72 (.invokestatic 197) 3 75 := ⟨by decide +kernel, rfl⟩
theorem i19_75 : Ins1 jdk_68_method_31_code 75 (.aload_n 0) 1 76 := ⟨by decide +kernel, rfl⟩
theorem i19_76 : Ins1 jdk_68_method_31_code 76 (.areturn) 1 77 := ⟨by decide +kernel, rfl⟩
theorem ef_19 (m : MethodId) (a : Addr) (p1 : Int32) : entryFrame m #[(.ref a), (.int p1)] 2 = mkF m 0 #[.val (.ref a), .val (.int p1)] [] := by first | (simp [entryFrame, mkF, argsToLocals, Value.category]; done) | rfl
theorem pd_10 : parseMethodDescriptor "()Z" = some ⟨[], some .boolean⟩ := by decide +kernel
set_option maxRecDepth 65536 in
set_option maxHeartbeats 40000000 in
theorem rm19 (l : Launch) (Z : State) (a0 : Array Value) (hw : ∀ d ∈ tables_1, d.before a0 Z = true) (ws : List Jvm.Cond) (a : Addr) (p1 : Int32) (cz : Int32) (b : Addr) (kb : ClassId) (vd : List Value) (cn : Int32) (i : Nat) (h0 : Heap) (n0 : Nat) (Z0 : n0 ≤ h0.size) (S0 : Sta Z Z.heap "java/lang/String" "COMPACT_STRINGS" "Z" (.int cz)) (hcz : ¬ cz = (0 : Int32)) (O : Old Z n0 h0) (E : Exa Z h0 a "java/lang/StringBuilder") (FV : Fld Z h0 a "java/lang/AbstractStringBuilder" "value" "[B" (.ref b)) (FC : Fld Z h0 a "java/lang/AbstractStringBuilder" "coder" "B" (.int 0)) (FN : Fld Z h0 a "java/lang/AbstractStringBuilder" "count" "I" (.int cn)) (V : Arv Z h0 b kb .byte (16 : Int32) vd (.int (0 : Int32))) (FM : Fld Z h0 a "java/lang/AbstractStringBuilder" "maybeLatin1" "Z" (.int 0)) (g_a : n0 ≤ a) (g_b : n0 ≤ b) (hab : a ≠ b) (hi0 : ¬ cn < 0) (hi1 : cn < (16 : Int32)) (hi : cn.toNatClampNeg = i) (hil : i < vd.length) (hc0 : 0 ≤ (cn + (1 : Int32)).toInt) (hc1 : (cn + (1 : Int32)).toInt ≤ 16) (hp : ¬ (255 : Int32) < p1) :
    Met1 l (⟨"java/lang/AbstractStringBuilder", "append", "(C)Ljava/lang/AbstractStringBuilder;"⟩ : MethodName) jdk_68_method_31_code 2 (some (.object "java/lang/AbstractStringBuilder")) ws ({ frames := 1, cells := 0, slots := 0, locals := 16 } : Room) #[(.ref a), (.int p1)] Z h0 (RV fun vv h L => vv = .ref a ∧ Keep h0 h [a, b] ∧ Exa Z h a "java/lang/StringBuilder" ∧ Fld Z h a "java/lang/AbstractStringBuilder" "value" "[B" (.ref b) ∧ Fld Z h a "java/lang/AbstractStringBuilder" "coder" "B" (.int 0) ∧ Fld Z h a "java/lang/AbstractStringBuilder" "count" "I" (.int (cn + (1 : Int32))) ∧ Arv Z h b kb .byte (16 : Int32) (vd.set i (.int (nar .byte p1.toInt8.toInt32))) (.int (0 : Int32)) ∧ Fld Z h a "java/lang/AbstractStringBuilder" "maybeLatin1" "Z" (.int 0) ∧ Fr n0 L) := by
  refine met_of (plainFor_of_name pn_java_lang_AbstractStringBuilder) ?_
  intro p e s m below meth c T0 X0 hx hby hml hZ hown hnm hret hlk e0 es
  have N0 := Fr.nil n0
  refine Gd.cast (ef_19 m a p1) ?_
  have K0 : Keep h0 h0 [a, b] := Keep.refl _ _
  refine g_aloadN X0 hx hby i19_0 rfl rfl ?_
  refine g_aloadN X0 hx hby i19_1 rfl rfl ?_
  refine g_getfield X0 hx hby hZ hown (host := "") (Or.inl (hw _ (List.mem_of_getElem? (i := 78) rfl))) Via.refl e0 FN i19_2 fun T1 X1 e1 => ?_
  refine g_iconst X1 hx hby i19_5 (z := (1 : Int32)) (by decide) ?_
  refine g_iadd X1 hx hby i19_6 ?_
  refine g_callV0 X1 hx hby hZ (y0 := (⟨"java/lang/AbstractStringBuilder", "ensureCapacityInternal", "(I)V"⟩ : MethodName)) (y := (⟨"java/lang/AbstractStringBuilder", "ensureCapacityInternal", "(I)V"⟩ : MethodName)) (argsL := [(.int (cn + (1 : Int32)))]) (rest := []) hown (hw _ (List.mem_of_getElem? (i := 80) rfl)) (own_decl (hw _ (List.mem_of_getElem? (i := 81) rfl)) (hw _ (List.mem_of_getElem? (i := 84) rfl))) (notFace_of_selects (args := #[]) (mvT hZ (hw _ (List.mem_of_getElem? (i := 83) rfl)))) (hw _ (List.mem_of_getElem? (i := 83) rfl)) (hw _ (List.mem_of_getElem? (i := 81) rfl)) (hw _ (List.mem_of_getElem? (i := 19) rfl)) (hw _ (List.mem_of_getElem? (i := 84) rfl)) (by decide) (a := a) E (rm14 l Z a0 hw [] a (cn + (1 : Int32)) b kb _ cn h0 n0 Z0 E FV FC FN V hc0 hc1) e1 (by rw [hml]; rfl) pd_7 rfl rfl i19_7 (by decide) 0 rfl (by decide) (by decide) (by decide) fun T2 v2 L2 X2 q2 => ?_
  obtain ⟨rfl, e2, N2⟩ := q2
  have N0 := Fr.app N0 N2
  show Gd p e below _ T2 (mkF m 10 #[.val (.ref a), .val (.int p1)] [])
  refine g_aloadN X2 hx hby i19_10 rfl rfl ?_
  refine g_callV0 X2 hx hby hZ (y0 := (⟨"java/lang/AbstractStringBuilder", "isLatin1", "()Z"⟩ : MethodName)) (y := (⟨"java/lang/AbstractStringBuilder", "isLatin1", "()Z"⟩ : MethodName)) (argsL := []) (rest := []) hown (hw _ (List.mem_of_getElem? (i := 114) rfl)) (hw _ (List.mem_of_getElem? (i := 115) rfl)) (notFace_of_selects (args := #[]) (mvT hZ (hw _ (List.mem_of_getElem? (i := 117) rfl)))) (hw _ (List.mem_of_getElem? (i := 117) rfl)) (hw _ (List.mem_of_getElem? (i := 116) rfl)) (hw _ (List.mem_of_getElem? (i := 19) rfl)) (hw _ (List.mem_of_getElem? (i := 118) rfl)) (by decide) (a := a) E (rm20 l Z a0 hw [] a cz b kb _ cn h0 n0 Z0 S0 hcz O E FV FC FN V) e2 (by rw [hml]; rfl) pd_10 rfl rfl i19_11 (by decide) 0 rfl (by decide) (by decide) (by decide) fun T3 v3 L3 X3 q3 => ?_
  obtain ⟨_, rfl, rfl, e3, N3⟩ := q3
  have N0 := Fr.app N0 N3
  show Gd p e below _ T3 (mkF m 14 #[.val (.ref a), .val (.int p1)] [(.int (1 : Int32))])
  refine g_if_eq X3 hx hby i19_14 (fun c14_4 => False.elim (absurd c14_4 (by decide))) fun c14_4 => ?_
  refine g_iloadN X3 hx hby i19_17 rfl ?_
  refine g_callS0 X3 hx hby hZ (y := (⟨"java/lang/StringLatin1", "canEncode", "(C)Z"⟩ : MethodName)) (argsL := [(.int p1)]) (rest := []) hown (hw _ (List.mem_of_getElem? (i := 119) rfl)) (hw _ (List.mem_of_getElem? (i := 36) rfl)) (hw _ (List.mem_of_getElem? (i := 37) rfl)) (hw _ (List.mem_of_getElem? (i := 38) rfl)) (by decide) (rm6 l Z a0 hw [] p1  h0 n0 Z0 hp) e3 (by rw [hml]; rfl) pd_0 rfl rfl i19_18 (by decide) 0 rfl (by decide) (by decide) (by decide) fun T5 v5 L5 X5 q5 => ?_
  obtain ⟨_, rfl, rfl, e5, N5⟩ := q5
  have N0 := Fr.app N0 N5
  show Gd p e below _ T5 (mkF m 21 #[.val (.ref a), .val (.int p1)] [(.int (1 : Int32))])
  refine g_if_eq X5 hx hby i19_21 (fun c21_6 => False.elim (absurd c21_6 (by decide))) fun c21_6 => ?_
  refine g_aloadN X5 hx hby i19_24 rfl rfl ?_
  refine g_getfield X5 hx hby hZ hown (host := "") (Or.inl (hw _ (List.mem_of_getElem? (i := 25) rfl))) Via.refl e5 FV i19_25 fun T7 X7 e7 => ?_
  refine g_aloadN X7 hx hby i19_28 rfl rfl ?_
  refine g_dup X7 hx hby i19_29 rfl ?_
  refine g_getfield X7 hx hby hZ hown (host := "") (Or.inl (hw _ (List.mem_of_getElem? (i := 78) rfl))) Via.refl e7 FN i19_30 fun T8 X8 e8 => ?_
  refine g_dup_x1 X8 hx hby i19_33 rfl rfl ?_
  refine g_iconst X8 hx hby i19_34 (z := (1 : Int32)) (by decide) ?_
  refine g_iadd X8 hx hby i19_35 ?_
  refine g_putfield X8 hx hby hZ hown (host := "") (Or.inl (hw _ (List.mem_of_getElem? (i := 78) rfl))) Via.refl e8 FN E (Or.inl (hw _ (List.mem_of_getElem? (i := 79) rfl))) (hw _ (List.mem_of_getElem? (i := 10) rfl)) (ty := .int) (by decide) rfl rfl i19_36 fun T9 h9 X9 e9 W9 => ?_
  have FN := FN.same W9
  have E := E.wr W9
  have FV := FV.other W9 (Or.inr (slot_ne (Or.inl (hw _ (List.mem_of_getElem? (i := 26) rfl))) (Or.inl (hw _ (List.mem_of_getElem? (i := 79) rfl))) (by decide) (t := (.array .byte)) (t' := .int) (by decide) (by decide)))
  have FC := FC.other W9 (Or.inr (slot_ne (Or.inl (hw _ (List.mem_of_getElem? (i := 28) rfl))) (Or.inl (hw _ (List.mem_of_getElem? (i := 79) rfl))) (by decide) (t := .byte) (t' := .int) (by decide) (by decide)))
  have V := V.other W9 (Ne.symm hab)
  have FM := FM.other W9 (Or.inr (slot_ne (Or.inl (hw _ (List.mem_of_getElem? (i := 168) rfl))) (Or.inl (hw _ (List.mem_of_getElem? (i := 79) rfl))) (by decide) (t := .boolean) (t' := .int) (by decide) (by decide)))
  have O := O.wr W9 g_a
  have Z0 : n0 ≤ h9.size := Nat.le_trans Z0 (Nat.le_of_eq W9.size.symm)
  have N0 := Fr.snoc X9 N0 g_a
  have K0 := K0.wr W9 (Or.inl (by simp))
  refine g_iloadN X9 hx hby i19_39 rfl ?_
  refine g_i2b X9 hx hby i19_40 ?_
  refine g_bastore X9 hx hby hZ e9 V (i := i) hi0 hi1 hi hil i19_41 fun T11 h11 X11 e11 W11 V => ?_
  have E := E.wr W11
  have FV := FV.other W11 (Or.inl hab)
  have FC := FC.other W11 (Or.inl hab)
  have FN := FN.other W11 (Or.inl hab)
  have FM := FM.other W11 (Or.inl hab)
  have O := O.wr W11 g_b
  have Z0 : n0 ≤ h11.size := Nat.le_trans Z0 (Nat.le_of_eq W11.size.symm)
  have N0 := Fr.snoc X11 N0 g_b
  have K0 := K0.wr W11 (Or.inl (by simp))
  refine g_goto X11 hx hby i19_42 ?_
  refine g_aloadN X11 hx hby i19_75 rfl rfl ?_
  refine g_areturn X11 hx hby hret rfl (fun _ => rfl) hlk rfl i19_76 (by decide) (by decide) ?_
  rw [e11]
  exact ⟨_, rfl, rfl, K0, E, FV, FC, FN, V, FM, N0⟩
theorem i18_0 : Ins1 jdk_67_method_14_code 0 (.aload_n 0) 1 1 := ⟨by decide +kernel, rfl⟩
theorem i18_1 : Ins1 jdk_67_method_14_code 1 (.iload_n 1) 1 2 := ⟨by decide +kernel, rfl⟩
theorem i18_2 : Ins1 jdk_67_method_14_code 2 (.invokespecial 50) 3 5 := ⟨by decide +kernel, rfl⟩
theorem i18_5 : Ins1 jdk_67_method_14_code 5 (.pop) 1 6 := ⟨by decide +kernel, rfl⟩
theorem i18_6 : Ins1 jdk_67_method_14_code 6 (.aload_n 0) 1 7 := ⟨by decide +kernel, rfl⟩
theorem i18_7 : Ins1 jdk_67_method_14_code 7 (.areturn) 1 8 := ⟨by decide +kernel, rfl⟩
theorem ef_18 (m : MethodId) (a : Addr) (p1 : Int32) : entryFrame m #[(.ref a), (.int p1)] 2 = mkF m 0 #[.val (.ref a), .val (.int p1)] [] := by first | (simp [entryFrame, mkF, argsToLocals, Value.category]; done) | rfl
theorem pd_11 : parseMethodDescriptor "(C)Ljava/lang/AbstractStringBuilder;" = some ⟨[.char], some (.object "java/lang/AbstractStringBuilder")⟩ := by decide +kernel
set_option maxRecDepth 65536 in
set_option maxHeartbeats 40000000 in
theorem rm18 (l : Launch) (Z : State) (a0 : Array Value) (hw : ∀ d ∈ tables_1, d.before a0 Z = true) (ws : List Jvm.Cond) (a : Addr) (p1 : Int32) (cz : Int32) (b : Addr) (kb : ClassId) (vd : List Value) (cn : Int32) (i : Nat) (h0 : Heap) (n0 : Nat) (Z0 : n0 ≤ h0.size) (S0 : Sta Z Z.heap "java/lang/String" "COMPACT_STRINGS" "Z" (.int cz)) (hcz : ¬ cz = (0 : Int32)) (O : Old Z n0 h0) (E : Exa Z h0 a "java/lang/StringBuilder") (FV : Fld Z h0 a "java/lang/AbstractStringBuilder" "value" "[B" (.ref b)) (FC : Fld Z h0 a "java/lang/AbstractStringBuilder" "coder" "B" (.int 0)) (FN : Fld Z h0 a "java/lang/AbstractStringBuilder" "count" "I" (.int cn)) (V : Arv Z h0 b kb .byte (16 : Int32) vd (.int (0 : Int32))) (FM : Fld Z h0 a "java/lang/AbstractStringBuilder" "maybeLatin1" "Z" (.int 0)) (g_a : n0 ≤ a) (g_b : n0 ≤ b) (hab : a ≠ b) (hi0 : ¬ cn < 0) (hi1 : cn < (16 : Int32)) (hi : cn.toNatClampNeg = i) (hil : i < vd.length) (hc0 : 0 ≤ (cn + (1 : Int32)).toInt) (hc1 : (cn + (1 : Int32)).toInt ≤ 16) (hp : ¬ (255 : Int32) < p1) :
    Met1 l (⟨"java/lang/StringBuilder", "append", "(C)Ljava/lang/StringBuilder;"⟩ : MethodName) jdk_67_method_14_code 2 (some (.object "java/lang/StringBuilder")) ws ({ frames := 2, cells := 0, slots := 0, locals := 29 } : Room) #[(.ref a), (.int p1)] Z h0 (RV fun vv h L => vv = .ref a ∧ Keep h0 h [a, b] ∧ Exa Z h a "java/lang/StringBuilder" ∧ Fld Z h a "java/lang/AbstractStringBuilder" "value" "[B" (.ref b) ∧ Fld Z h a "java/lang/AbstractStringBuilder" "coder" "B" (.int 0) ∧ Fld Z h a "java/lang/AbstractStringBuilder" "count" "I" (.int (cn + (1 : Int32))) ∧ Arv Z h b kb .byte (16 : Int32) (vd.set i (.int (nar .byte p1.toInt8.toInt32))) (.int (0 : Int32)) ∧ Fld Z h a "java/lang/AbstractStringBuilder" "maybeLatin1" "Z" (.int 0) ∧ Fr n0 L) := by
  refine met_of (plainFor_of_name pn_java_lang_StringBuilder) ?_
  intro p e s m below meth c T0 X0 hx hby hml hZ hown hnm hret hlk e0 es
  have N0 := Fr.nil n0
  refine Gd.cast (ef_18 m a p1) ?_
  have K0 : Keep h0 h0 [a, b] := Keep.refl _ _
  refine g_aloadN X0 hx hby i18_0 rfl rfl ?_
  refine g_iloadN X0 hx hby i18_1 rfl ?_
  refine g_callUp0 X0 hx hby hZ (y := (⟨"java/lang/AbstractStringBuilder", "append", "(C)Ljava/lang/AbstractStringBuilder;"⟩ : MethodName)) (argsL := [(.int p1)]) (rest := []) hown (hw _ (List.mem_of_getElem? (i := 110) rfl)) (own_same (hw _ (List.mem_of_getElem? (i := 111) rfl)) (hw _ (List.mem_of_getElem? (i := 135) rfl)) (by decide)) (hw _ (List.mem_of_getElem? (i := 111) rfl)) (hw _ (List.mem_of_getElem? (i := 65) rfl)) (hw _ (List.mem_of_getElem? (i := 19) rfl)) (hw _ (List.mem_of_getElem? (i := 113) rfl)) (by decide) (a := a) (Ins.self E) (rm19 l Z a0 hw [] a p1 cz b kb _ cn i h0 n0 Z0 S0 hcz O E FV FC FN V FM g_a g_b hab hi0 hi1 hi hil hc0 hc1 hp) e0 (by rw [hml]; rfl) pd_11 rfl rfl i18_2 (by decide) 0 rfl (by decide) (by decide) (by decide) fun T1 v1 L1 X1 q1 => ?_
  obtain ⟨_, rfl, rfl, K1, E1, FV1, FC1, FN1, V1, FM1, N1⟩ := q1
  have N0 := Fr.app N0 N1
  have K0 := K0.trans K1 (fun x hx => Or.inl hx)
  have E := E.keep K1
  have O := O.keep K1 (allS g_a (allS g_b all0))
  have Z0 : n0 ≤ T1.heap.size := Nat.le_trans Z0 K1.1
  show Gd p e below _ T1 (mkF m 5 #[.val (.ref a), .val (.int p1)] [(.ref a)])
  refine g_pop X1 hx hby i18_5 rfl ?_
  refine g_aloadN X1 hx hby i18_6 rfl rfl ?_
  refine g_areturn X1 hx hby hret rfl (fun _ => rfl) hlk rfl i18_7 (by decide) (by decide) ?_
  exact ⟨_, rfl, rfl, K0, E, FV1, FC1, FN1, V1, FM1, N0⟩
theorem i9_0 : Ins1 prog_5_method_2_code 0 (.aload_n 0) 1 1 := ⟨by decide +kernel, rfl⟩
theorem i9_1 : Ins1 prog_5_method_2_code 1 (.getfield 10) 3 4 := ⟨by decide +kernel, rfl⟩
theorem i9_4 : Ins1 prog_5_method_2_code 4 (.aload_n 1) 1 5 := ⟨by decide +kernel, rfl⟩
theorem i9_5 : Ins1 prog_5_method_2_code 5 (.invokevirtual 16) 3 8 := ⟨by decide +kernel, rfl⟩
theorem i9_8 : Ins1 prog_5_method_2_code 8 (.bipush 61) 2 10 := ⟨by decide +kernel, rfl⟩
theorem i9_10 : Ins1 prog_5_method_2_code 10 (.invokevirtual 20) 3 13 := ⟨by decide +kernel, rfl⟩
theorem i9_13 : Ins1 prog_5_method_2_code 13 (.aload_n 2) 1 14 := ⟨by decide +kernel, rfl⟩
theorem i9_14 : Ins1 prog_5_method_2_code 14 (.invokevirtual 16) 3 17 := ⟨by decide +kernel, rfl⟩
theorem i9_17 : Ins1 prog_5_method_2_code 17 (.bipush 10) 2 19 := ⟨by decide +kernel, rfl⟩
theorem i9_19 : Ins1 prog_5_method_2_code 19 (.invokevirtual 20) 3 22 := ⟨by decide +kernel, rfl⟩
theorem i9_22 : Ins1 prog_5_method_2_code 22 (.pop) 1 23 := ⟨by decide +kernel, rfl⟩
theorem i9_23 : Ins1 prog_5_method_2_code 23 (.aload_n 0) 1 24 := ⟨by decide +kernel, rfl⟩
theorem i9_24 : Ins1 prog_5_method_2_code 24 (.areturn) 1 25 := ⟨by decide +kernel, rfl⟩
theorem pn_com_example_cloudgavel_cloudgavel_cli_Report : plainName "com/example/cloudgavel/cloudgavel/cli/Report" = true := by first | (simp [plainName, overriddenIn]; done) | decide +kernel
theorem ef_9 (m : MethodId) (r : Addr) (o1 : Addr) (o2 : Addr) : entryFrame m #[(.ref r), (.ref o1), (.ref o2)] 3 = mkF m 0 #[.val (.ref r), .val (.ref o1), .val (.ref o2)] [] := by first | (simp [entryFrame, mkF, argsToLocals, Value.category]; done) | rfl
theorem pd_12 : parseMethodDescriptor "(Ljava/lang/String;)Ljava/lang/StringBuilder;" = some ⟨[(.object "java/lang/String")], some (.object "java/lang/StringBuilder")⟩ := by decide +kernel
theorem pd_13 : parseMethodDescriptor "(C)Ljava/lang/StringBuilder;" = some ⟨[.char], some (.object "java/lang/StringBuilder")⟩ := by decide +kernel
set_option maxRecDepth 65536 in
set_option maxHeartbeats 40000000 in
theorem rm9 (l : Launch) (Z : State) (a0 : Array Value) (hw : ∀ d ∈ tables_1, d.before a0 Z = true) (ws : List Jvm.Cond) (r : Addr) (o1 : Addr) (o2 : Addr) (cz : Int32) (a b : Addr) (kb : ClassId) (c1 : Addr) (kc1 : ClassId) (x1 : Int32) (c2 : Addr) (kc2 : ClassId) (x2 : Int32) (h0 : Heap) (n0 : Nat) (Z0 : n0 ≤ h0.size) (S0 : Sta Z Z.heap "java/lang/String" "COMPACT_STRINGS" "Z" (.int cz)) (hcz : ¬ cz = (0 : Int32)) (O : Old Z n0 h0) (FL : Fld Z h0 r "com/example/cloudgavel/cloudgavel/cli/Report" "lines" "Ljava/lang/StringBuilder;" (.ref a)) (E : Exa Z h0 a "java/lang/StringBuilder") (FV : Fld Z h0 a "java/lang/AbstractStringBuilder" "value" "[B" (.ref b)) (FC : Fld Z h0 a "java/lang/AbstractStringBuilder" "coder" "B" (.int 0)) (FN : Fld Z h0 a "java/lang/AbstractStringBuilder" "count" "I" (.int 0)) (V : Arv Z h0 b kb .byte (16 : Int32) [(.int (0 : Int32)), (.int (0 : Int32)), (.int (0 : Int32)), (.int (0 : Int32)), (.int (0 : Int32)), (.int (0 : Int32)), (.int (0 : Int32)), (.int (0 : Int32)), (.int (0 : Int32)), (.int (0 : Int32)), (.int (0 : Int32)), (.int (0 : Int32)), (.int (0 : Int32)), (.int (0 : Int32)), (.int (0 : Int32)), (.int (0 : Int32))] (.int (0 : Int32))) (FM : Fld Z h0 a "java/lang/AbstractStringBuilder" "maybeLatin1" "Z" (.int 0)) (E_p : Exa Z h0 o1 "java/lang/String") (FV_p : Fld Z h0 o1 "java/lang/String" "value" "[B" (.ref c1)) (FC_p : Fld Z h0 o1 "java/lang/String" "coder" "B" (.int 0)) (V_p : Arv Z h0 c1 kc1 .byte (1 : Int32) [(.int x1)] (.int (0 : Int32))) (E_q : Exa Z h0 o2 "java/lang/String") (FV_q : Fld Z h0 o2 "java/lang/String" "value" "[B" (.ref c2)) (FC_q : Fld Z h0 o2 "java/lang/String" "coder" "B" (.int 0)) (V_q : Arv Z h0 c2 kc2 .byte (1 : Int32) [(.int x2)] (.int (0 : Int32))) (g_a : n0 ≤ a) (g_b : n0 ≤ b) (n_r_a : r ≠ a) (n_r_b : r ≠ b) (n_o1_a : o1 ≠ a) (n_o1_b : o1 ≠ b) (n_c1_a : c1 ≠ a) (n_c1_b : c1 ≠ b) (n_o2_a : o2 ≠ a) (n_o2_b : o2 ≠ b) (n_c2_a : c2 ≠ a) (n_c2_b : c2 ≠ b) (n_a_b : a ≠ b) :
    Met1 l (⟨"com/example/cloudgavel/cloudgavel/cli/Report", "text", "(Ljava/lang/String;Ljava/lang/String;)Lcom/example/cloudgavel/cloudgavel/cli/Report;"⟩ : MethodName) prog_5_method_2_code 3 (some (.object "com/example/cloudgavel/cloudgavel/cli/Report")) ws ({ frames := 5, cells := 0, slots := 0, locals := 75 } : Room) #[(.ref r), (.ref o1), (.ref o2)] Z h0 (RV fun vv h L => vv = .ref r ∧ Keep h0 h [a, b] ∧ Exa Z h a "java/lang/StringBuilder" ∧ Fld Z h a "java/lang/AbstractStringBuilder" "value" "[B" (.ref b) ∧ Fld Z h a "java/lang/AbstractStringBuilder" "coder" "B" (.int 0) ∧ Fld Z h a "java/lang/AbstractStringBuilder" "count" "I" (.int (4 : Int32)) ∧ Arv Z h b kb .byte (16 : Int32) [(.int x1), (.int (nar .byte (61 : Int32).toInt8.toInt32)), (.int x2), (.int (nar .byte (10 : Int32).toInt8.toInt32)), (.int (0 : Int32)), (.int (0 : Int32)), (.int (0 : Int32)), (.int (0 : Int32)), (.int (0 : Int32)), (.int (0 : Int32)), (.int (0 : Int32)), (.int (0 : Int32)), (.int (0 : Int32)), (.int (0 : Int32)), (.int (0 : Int32)), (.int (0 : Int32))] (.int (0 : Int32)) ∧ Fld Z h a "java/lang/AbstractStringBuilder" "maybeLatin1" "Z" (.int 0) ∧ Fr n0 L) := by
  refine met_of (plainFor_of_name pn_com_example_cloudgavel_cloudgavel_cli_Report) ?_
  intro p e s m below meth c T0 X0 hx hby hml hZ hown hnm hret hlk e0 es
  have N0 := Fr.nil n0
  refine Gd.cast (ef_9 m r o1 o2) ?_
  have K0 : Keep h0 h0 [a, b] := Keep.refl _ _
  refine g_aloadN X0 hx hby i9_0 rfl rfl ?_
  refine g_getfield X0 hx hby hZ hown (host := "") (Or.inl (hw _ (List.mem_of_getElem? (i := 29) rfl))) Via.refl e0 FL i9_1 fun T1 X1 e1 => ?_
  refine g_aloadN X1 hx hby i9_4 rfl rfl ?_
  refine g_callV0 X1 hx hby hZ (y0 := (⟨"java/lang/StringBuilder", "append", "(Ljava/lang/String;)Ljava/lang/StringBuilder;"⟩ : MethodName)) (y := (⟨"java/lang/StringBuilder", "append", "(Ljava/lang/String;)Ljava/lang/StringBuilder;"⟩ : MethodName)) (argsL := [(.ref o1)]) (rest := []) hown (hw _ (List.mem_of_getElem? (i := 58) rfl)) (hw _ (List.mem_of_getElem? (i := 59) rfl)) (notFace_of_selects (args := #[]) (mvT hZ (hw _ (List.mem_of_getElem? (i := 61) rfl)))) (hw _ (List.mem_of_getElem? (i := 61) rfl)) (hw _ (List.mem_of_getElem? (i := 60) rfl)) (hw _ (List.mem_of_getElem? (i := 11) rfl)) (hw _ (List.mem_of_getElem? (i := 62) rfl)) (by decide) (a := a) E (rm10 l Z a0 hw [] a o1 cz b kb _ (0 : Int32) c1 kc1 (1 : Int32) _ 0 1 h0 n0 Z0 S0 hcz O E FV FC FN V FM E_p FV_p FC_p V_p g_a g_b n_a_b n_o1_a n_o1_b n_c1_a n_c1_b (by decide) (by decide) (by decide) (by decide) (by decide) rfl (by decide) (by decide)) e1 (by rw [hml]; rfl) pd_12 rfl rfl i9_5 (by decide) 0 rfl (by decide) (by decide) (by decide) fun T2 v2 L2 X2 q2 => ?_
  obtain ⟨_, rfl, rfl, K2, E2, FV2, FC2, FN2, V2, FM2, N2⟩ := q2
  have N0 := Fr.app N0 N2
  have K0 := K0.trans K2 (fun x hx => Or.inl hx)
  have FL := FL.keep K2 (ninS n_r_a (ninS n_r_b nin0))
  have E := E.keep K2
  have E_p := E_p.keep K2
  have FV_p := FV_p.keep K2 (ninS n_o1_a (ninS n_o1_b nin0))
  have FC_p := FC_p.keep K2 (ninS n_o1_a (ninS n_o1_b nin0))
  have V_p := V_p.keep K2 (ninS n_c1_a (ninS n_c1_b nin0))
  have E_q := E_q.keep K2
  have FV_q := FV_q.keep K2 (ninS n_o2_a (ninS n_o2_b nin0))
  have FC_q := FC_q.keep K2 (ninS n_o2_a (ninS n_o2_b nin0))
  have V_q := V_q.keep K2 (ninS n_c2_a (ninS n_c2_b nin0))
  have O := O.keep K2 (allS g_a (allS g_b all0))
  have Z0 : n0 ≤ T2.heap.size := Nat.le_trans Z0 K2.1
  have V2 : Arv Z T2.heap b kb .byte (16 : Int32) [(.int x1), (.int (0 : Int32)), (.int (0 : Int32)), (.int (0 : Int32)), (.int (0 : Int32)), (.int (0 : Int32)), (.int (0 : Int32)), (.int (0 : Int32)), (.int (0 : Int32)), (.int (0 : Int32)), (.int (0 : Int32)), (.int (0 : Int32)), (.int (0 : Int32)), (.int (0 : Int32)), (.int (0 : Int32)), (.int (0 : Int32))] (.int (0 : Int32)) := V2
  show Gd p e below _ T2 (mkF m 8 #[.val (.ref r), .val (.ref o1), .val (.ref o2)] [(.ref a)])
  refine g_bipush X2 hx hby i9_8 (z := (61 : Int32)) (by decide) ?_
  refine g_callV0 X2 hx hby hZ (y0 := (⟨"java/lang/StringBuilder", "append", "(C)Ljava/lang/StringBuilder;"⟩ : MethodName)) (y := (⟨"java/lang/StringBuilder", "append", "(C)Ljava/lang/StringBuilder;"⟩ : MethodName)) (argsL := [(.int (61 : Int32))]) (rest := []) hown (hw _ (List.mem_of_getElem? (i := 105) rfl)) (hw _ (List.mem_of_getElem? (i := 106) rfl)) (notFace_of_selects (args := #[]) (mvT hZ (hw _ (List.mem_of_getElem? (i := 108) rfl)))) (hw _ (List.mem_of_getElem? (i := 108) rfl)) (hw _ (List.mem_of_getElem? (i := 107) rfl)) (hw _ (List.mem_of_getElem? (i := 11) rfl)) (hw _ (List.mem_of_getElem? (i := 109) rfl)) (by decide) (a := a) E (rm18 l Z a0 hw [] a (61 : Int32) cz b kb _ ((0 : Int32) + (1 : Int32)) 1 T2.heap n0 Z0 S0 hcz O E FV2 FC2 FN2 V2 FM2 g_a g_b n_a_b (by decide) (by decide) (by decide) (Nat.le_of_ble_eq_true rfl) (by decide) (by decide) (by decide)) rfl (by rw [hml]; rfl) pd_13 rfl rfl i9_10 (by decide) 0 rfl (by decide) (by decide) (by decide) fun T3 v3 L3 X3 q3 => ?_
  obtain ⟨_, rfl, rfl, K3, E3, FV3, FC3, FN3, V3, FM3, N3⟩ := q3
  have N0 := Fr.app N0 N3
  have K0 := K0.trans K3 (fun x hx => Or.inl hx)
  have FL := FL.keep K3 (ninS n_r_a (ninS n_r_b nin0))
  have E := E.keep K3
  have E_p := E_p.keep K3
  have FV_p := FV_p.keep K3 (ninS n_o1_a (ninS n_o1_b nin0))
  have FC_p := FC_p.keep K3 (ninS n_o1_a (ninS n_o1_b nin0))
  have V_p := V_p.keep K3 (ninS n_c1_a (ninS n_c1_b nin0))
  have E_q := E_q.keep K3
  have FV_q := FV_q.keep K3 (ninS n_o2_a (ninS n_o2_b nin0))
  have FC_q := FC_q.keep K3 (ninS n_o2_a (ninS n_o2_b nin0))
  have V_q := V_q.keep K3 (ninS n_c2_a (ninS n_c2_b nin0))
  have O := O.keep K3 (allS g_a (allS g_b all0))
  have Z0 : n0 ≤ T3.heap.size := Nat.le_trans Z0 K3.1
  have V3 : Arv Z T3.heap b kb .byte (16 : Int32) [(.int x1), (.int (nar .byte (61 : Int32).toInt8.toInt32)), (.int (0 : Int32)), (.int (0 : Int32)), (.int (0 : Int32)), (.int (0 : Int32)), (.int (0 : Int32)), (.int (0 : Int32)), (.int (0 : Int32)), (.int (0 : Int32)), (.int (0 : Int32)), (.int (0 : Int32)), (.int (0 : Int32)), (.int (0 : Int32)), (.int (0 : Int32)), (.int (0 : Int32))] (.int (0 : Int32)) := V3
  show Gd p e below _ T3 (mkF m 13 #[.val (.ref r), .val (.ref o1), .val (.ref o2)] [(.ref a)])
  refine g_aloadN X3 hx hby i9_13 rfl rfl ?_
  refine g_callV0 X3 hx hby hZ (y0 := (⟨"java/lang/StringBuilder", "append", "(Ljava/lang/String;)Ljava/lang/StringBuilder;"⟩ : MethodName)) (y := (⟨"java/lang/StringBuilder", "append", "(Ljava/lang/String;)Ljava/lang/StringBuilder;"⟩ : MethodName)) (argsL := [(.ref o2)]) (rest := []) hown (hw _ (List.mem_of_getElem? (i := 58) rfl)) (hw _ (List.mem_of_getElem? (i := 59) rfl)) (notFace_of_selects (args := #[]) (mvT hZ (hw _ (List.mem_of_getElem? (i := 61) rfl)))) (hw _ (List.mem_of_getElem? (i := 61) rfl)) (hw _ (List.mem_of_getElem? (i := 60) rfl)) (hw _ (List.mem_of_getElem? (i := 11) rfl)) (hw _ (List.mem_of_getElem? (i := 62) rfl)) (by decide) (a := a) E (rm10 l Z a0 hw [] a o2 cz b kb _ (((0 : Int32) + (1 : Int32)) + (1 : Int32)) c2 kc2 (1 : Int32) _ 2 1 T3.heap n0 Z0 S0 hcz O E FV3 FC3 FN3 V3 FM3 E_q FV_q FC_q V_q g_a g_b n_a_b n_o2_a n_o2_b n_c2_a n_c2_b (by decide) (by decide) (by decide) (by decide) (by decide) rfl (by decide) (by decide)) rfl (by rw [hml]; rfl) pd_12 rfl rfl i9_14 (by decide) 0 rfl (by decide) (by decide) (by decide) fun T4 v4 L4 X4 q4 => ?_
  obtain ⟨_, rfl, rfl, K4, E4, FV4, FC4, FN4, V4, FM4, N4⟩ := q4
  have N0 := Fr.app N0 N4
  have K0 := K0.trans K4 (fun x hx => Or.inl hx)
  have FL := FL.keep K4 (ninS n_r_a (ninS n_r_b nin0))
  have E := E.keep K4
  have E_p := E_p.keep K4
  have FV_p := FV_p.keep K4 (ninS n_o1_a (ninS n_o1_b nin0))
  have FC_p := FC_p.keep K4 (ninS n_o1_a (ninS n_o1_b nin0))
  have V_p := V_p.keep K4 (ninS n_c1_a (ninS n_c1_b nin0))
  have E_q := E_q.keep K4
  have FV_q := FV_q.keep K4 (ninS n_o2_a (ninS n_o2_b nin0))
  have FC_q := FC_q.keep K4 (ninS n_o2_a (ninS n_o2_b nin0))
  have V_q := V_q.keep K4 (ninS n_c2_a (ninS n_c2_b nin0))
  have O := O.keep K4 (allS g_a (allS g_b all0))
  have Z0 : n0 ≤ T4.heap.size := Nat.le_trans Z0 K4.1
  have V4 : Arv Z T4.heap b kb .byte (16 : Int32) [(.int x1), (.int (nar .byte (61 : Int32).toInt8.toInt32)), (.int x2), (.int (0 : Int32)), (.int (0 : Int32)), (.int (0 : Int32)), (.int (0 : Int32)), (.int (0 : Int32)), (.int (0 : Int32)), (.int (0 : Int32)), (.int (0 : Int32)), (.int (0 : Int32)), (.int (0 : Int32)), (.int (0 : Int32)), (.int (0 : Int32)), (.int (0 : Int32))] (.int (0 : Int32)) := V4
  show Gd p e below _ T4 (mkF m 17 #[.val (.ref r), .val (.ref o1), .val (.ref o2)] [(.ref a)])
  refine g_bipush X4 hx hby i9_17 (z := (10 : Int32)) (by decide) ?_
  refine g_callV0 X4 hx hby hZ (y0 := (⟨"java/lang/StringBuilder", "append", "(C)Ljava/lang/StringBuilder;"⟩ : MethodName)) (y := (⟨"java/lang/StringBuilder", "append", "(C)Ljava/lang/StringBuilder;"⟩ : MethodName)) (argsL := [(.int (10 : Int32))]) (rest := []) hown (hw _ (List.mem_of_getElem? (i := 105) rfl)) (hw _ (List.mem_of_getElem? (i := 106) rfl)) (notFace_of_selects (args := #[]) (mvT hZ (hw _ (List.mem_of_getElem? (i := 108) rfl)))) (hw _ (List.mem_of_getElem? (i := 108) rfl)) (hw _ (List.mem_of_getElem? (i := 107) rfl)) (hw _ (List.mem_of_getElem? (i := 11) rfl)) (hw _ (List.mem_of_getElem? (i := 109) rfl)) (by decide) (a := a) E (rm18 l Z a0 hw [] a (10 : Int32) cz b kb _ ((((0 : Int32) + (1 : Int32)) + (1 : Int32)) + (1 : Int32)) 3 T4.heap n0 Z0 S0 hcz O E FV4 FC4 FN4 V4 FM4 g_a g_b n_a_b (by decide) (by decide) (by decide) (Nat.le_of_ble_eq_true rfl) (by decide) (by decide) (by decide)) rfl (by rw [hml]; rfl) pd_13 rfl rfl i9_19 (by decide) 0 rfl (by decide) (by decide) (by decide) fun T5 v5 L5 X5 q5 => ?_
  obtain ⟨_, rfl, rfl, K5, E5, FV5, FC5, FN5, V5, FM5, N5⟩ := q5
  have N0 := Fr.app N0 N5
  have K0 := K0.trans K5 (fun x hx => Or.inl hx)
  have FL := FL.keep K5 (ninS n_r_a (ninS n_r_b nin0))
  have E := E.keep K5
  have E_p := E_p.keep K5
  have FV_p := FV_p.keep K5 (ninS n_o1_a (ninS n_o1_b nin0))
  have FC_p := FC_p.keep K5 (ninS n_o1_a (ninS n_o1_b nin0))
  have V_p := V_p.keep K5 (ninS n_c1_a (ninS n_c1_b nin0))
  have E_q := E_q.keep K5
  have FV_q := FV_q.keep K5 (ninS n_o2_a (ninS n_o2_b nin0))
  have FC_q := FC_q.keep K5 (ninS n_o2_a (ninS n_o2_b nin0))
  have V_q := V_q.keep K5 (ninS n_c2_a (ninS n_c2_b nin0))
  have O := O.keep K5 (allS g_a (allS g_b all0))
  have Z0 : n0 ≤ T5.heap.size := Nat.le_trans Z0 K5.1
  have V5 : Arv Z T5.heap b kb .byte (16 : Int32) [(.int x1), (.int (nar .byte (61 : Int32).toInt8.toInt32)), (.int x2), (.int (nar .byte (10 : Int32).toInt8.toInt32)), (.int (0 : Int32)), (.int (0 : Int32)), (.int (0 : Int32)), (.int (0 : Int32)), (.int (0 : Int32)), (.int (0 : Int32)), (.int (0 : Int32)), (.int (0 : Int32)), (.int (0 : Int32)), (.int (0 : Int32)), (.int (0 : Int32)), (.int (0 : Int32))] (.int (0 : Int32)) := V5
  show Gd p e below _ T5 (mkF m 22 #[.val (.ref r), .val (.ref o1), .val (.ref o2)] [(.ref a)])
  refine g_pop X5 hx hby i9_22 rfl ?_
  refine g_aloadN X5 hx hby i9_23 rfl rfl ?_
  refine g_areturn X5 hx hby hret rfl (fun _ => rfl) hlk rfl i9_24 (by decide) (by decide) ?_
  exact ⟨_, rfl, rfl, K0, E, FV5, FC5, FN5, V5, FM5, N0⟩
theorem i4_0 : Ins1 jdk_68_method_2_code 0 (.aload_n 0) 1 1 := ⟨by decide +kernel, rfl⟩
theorem i4_1 : Ins1 jdk_68_method_2_code 1 (.invokespecial 3) 3 4 := ⟨by decide +kernel, rfl⟩
theorem i4_4 : Ins1 jdk_68_method_2_code 4 (.getstatic 18) 3 7 := ⟨by decide +kernel, rfl⟩
theorem i4_7 : InsB jdk_68_method_2_code 7 (.ifCond .eq 18) 18 10 25 := ⟨by decide +kernel, rfl, by decide, by decide⟩
theorem i4_10 : Ins1 jdk_68_method_2_code 10 (.aload_n 0) 1 11 := ⟨by decide +kernel, rfl⟩
theorem i4_11 : Ins1 jdk_68_method_2_code 11 (.iload_n 1) 1 12 := ⟨by decide +kernel, rfl⟩
theorem i4_12 : Ins1 jdk_68_method_2_code 12 (.newarray .byte) 2 14 := ⟨by decide +kernel, rfl⟩
theorem i4_14 : Ins1 jdk_68_method_2_code 14 (.putfield 15) 3 17 := ⟨by decide +kernel, rfl⟩
theorem i4_17 : Ins1 jdk_68_method_2_code 17 (.aload_n 0) 1 18 := ⟨by decide +kernel, rfl⟩
theorem i4_18 : Ins1 jdk_68_method_2_code 18 (.iconst 0) 1 19 := ⟨by decide +kernel, rfl⟩
theorem i4_19 : Ins1 jdk_68_method_2_code 19 (.putfield 22) 3 22 := ⟨by decide +kernel, rfl⟩
theorem i4_22 : InsB jdk_68_method_2_code 22 (.goto 16) 16 25 38 := ⟨by decide +kernel, rfl, by decide, by decide⟩
theorem i4_25 : Ins1 jdk_68_method_2_code 25 (.aload_n 0) 1 26 := ⟨by decide +kernel, rfl⟩
theorem i4_26 : Ins1 jdk_68_method_2_code 26 (.iload_n 1) 1 27 := ⟨by decide +kernel, rfl⟩
theorem i4_27 : Ins1 jdk_68_method_2_code 27 (.invokestatic 26) 3 30 := ⟨by decide +kernel, rfl⟩
theorem i4_30 : Ins1 jdk_68_method_2_code 30 (.putfield 15) 3 33 := ⟨by decide +kernel, rfl⟩
theorem i4_33 : Ins1 jdk_68_method_2_code 33 (.aload_n 0) 1 34 := ⟨by decide +kernel, rfl⟩
theorem i4_34 : Ins1 jdk_68_method_2_code 34 (.iconst 1) 1 35 := ⟨by decide +kernel, rfl⟩
theorem i4_35 : Ins1 jdk_68_method_2_code 35 (.putfield 22) 3 38 := ⟨by decide +kernel, rfl⟩
theorem i4_38 : Ins1 jdk_68_method_2_code 38 (.return_) 1 39 := ⟨by decide +kernel, rfl⟩
theorem ef_4 (m : MethodId) (a : Addr) (p1 : Int32) : entryFrame m #[(.ref a), (.int p1)] 2 = mkF m 0 #[.val (.ref a), .val (.int p1)] [] := by first | (simp [entryFrame, mkF, argsToLocals, Value.category]; done) | rfl
set_option maxRecDepth 65536 in
set_option maxHeartbeats 40000000 in
theorem rm4 (l : Launch) (Z : State) (a0 : Array Value) (hw : ∀ d ∈ tables_1, d.before a0 Z = true) (ws : List Jvm.Cond) (a : Addr) (p1 : Int32) (cz : Int32)  (h0 : Heap) (n0 : Nat) (Z0 : n0 ≤ h0.size) (S0 : Sta Z Z.heap "java/lang/String" "COMPACT_STRINGS" "Z" (.int cz)) (hcz : ¬ cz = (0 : Int32)) (O : Old Z n0 h0) (E_a : Exa Z h0 a "java/lang/StringBuilder") (FV : Fld Z h0 a "java/lang/AbstractStringBuilder" "value" "[B" .null) (FC : Fld Z h0 a "java/lang/AbstractStringBuilder" "coder" "B" (.int 0)) (FN : Fld Z h0 a "java/lang/AbstractStringBuilder" "count" "I" (.int 0)) (FM : Fld Z h0 a "java/lang/AbstractStringBuilder" "maybeLatin1" "Z" (.int 0)) (g_a : n0 ≤ a) (hp : p1 = 16) :
    Met1 l (⟨"java/lang/AbstractStringBuilder", "<init>", "(I)V"⟩ : MethodName) jdk_68_method_2_code 2 none ws ({ frames := 1, cells := 1, slots := 16, locals := 12 } : Room) #[(.ref a), (.int p1)] Z h0 (RN fun h L => Keep h0 h [a] ∧ ∃ b kb, Exa Z h a "java/lang/StringBuilder" ∧ Fld Z h a "java/lang/AbstractStringBuilder" "value" "[B" (.ref b) ∧ Fld Z h a "java/lang/AbstractStringBuilder" "coder" "B" (.int 0) ∧ Fld Z h a "java/lang/AbstractStringBuilder" "count" "I" (.int 0) ∧ Arv Z h b kb .byte (16 : Int32) [(.int (0 : Int32)), (.int (0 : Int32)), (.int (0 : Int32)), (.int (0 : Int32)), (.int (0 : Int32)), (.int (0 : Int32)), (.int (0 : Int32)), (.int (0 : Int32)), (.int (0 : Int32)), (.int (0 : Int32)), (.int (0 : Int32)), (.int (0 : Int32)), (.int (0 : Int32)), (.int (0 : Int32)), (.int (0 : Int32)), (.int (0 : Int32))] (.int (0 : Int32)) ∧ Fld Z h a "java/lang/AbstractStringBuilder" "maybeLatin1" "Z" (.int 0) ∧ n0 ≤ b ∧ h0.size ≤ b ∧ Fr n0 L) := by
  refine met_of (plainFor_of_name pn_java_lang_AbstractStringBuilder) ?_
  intro p e s m below meth c T0 X0 hx hby hml hZ hown hnm hret hlk e0 es
  have N0 := Fr.nil n0
  refine Gd.cast (ef_4 m a p1) ?_
  subst hp
  have K0 : Keep h0 h0 [a] := Keep.refl _ _
  refine g_aloadN X0 hx hby i4_0 rfl rfl ?_
  refine g_objInit X0 hx hby hZ hown (hw _ (List.mem_of_getElem? (i := 21) rfl)) (hw _ (List.mem_of_getElem? (i := 7) rfl)) (hw _ (List.mem_of_getElem? (i := 8) rfl)) e0 (by rw [hml]; rfl) i4_1 0 rfl (by decide) (by decide) fun T1 X1 e1 => ?_
  refine g_getstatic X1 hx hby hZ hown (host := "") (Or.inl (hw _ (List.mem_of_getElem? (i := 22) rfl))) Via.refl e1 (S0.ext O.2) i4_4 fun T2 X2 e2 => ?_
  refine g_if_eq X2 hx hby i4_7 (fun c7_3 => False.elim (hcz c7_3)) fun c7_3 => ?_
  refine g_aloadN X2 hx hby i4_10 rfl rfl ?_
  refine g_iloadN X2 hx hby i4_11 rfl ?_
  refine g_newarray X2 hx hby hZ (ty := .byte) rfl (hw _ (List.mem_of_getElem? (i := 24) rfl)) e2 i4_12 (by decide) 16 (by decide) (by decide) (by decide) (by decide) fun T4 h4 b4 k4 X4 e4 E4 hb4 V4 => ?_
  have ne_a_b4 : a ≠ b4 := Nat.ne_of_lt (Nat.lt_of_lt_of_le E_a.lt (Nat.le_of_eq hb4.symm))
  have g_b4 : n0 ≤ b4 := Nat.le_trans Z0 (Nat.le_of_eq hb4.symm)
  have E_a := E_a.ext E4
  have FV := FV.ext E4
  have FC := FC.ext E4
  have FN := FN.ext E4
  have FM := FM.ext E4
  have O := O.ext E4
  have sz_b4 : h0.size ≤ b4 := Nat.le_trans K0.1 (Nat.le_of_eq hb4.symm)
  have K0 := K0.ext E4
  have Z0 : n0 ≤ h4.size := Nat.le_trans Z0 E4.1
  have V4 : Arv Z h4 b4 k4 .byte (16 : Int32) [(.int (0 : Int32)), (.int (0 : Int32)), (.int (0 : Int32)), (.int (0 : Int32)), (.int (0 : Int32)), (.int (0 : Int32)), (.int (0 : Int32)), (.int (0 : Int32)), (.int (0 : Int32)), (.int (0 : Int32)), (.int (0 : Int32)), (.int (0 : Int32)), (.int (0 : Int32)), (.int (0 : Int32)), (.int (0 : Int32)), (.int (0 : Int32))] (.int (0 : Int32)) := V4.pad (pad_rep [] _ 16)
  refine g_putfield X4 hx hby hZ hown (host := "") (Or.inl (hw _ (List.mem_of_getElem? (i := 25) rfl))) Via.refl e4 FV E_a (Or.inl (hw _ (List.mem_of_getElem? (i := 26) rfl))) (hw _ (List.mem_of_getElem? (i := 10) rfl)) (ty := (.array .byte)) (by decide) rfl rfl i4_14 fun T5 h5 X5 e5 W5 => ?_
  have FV := FV.same W5
  have E_a := E_a.wr W5
  have FC := FC.other W5 (Or.inr (slot_ne (Or.inl (hw _ (List.mem_of_getElem? (i := 28) rfl))) (Or.inl (hw _ (List.mem_of_getElem? (i := 26) rfl))) (by decide) (t := .byte) (t' := (.array .byte)) (by decide) (by decide)))
  have FN := FN.other W5 (Or.inr (slot_ne (Or.inl (hw _ (List.mem_of_getElem? (i := 79) rfl))) (Or.inl (hw _ (List.mem_of_getElem? (i := 26) rfl))) (by decide) (t := .int) (t' := (.array .byte)) (by decide) (by decide)))
  have FM := FM.other W5 (Or.inr (slot_ne (Or.inl (hw _ (List.mem_of_getElem? (i := 168) rfl))) (Or.inl (hw _ (List.mem_of_getElem? (i := 26) rfl))) (by decide) (t := .boolean) (t' := (.array .byte)) (by decide) (by decide)))
  have V4 := V4.other W5 (Ne.symm ne_a_b4)
  have O := O.wr W5 g_a
  have Z0 : n0 ≤ h5.size := Nat.le_trans Z0 (Nat.le_of_eq W5.size.symm)
  have N0 := Fr.snoc X5 N0 g_a
  have K0 := K0.wr W5 (Or.inl (List.mem_singleton.mpr rfl))
  refine g_aloadN X5 hx hby i4_17 rfl rfl ?_
  refine g_iconst X5 hx hby i4_18 (z := (0 : Int32)) (by decide) ?_
  refine g_putfieldN X5 hx hby hZ hown (hw _ (List.mem_of_getElem? (i := 27) rfl)) Via.refl e5 FC E_a (Or.inl (hw _ (List.mem_of_getElem? (i := 28) rfl))) (hw _ (List.mem_of_getElem? (i := 10) rfl)) (ty := .byte) (v' := (.int (nar .byte (0 : Int32)))) (by decide) rfl (fits_nar_byte _) i4_19 fun T6 h6 X6 e6 W6 => ?_
  have FC := FC.same W6
  have E_a := E_a.wr W6
  have FV := FV.other W6 (Or.inr (slot_ne (Or.inl (hw _ (List.mem_of_getElem? (i := 26) rfl))) (Or.inl (hw _ (List.mem_of_getElem? (i := 28) rfl))) (by decide) (t := (.array .byte)) (t' := .byte) (by decide) (by decide)))
  have FN := FN.other W6 (Or.inr (slot_ne (Or.inl (hw _ (List.mem_of_getElem? (i := 79) rfl))) (Or.inl (hw _ (List.mem_of_getElem? (i := 28) rfl))) (by decide) (t := .int) (t' := .byte) (by decide) (by decide)))
  have FM := FM.other W6 (Or.inr (slot_ne (Or.inl (hw _ (List.mem_of_getElem? (i := 168) rfl))) (Or.inl (hw _ (List.mem_of_getElem? (i := 28) rfl))) (by decide) (t := .boolean) (t' := .byte) (by decide) (by decide)))
  have V4 := V4.other W6 (Ne.symm ne_a_b4)
  have O := O.wr W6 g_a
  have Z0 : n0 ≤ h6.size := Nat.le_trans Z0 (Nat.le_of_eq W6.size.symm)
  have N0 := Fr.snoc X6 N0 g_a
  have K0 := K0.wr W6 (Or.inl (List.mem_singleton.mpr rfl))
  refine g_goto X6 hx hby i4_22 ?_
  refine g_return X6 hx hby hret hlk i4_38 (by decide) (by decide) ?_
  rw [e6]
  exact ⟨rfl, K0, b4, _, E_a, FV, FC, FN, V4, FM, g_b4, sz_b4, N0⟩
theorem i3_0 : Ins1 jdk_67_method_1_code 0 (.aload_n 0) 1 1 := ⟨by decide +kernel, rfl⟩
theorem i3_1 : Ins1 jdk_67_method_1_code 1 (.bipush 16) 2 3 := ⟨by decide +kernel, rfl⟩
theorem i3_3 : Ins1 jdk_67_method_1_code 3 (.invokespecial 1) 3 6 := ⟨by decide +kernel, rfl⟩
theorem i3_6 : Ins1 jdk_67_method_1_code 6 (.return_) 1 7 := ⟨by decide +kernel, rfl⟩
theorem ef_3 (m : MethodId) (a : Addr) : entryFrame m #[(.ref a)] 1 = mkF m 0 #[.val (.ref a)] [] := by first | (simp [entryFrame, mkF, argsToLocals, Value.category]; done) | rfl
set_option maxRecDepth 65536 in
set_option maxHeartbeats 40000000 in
theorem rm3 (l : Launch) (Z : State) (a0 : Array Value) (hw : ∀ d ∈ tables_1, d.before a0 Z = true) (ws : List Jvm.Cond) (a : Addr) (cz : Int32)  (h0 : Heap) (n0 : Nat) (Z0 : n0 ≤ h0.size) (S0 : Sta Z Z.heap "java/lang/String" "COMPACT_STRINGS" "Z" (.int cz)) (hcz : ¬ cz = (0 : Int32)) (O : Old Z n0 h0) (E_a : Exa Z h0 a "java/lang/StringBuilder") (FV : Fld Z h0 a "java/lang/AbstractStringBuilder" "value" "[B" .null) (FC : Fld Z h0 a "java/lang/AbstractStringBuilder" "coder" "B" (.int 0)) (FN : Fld Z h0 a "java/lang/AbstractStringBuilder" "count" "I" (.int 0)) (FM : Fld Z h0 a "java/lang/AbstractStringBuilder" "maybeLatin1" "Z" (.int 0)) (g_a : n0 ≤ a) :
    Met1 l (⟨"java/lang/StringBuilder", "<init>", "()V"⟩ : MethodName) jdk_67_method_1_code 1 none ws ({ frames := 2, cells := 1, slots := 16, locals := 25 } : Room) #[(.ref a)] Z h0 (RN fun h L => Keep h0 h [a] ∧ ∃ b kb, Exa Z h a "java/lang/StringBuilder" ∧ Fld Z h a "java/lang/AbstractStringBuilder" "value" "[B" (.ref b) ∧ Fld Z h a "java/lang/AbstractStringBuilder" "coder" "B" (.int 0) ∧ Fld Z h a "java/lang/AbstractStringBuilder" "count" "I" (.int 0) ∧ Arv Z h b kb .byte (16 : Int32) [(.int (0 : Int32)), (.int (0 : Int32)), (.int (0 : Int32)), (.int (0 : Int32)), (.int (0 : Int32)), (.int (0 : Int32)), (.int (0 : Int32)), (.int (0 : Int32)), (.int (0 : Int32)), (.int (0 : Int32)), (.int (0 : Int32)), (.int (0 : Int32)), (.int (0 : Int32)), (.int (0 : Int32)), (.int (0 : Int32)), (.int (0 : Int32))] (.int (0 : Int32)) ∧ Fld Z h a "java/lang/AbstractStringBuilder" "maybeLatin1" "Z" (.int 0) ∧ n0 ≤ b ∧ h0.size ≤ b ∧ Fr n0 L) := by
  refine met_of (plainFor_of_name pn_java_lang_StringBuilder) ?_
  intro p e s m below meth c T0 X0 hx hby hml hZ hown hnm hret hlk e0 es
  have N0 := Fr.nil n0
  refine Gd.cast (ef_3 m a) ?_
  have K0 : Keep h0 h0 [a] := Keep.refl _ _
  refine g_aloadN X0 hx hby i3_0 rfl rfl ?_
  refine g_bipush X0 hx hby i3_1 (z := (16 : Int32)) (by decide) ?_
  refine g_callInit0 X0 hx hby hZ (y := (⟨"java/lang/AbstractStringBuilder", "<init>", "(I)V"⟩ : MethodName)) (argsL := [(.int (16 : Int32))]) (rest := []) rfl hown (hw _ (List.mem_of_getElem? (i := 15) rfl)) (hw _ (List.mem_of_getElem? (i := 16) rfl)) (hw _ (List.mem_of_getElem? (i := 19) rfl)) (hw _ (List.mem_of_getElem? (i := 20) rfl)) (by decide) (a := a) (rm4 l Z a0 hw [] a (16 : Int32) cz h0 n0 Z0 S0 hcz O E_a FV FC FN FM g_a rfl) e0 (by rw [hml]; rfl) pd_7 rfl rfl i3_3 (by decide) 0 rfl (by decide) (by decide) (by decide) fun T1 v1 L1 X1 q1 => ?_
  obtain ⟨rfl, K1, b1, kb1, E1, FV1, FC1, FN1, V1, FM1, g_b1, sb1, N1⟩ := q1
  have N0 := Fr.app N0 N1
  have ne_a_b1 : a ≠ b1 := Nat.ne_of_lt (Nat.lt_of_lt_of_le E_a.lt sb1)
  have sz_b1 : h0.size ≤ b1 := Nat.le_trans K0.1 sb1
  have K0 := K0.trans K1 (fun x hx => Or.inl hx)
  have E_a := E_a.keep K1
  have O := O.keep K1 (allS g_a all0)
  have Z0 : n0 ≤ T1.heap.size := Nat.le_trans Z0 K1.1
  show Gd p e below _ T1 (mkF m 6 #[.val (.ref a)] [])
  refine g_return X1 hx hby hret hlk i3_6 (by decide) (by decide) ?_
  exact ⟨rfl, K0, b1, _, E_a, FV1, FC1, FN1, V1, FM1, g_b1, sz_b1, N0⟩
theorem i1_0 : Ins1 prog_5_method_1_code 0 (.aload_n 0) 1 1 := ⟨by decide +kernel, rfl⟩
theorem i1_1 : Ins1 prog_5_method_1_code 1 (.invokespecial 1) 3 4 := ⟨by decide +kernel, rfl⟩
theorem i1_4 : Ins1 prog_5_method_1_code 4 (.aload_n 0) 1 5 := ⟨by decide +kernel, rfl⟩
theorem i1_5 : Ins1 prog_5_method_1_code 5 (.new 7) 3 8 := ⟨by decide +kernel, rfl⟩
theorem i1_8 : Ins1 prog_5_method_1_code 8 (.dup) 1 9 := ⟨by decide +kernel, rfl⟩
theorem i1_9 : Ins1 prog_5_method_1_code 9 (.invokespecial 9) 3 12 := ⟨by decide +kernel, rfl⟩
theorem i1_12 : Ins1 prog_5_method_1_code 12 (.putfield 10) 3 15 := ⟨by decide +kernel, rfl⟩
theorem i1_15 : Ins1 prog_5_method_1_code 15 (.return_) 1 16 := ⟨by decide +kernel, rfl⟩
theorem ef_1 (m : MethodId) (r : Addr) : entryFrame m #[(.ref r)] 1 = mkF m 0 #[.val (.ref r)] [] := by first | (simp [entryFrame, mkF, argsToLocals, Value.category]; done) | rfl
theorem pd_14 : parseMethodDescriptor "()V" = some ⟨[], none⟩ := by decide +kernel
set_option maxRecDepth 65536 in
set_option maxHeartbeats 40000000 in
theorem rm1 (l : Launch) (Z : State) (a0 : Array Value) (hw : ∀ d ∈ tables_1, d.before a0 Z = true) (ws : List Jvm.Cond) (r : Addr) (cz : Int32)  (h0 : Heap) (n0 : Nat) (Z0 : n0 ≤ h0.size) (S0 : Sta Z Z.heap "java/lang/String" "COMPACT_STRINGS" "Z" (.int cz)) (hcz : ¬ cz = (0 : Int32)) (O : Old Z n0 h0) (E_r : Exa Z h0 r "com/example/cloudgavel/cloudgavel/cli/Report") (FL : Fld Z h0 r "com/example/cloudgavel/cloudgavel/cli/Report" "lines" "Ljava/lang/StringBuilder;" .null) (g_r : n0 ≤ r) :
    Met1 l (⟨"com/example/cloudgavel/cloudgavel/cli/Report", "<init>", "()V"⟩ : MethodName) prog_5_method_1_code 1 none ws ({ frames := 3, cells := 2, slots := 20, locals := 39 } : Room) #[(.ref r)] Z h0 (RN fun h L => Keep h0 h [r] ∧ ∃ a, Exa Z h r "com/example/cloudgavel/cloudgavel/cli/Report" ∧ Fld Z h r "com/example/cloudgavel/cloudgavel/cli/Report" "lines" "Ljava/lang/StringBuilder;" (.ref a) ∧ n0 ≤ a ∧ h0.size ≤ a ∧ ∃ b, a ≠ b ∧ ∃ kb, Exa Z h a "java/lang/StringBuilder" ∧ Fld Z h a "java/lang/AbstractStringBuilder" "value" "[B" (.ref b) ∧ Fld Z h a "java/lang/AbstractStringBuilder" "coder" "B" (.int 0) ∧ Fld Z h a "java/lang/AbstractStringBuilder" "count" "I" (.int 0) ∧ Arv Z h b kb .byte (16 : Int32) [(.int (0 : Int32)), (.int (0 : Int32)), (.int (0 : Int32)), (.int (0 : Int32)), (.int (0 : Int32)), (.int (0 : Int32)), (.int (0 : Int32)), (.int (0 : Int32)), (.int (0 : Int32)), (.int (0 : Int32)), (.int (0 : Int32)), (.int (0 : Int32)), (.int (0 : Int32)), (.int (0 : Int32)), (.int (0 : Int32)), (.int (0 : Int32))] (.int (0 : Int32)) ∧ Fld Z h a "java/lang/AbstractStringBuilder" "maybeLatin1" "Z" (.int 0) ∧ n0 ≤ b ∧ h0.size ≤ b ∧ Fr n0 L) := by
  refine met_of (plainFor_of_name pn_com_example_cloudgavel_cloudgavel_cli_Report) ?_
  intro p e s m below meth c T0 X0 hx hby hml hZ hown hnm hret hlk e0 es
  have N0 := Fr.nil n0
  refine Gd.cast (ef_1 m r) ?_
  have K0 : Keep h0 h0 [r] := Keep.refl _ _
  refine g_aloadN X0 hx hby i1_0 rfl rfl ?_
  refine g_objInit X0 hx hby hZ hown (hw _ (List.mem_of_getElem? (i := 6) rfl)) (hw _ (List.mem_of_getElem? (i := 7) rfl)) (hw _ (List.mem_of_getElem? (i := 8) rfl)) e0 (by rw [hml]; rfl) i1_1 0 rfl (by decide) (by decide) fun T1 X1 e1 => ?_
  refine g_aloadN X1 hx hby i1_4 rfl rfl ?_
  refine g_new X1 hx hby hZ hown (hw _ (List.mem_of_getElem? (i := 9) rfl)) (hw _ (List.mem_of_getElem? (i := 10) rfl)) (hw _ (List.mem_of_getElem? (i := 11) rfl)) e1 i1_5 (by decide) (by decide) fun T2 h2 b2 X2 e2 E2 hb2 A2 D2 => ?_
  have ne_r_b2 : r ≠ b2 := Nat.ne_of_lt (Nat.lt_of_lt_of_le E_r.lt (Nat.le_of_eq hb2.symm))
  have g_b2 : n0 ≤ b2 := Nat.le_trans Z0 (Nat.le_of_eq hb2.symm)
  have E_r := E_r.ext E2
  have FL := FL.ext E2
  have O := O.ext E2
  have sz_b2 : h0.size ≤ b2 := Nat.le_trans K0.1 (Nat.le_of_eq hb2.symm)
  have K0 := K0.ext E2
  have Z0 : n0 ≤ h2.size := Nat.le_trans Z0 E2.1
  have F2_value : Fld Z h2 b2 "java/lang/AbstractStringBuilder" "value" "[B" .null := D2 (Or.inl (hw _ (List.mem_of_getElem? (i := 26) rfl))) (ty := (.array .byte)) (by decide)
  have F2_coder : Fld Z h2 b2 "java/lang/AbstractStringBuilder" "coder" "B" (.int (0 : Int32)) := D2 (Or.inl (hw _ (List.mem_of_getElem? (i := 28) rfl))) (ty := .byte) (by decide)
  have F2_count : Fld Z h2 b2 "java/lang/AbstractStringBuilder" "count" "I" (.int (0 : Int32)) := D2 (Or.inl (hw _ (List.mem_of_getElem? (i := 79) rfl))) (ty := .int) (by decide)
  have F2_maybeLatin1 : Fld Z h2 b2 "java/lang/AbstractStringBuilder" "maybeLatin1" "Z" (.int (0 : Int32)) := D2 (Or.inl (hw _ (List.mem_of_getElem? (i := 168) rfl))) (ty := .boolean) (by decide)
  refine g_dup X2 hx hby i1_8 rfl ?_
  refine g_callInit0 X2 hx hby hZ (y := (⟨"java/lang/StringBuilder", "<init>", "()V"⟩ : MethodName)) (argsL := []) (rest := [(.ref b2), (.ref r)]) rfl hown (hw _ (List.mem_of_getElem? (i := 12) rfl)) (hw _ (List.mem_of_getElem? (i := 13) rfl)) (hw _ (List.mem_of_getElem? (i := 11) rfl)) (hw _ (List.mem_of_getElem? (i := 14) rfl)) (by decide) (a := b2) (rm3 l Z a0 hw [] b2 cz h2 n0 Z0 S0 hcz O A2 F2_value F2_coder F2_count F2_maybeLatin1 g_b2) e2 (by rw [hml]; rfl) pd_14 rfl rfl i1_9 (by decide) 2 rfl (by decide) (by decide) (by decide) fun T3 v3 L3 X3 q3 => ?_
  obtain ⟨rfl, K3, b3, kb3, E3, FV3, FC3, FN3, V3, FM3, g_b3, sb3, N3⟩ := q3
  have N0 := Fr.app N0 N3
  have ne_r_b3 : r ≠ b3 := Nat.ne_of_lt (Nat.lt_of_lt_of_le E_r.lt sb3)
  have ne_b2_b3 : b2 ≠ b3 := Nat.ne_of_lt (Nat.lt_of_lt_of_le A2.lt sb3)
  have sz_b3 : h0.size ≤ b3 := Nat.le_trans K0.1 sb3
  have K0 := K0.trans K3 (fun x hx => Or.inr (by cases hx with | head => exact sz_b2 | tail _ q => cases q))
  have E_r := E_r.keep K3
  have FL := FL.keep K3 (ninS ne_r_b2 nin0)
  have A2 := A2.keep K3
  have O := O.keep K3 (allS g_b2 all0)
  have Z0 : n0 ≤ T3.heap.size := Nat.le_trans Z0 K3.1
  show Gd p e below _ T3 (mkF m 12 #[.val (.ref r)] [(.ref b2), (.ref r)])
  refine g_putfield X3 hx hby hZ hown (host := "") (Or.inl (hw _ (List.mem_of_getElem? (i := 29) rfl))) Via.refl rfl FL E_r (Or.inr ⟨(hw _ (List.mem_of_getElem? (i := 30) rfl)), rfl, hnm⟩) (hw _ (List.mem_of_getElem? (i := 1) rfl)) (ty := (.object "java/lang/StringBuilder")) (by decide) rfl rfl i1_12 fun T4 h4 X4 e4 W4 => ?_
  have FL := FL.same W4
  have E_r := E_r.wr W4
  have A2 := A2.wr W4
  have FV3 := FV3.other W4 (Or.inl (Ne.symm ne_r_b2))
  have FC3 := FC3.other W4 (Or.inl (Ne.symm ne_r_b2))
  have FN3 := FN3.other W4 (Or.inl (Ne.symm ne_r_b2))
  have FM3 := FM3.other W4 (Or.inl (Ne.symm ne_r_b2))
  have V3 := V3.other W4 (Ne.symm ne_r_b3)
  have O := O.wr W4 g_r
  have Z0 : n0 ≤ h4.size := Nat.le_trans Z0 (Nat.le_of_eq W4.size.symm)
  have N0 := Fr.snoc X4 N0 g_r
  have K0 := K0.wr W4 (Or.inl (List.mem_singleton.mpr rfl))
  refine g_return X4 hx hby hret hlk i1_15 (by decide) (by decide) ?_
  rw [e4]
  exact ⟨rfl, K0, b2, E_r, FL, g_b2, sz_b2, b3, ne_b2_b3, _, A2, FV3, FC3, FN3, V3, FM3, g_b3, sz_b3, N0⟩
theorem i25_0 : Ins1 jdk_67_method_93_code 0 (.aload_n 0) 1 1 := ⟨by decide +kernel, rfl⟩
theorem i25_1 : Ins1 jdk_67_method_93_code 1 (.invokespecial 343) 3 4 := ⟨by decide +kernel, rfl⟩
theorem i25_4 : Ins1 jdk_67_method_93_code 4 (.ireturn) 1 5 := ⟨by decide +kernel, rfl⟩
theorem ef_25 (m : MethodId) (a : Addr) : entryFrame m #[(.ref a)] 1 = mkF m 0 #[.val (.ref a)] [] := by first | (simp [entryFrame, mkF, argsToLocals, Value.category]; done) | rfl
set_option maxRecDepth 65536 in
set_option maxHeartbeats 40000000 in
theorem rm25 (l : Launch) (Z : State) (a0 : Array Value) (hw : ∀ d ∈ tables_1, d.before a0 Z = true) (ws : List Jvm.Cond) (a : Addr) (b : Addr) (kb : ClassId) (vd : List Value) (cn : Int32) (h0 : Heap) (n0 : Nat) (Z0 : n0 ≤ h0.size) (E : Exa Z h0 a "java/lang/StringBuilder") (FV : Fld Z h0 a "java/lang/AbstractStringBuilder" "value" "[B" (.ref b)) (FC : Fld Z h0 a "java/lang/AbstractStringBuilder" "coder" "B" (.int 0)) (FN : Fld Z h0 a "java/lang/AbstractStringBuilder" "count" "I" (.int cn)) (V : Arv Z h0 b kb .byte (16 : Int32) vd (.int (0 : Int32))) :
    Met1 l (⟨"java/lang/StringBuilder", "length", "()I"⟩ : MethodName) jdk_67_method_93_code 1 (some .int) ws ({ frames := 1, cells := 0, slots := 0, locals := 12 } : Room) #[(.ref a)] Z h0 (RV fun vv h L => vv = .int cn ∧ h = h0 ∧ Fr n0 L) := by
  refine met_of (plainFor_of_name pn_java_lang_StringBuilder) ?_
  intro p e s m below meth c T0 X0 hx hby hml hZ hown hnm hret hlk e0 es
  have N0 := Fr.nil n0
  refine Gd.cast (ef_25 m a) ?_
  refine g_aloadN X0 hx hby i25_0 rfl rfl ?_
  refine g_callUp0 X0 hx hby hZ (y := (⟨"java/lang/AbstractStringBuilder", "length", "()I"⟩ : MethodName)) (argsL := []) (rest := []) hown (hw _ (List.mem_of_getElem? (i := 149) rfl)) (own_same (hw _ (List.mem_of_getElem? (i := 145) rfl)) (hw _ (List.mem_of_getElem? (i := 135) rfl)) (by decide)) (hw _ (List.mem_of_getElem? (i := 145) rfl)) (hw _ (List.mem_of_getElem? (i := 65) rfl)) (hw _ (List.mem_of_getElem? (i := 19) rfl)) (hw _ (List.mem_of_getElem? (i := 150) rfl)) (by decide) (a := a) (Ins.self E) (rm26 l Z a0 hw [] a b kb _ cn h0 n0 Z0 E FV FC FN V) e0 (by rw [hml]; rfl) pd_6 rfl rfl i25_1 (by decide) 0 rfl (by decide) (by decide) (by decide) fun T1 v1 L1 X1 q1 => ?_
  obtain ⟨_, rfl, rfl, e1, N1⟩ := q1
  have N0 := Fr.app N0 N1
  show Gd p e below _ T1 (mkF m 4 #[.val (.ref a)] [(.int cn)])
  refine g_ireturn X1 hx hby hret hlk i25_4 (by decide) (by decide) ?_
  exact ⟨_, rfl, rfl, e1, N0⟩
theorem i27_0 : Ins1 jdk_68_method_72_code 0 (.getstatic 18) 3 3 := ⟨by decide +kernel, rfl⟩
theorem i27_3 : InsB jdk_68_method_72_code 3 (.ifCond .eq 18) 18 6 21 := ⟨by decide +kernel, rfl, by decide, by decide⟩
theorem i27_6 : Ins1 jdk_68_method_72_code 6 (.aload_n 0) 1 7 := ⟨by decide +kernel, rfl⟩
theorem i27_7 : Ins1 jdk_68_method_72_code 7 (.getfield 22) 3 10 := ⟨by decide +kernel, rfl⟩
theorem i27_10 : Ins1 jdk_68_method_72_code 10 (.aload_n 1) 1 11 := ⟨by decide +kernel, rfl⟩
theorem i27_11 : Ins1 jdk_68_method_72_code 11 (.invokevirtual 70) 3 14 := ⟨by decide +kernel, rfl⟩
theorem i27_14 : InsB jdk_68_method_72_code 14 (.if_icmp .eq 7) 7 17 21 := ⟨by decide +kernel, rfl, by decide, by decide⟩
theorem i27_17 : Ins1 jdk_68_method_72_code 17 (.aload_n 0) 1 18 := ⟨by decide +kernel, rfl⟩
theorem i27_18 : Ins1 jdk_68_method_72_code 18 (.invokevirtual 195) 3 21 := ⟨by decide +kernel, rfl⟩
theorem i27_21 : Ins1 jdk_68_method_72_code 21 (.return_) 1 22 := ⟨by decide +kernel, rfl⟩
theorem ef_27 (m : MethodId) (a : Addr) (o : Addr) : entryFrame m #[(.ref a), (.ref o)] 2 = mkF m 0 #[.val (.ref a), .val (.ref o)] [] := by first | (simp [entryFrame, mkF, argsToLocals, Value.category]; done) | rfl
set_option maxRecDepth 65536 in
set_option maxHeartbeats 40000000 in
theorem rm27 (l : Launch) (Z : State) (a0 : Array Value) (hw : ∀ d ∈ tables_1, d.before a0 Z = true) (ws : List Jvm.Cond) (a : Addr) (o : Addr) (cz : Int32) (b : Addr) (kb : ClassId) (vd : List Value) (cn : Int32) (ob : Addr) (kob : ClassId) (vd_o : List Value) (on : Int32) (h0 : Heap) (n0 : Nat) (Z0 : n0 ≤ h0.size) (S0 : Sta Z Z.heap "java/lang/String" "COMPACT_STRINGS" "Z" (.int cz)) (hcz : ¬ cz = (0 : Int32)) (O : Old Z n0 h0) (E : Exa Z h0 a "java/lang/StringBuilder") (FV : Fld Z h0 a "java/lang/AbstractStringBuilder" "value" "[B" (.ref b)) (FC : Fld Z h0 a "java/lang/AbstractStringBuilder" "coder" "B" (.int 0)) (FN : Fld Z h0 a "java/lang/AbstractStringBuilder" "count" "I" (.int cn)) (V : Arv Z h0 b kb .byte (16 : Int32) vd (.int (0 : Int32))) (E_o : Exa Z h0 o "java/lang/StringBuilder") (FV_o : Fld Z h0 o "java/lang/AbstractStringBuilder" "value" "[B" (.ref ob)) (FC_o : Fld Z h0 o "java/lang/AbstractStringBuilder" "coder" "B" (.int 0)) (FN_o : Fld Z h0 o "java/lang/AbstractStringBuilder" "count" "I" (.int on)) (V_o : Arv Z h0 ob kob .byte (16 : Int32) vd_o (.int (0 : Int32))) :
    Met1 l (⟨"java/lang/AbstractStringBuilder", "inflateIfNeededFor", "(Ljava/lang/AbstractStringBuilder;)V"⟩ : MethodName) jdk_68_method_72_code 2 none ws ({ frames := 1, cells := 0, slots := 0, locals := 13 } : Room) #[(.ref a), (.ref o)] Z h0 (RN fun h L => h = h0 ∧ Fr n0 L) := by
  refine met_of (plainFor_of_name pn_java_lang_AbstractStringBuilder) ?_
  intro p e s m below meth c T0 X0 hx hby hml hZ hown hnm hret hlk e0 es
  have N0 := Fr.nil n0
  refine Gd.cast (ef_27 m a o) ?_
  refine g_getstatic X0 hx hby hZ hown (host := "") (Or.inl (hw _ (List.mem_of_getElem? (i := 22) rfl))) Via.refl e0 (S0.ext O.2) i27_0 fun T1 X1 e1 => ?_
  refine g_if_eq X1 hx hby i27_3 (fun c3_2 => False.elim (hcz c3_2)) fun c3_2 => ?_
  refine g_aloadN X1 hx hby i27_6 rfl rfl ?_
  refine g_getfield X1 hx hby hZ hown (host := "") (Or.inl (hw _ (List.mem_of_getElem? (i := 27) rfl))) Via.refl e1 FC i27_7 fun T3 X3 e3 => ?_
  refine g_aloadN X3 hx hby i27_10 rfl rfl ?_
  refine g_callV0 X3 hx hby hZ (y0 := (⟨"java/lang/AbstractStringBuilder", "getCoder", "()B"⟩ : MethodName)) (y := (⟨"java/lang/AbstractStringBuilder", "getCoder", "()B"⟩ : MethodName)) (argsL := []) (rest := [(.int (0 : Int32))]) hown (hw _ (List.mem_of_getElem? (i := 156) rfl)) (hw _ (List.mem_of_getElem? (i := 157) rfl)) (notFace_of_selects (args := #[]) (mvT hZ (hw _ (List.mem_of_getElem? (i := 159) rfl)))) (hw _ (List.mem_of_getElem? (i := 159) rfl)) (hw _ (List.mem_of_getElem? (i := 158) rfl)) (hw _ (List.mem_of_getElem? (i := 19) rfl)) (hw _ (List.mem_of_getElem? (i := 160) rfl)) (by decide) (a := o) E_o (rm28 l Z a0 hw [] o cz ob kob _ on h0 n0 Z0 S0 hcz O E_o FV_o FC_o FN_o V_o) e3 (by rw [hml]; rfl) pd_3 rfl rfl i27_11 (by decide) 1 rfl (by decide) (by decide) (by decide) fun T4 v4 L4 X4 q4 => ?_
  obtain ⟨_, rfl, rfl, e4, N4⟩ := q4
  have N0 := Fr.app N0 N4
  show Gd p e below _ T4 (mkF m 14 #[.val (.ref a), .val (.ref o)] [(.int (0 : Int32)), (.int (0 : Int32))])
  refine g_icmp_eq X4 hx hby i27_14 (fun c14_5 => ?_) (fun c14_5 => False.elim (absurd c14_5 (by decide)))
  refine g_return X4 hx hby hret hlk i27_21 (by decide) (by decide) ?_
  exact ⟨rfl, e4, N0⟩
theorem i29_0 : Ins1 jdk_68_method_65_code 0 (.aload_n 0) 1 1 := ⟨by decide +kernel, rfl⟩
theorem i29_1 : Ins1 jdk_68_method_65_code 1 (.getfield 22) 3 4 := ⟨by decide +kernel, rfl⟩
theorem i29_4 : Ins1 jdk_68_method_65_code 4 (.iload_n 3) 1 5 := ⟨by decide +kernel, rfl⟩
theorem i29_5 : InsB jdk_68_method_65_code 5 (.if_icmp .ne 24) 24 8 29 := ⟨by decide +kernel, rfl, by decide, by decide⟩
theorem i29_8 : Ins1 jdk_68_method_65_code 8 (.aload_n 0) 1 9 := ⟨by decide +kernel, rfl⟩
theorem i29_9 : Ins1 jdk_68_method_65_code 9 (.getfield 15) 3 12 := ⟨by decide +kernel, rfl⟩
theorem i29_12 : Ins1 jdk_68_method_65_code 12 (.iconst 0) 1 13 := ⟨by decide +kernel, rfl⟩
theorem i29_13 : Ins1 jdk_68_method_65_code 13 (.aload_n 1) 1 14 := ⟨by decide +kernel, rfl⟩
theorem i29_14 : Ins1 jdk_68_method_65_code 14 (.iload_n 2) 1 15 := ⟨by decide +kernel, rfl⟩
theorem i29_15 : Ins1 jdk_68_method_65_code 15 (.iload_n 3) 1 16 := ⟨by decide +kernel, rfl⟩
theorem i29_16 : Ins1 jdk_68_method_65_code 16 (.ishl) 1 17 := ⟨by decide +kernel, rfl⟩
theorem i29_17 : Ins1 jdk_68_method_65_code 17 (.aload_n 0) 1 18 := ⟨by decide +kernel, rfl⟩
theorem i29_18 : Ins1 jdk_68_method_65_code 18 (.getfield 79) 3 21 := ⟨by decide +kernel, rfl⟩
theorem i29_21 : Ins1 jdk_68_method_65_code 21 (.iload_n 3) 1 22 := ⟨by decide +kernel, rfl⟩
theorem i29_22 : Ins1 jdk_68_method_65_code 22 (.ishl) 1 23 := ⟨by decide +kernel, rfl⟩
theorem i29_23 : Ins1 jdk_68_method_65_code 23 (.invokestatic 309) 3 26 := ⟨by decide +kernel, rfl⟩
theorem i29_26 : InsB jdk_68_method_65_code 26 (.goto 17) 17 29 43 := ⟨by decide +kernel, rfl, by decide, by decide⟩
theorem i29_29 : Ins1 jdk_68_method_65_code 29 (.aload_n 0) 1 30 := ⟨by decide +kernel, rfl⟩
theorem i29_30 : Ins1 jdk_68_method_65_code 30 (.getfield 15) 3 33 := ⟨by decide +kernel, rfl⟩
theorem i29_33 : Ins1 jdk_68_method_65_code 33 (.iconst 0) 1 34 := ⟨by decide +kernel, rfl⟩
theorem i29_34 : Ins1 jdk_68_method_65_code 34 (.aload_n 1) 1 35 := ⟨by decide +kernel, rfl⟩
theorem i29_35 : Ins1 jdk_68_method_65_code 35 (.iload_n 2) 1 36 := ⟨by decide +kernel, rfl⟩
theorem i29_36 : Ins1 jdk_68_method_65_code 36 (.aload_n 0) 1 37 := ⟨by decide +kernel, rfl⟩
theorem i29_37 : Ins1 jdk_68_method_65_code 37 (.getfield 79) 3 40 := ⟨by decide +kernel, rfl⟩
theorem i29_40 : Ins1 jdk_68_method_65_code 40 (.invokestatic 125) 3 43 := ⟨by decide +kernel, rfl⟩
theorem i29_43 : Ins1 jdk_68_method_65_code 43 (.return_) 1 44 := ⟨by decide +kernel, rfl⟩
theorem ef_29 (m : MethodId) (a : Addr) (d : Addr) (p2 : Int32) (p3 : Int32) : entryFrame m #[(.ref a), (.ref d), (.int p2), (.int p3)] 4 = mkF m 0 #[.val (.ref a), .val (.ref d), .val (.int p2), .val (.int p3)] [] := by first | (simp [entryFrame, mkF, argsToLocals, Value.category]; done) | rfl
set_option maxRecDepth 65536 in
set_option maxHeartbeats 40000000 in
theorem rm29 (l : Launch) (Z : State) (a0 : Array Value) (hw : ∀ d ∈ tables_1, d.before a0 Z = true) (ws : List Jvm.Cond) (a : Addr) (d : Addr) (p2 : Int32) (p3 : Int32) (cz : Int32) (b : Addr) (kb : ClassId) (vd : List Value) (cn : Int32) (kd : ClassId) (vdd : List Value) (i zn : Nat) (h0 : Heap) (n0 : Nat) (Z0 : n0 ≤ h0.size) (S0 : Sta Z Z.heap "java/lang/String" "COMPACT_STRINGS" "Z" (.int cz)) (hcz : ¬ cz = (0 : Int32)) (O : Old Z n0 h0) (E : Exa Z h0 a "java/lang/StringBuilder") (FV : Fld Z h0 a "java/lang/AbstractStringBuilder" "value" "[B" (.ref b)) (FC : Fld Z h0 a "java/lang/AbstractStringBuilder" "coder" "B" (.int 0)) (FN : Fld Z h0 a "java/lang/AbstractStringBuilder" "count" "I" (.int cn)) (V : Arv Z h0 b kb .byte (16 : Int32) vd (.int (0 : Int32))) (Vd : Arv Z h0 d kd .byte (16 : Int32) vdd (.int (0 : Int32))) (g_d : n0 ≤ d) (hbd : b ≠ d) (hp3 : p3 = 0) (hi0 : ¬ p2 < 0) (hi : p2.toNatClampNeg = i) (hz0 : ¬ cn < 0) (hzn : cn.toNatClampNeg = zn) (hle : i + zn ≤ 16) (hle2 : zn ≤ 16) (hvl : vdd.length = 16) :
    Met1 l (⟨"java/lang/AbstractStringBuilder", "getBytes", "([BIB)V"⟩ : MethodName) jdk_68_method_65_code 4 none ws ({ frames := 1, cells := 0, slots := 0, locals := 18 } : Room) #[(.ref a), (.ref d), (.int p2), (.int p3)] Z h0 (RN fun h L => Keep h0 h [d] ∧ Arv Z h d kd .byte (16 : Int32) (own_put vdd i zn vd) (.int (0 : Int32)) ∧ Fr n0 L) := by
  refine met_of (plainFor_of_name pn_java_lang_AbstractStringBuilder) ?_
  intro p e s m below meth c T0 X0 hx hby hml hZ hown hnm hret hlk e0 es
  have N0 := Fr.nil n0
  refine Gd.cast (ef_29 m a d p2 p3) ?_
  subst hp3
  have K0 : Keep h0 h0 [d] := Keep.refl _ _
  refine g_aloadN X0 hx hby i29_0 rfl rfl ?_
  refine g_getfield X0 hx hby hZ hown (host := "") (Or.inl (hw _ (List.mem_of_getElem? (i := 27) rfl))) Via.refl e0 FC i29_1 fun T1 X1 e1 => ?_
  refine g_iloadN X1 hx hby i29_4 rfl ?_
  refine g_icmp_ne X1 hx hby i29_5 (fun c5_2 => False.elim (absurd c5_2 (by decide))) fun c5_2 => ?_
  refine g_aloadN X1 hx hby i29_8 rfl rfl ?_
  refine g_getfield X1 hx hby hZ hown (host := "") (Or.inl (hw _ (List.mem_of_getElem? (i := 25) rfl))) Via.refl e1 FV i29_9 fun T3 X3 e3 => ?_
  refine g_iconst X3 hx hby i29_12 (z := (0 : Int32)) (by decide) ?_
  refine g_aloadN X3 hx hby i29_13 rfl rfl ?_
  refine g_iloadN X3 hx hby i29_14 rfl ?_
  refine g_iloadN X3 hx hby i29_15 rfl ?_
  refine g_ishl X3 hx hby i29_16 ?_
  rw [own_shl0 p2]
  refine g_aloadN X3 hx hby i29_17 rfl rfl ?_
  refine g_getfield X3 hx hby hZ hown (host := "") (Or.inl (hw _ (List.mem_of_getElem? (i := 78) rfl))) Via.refl e3 FN i29_18 fun T4 X4 e4 => ?_
  refine g_iloadN X4 hx hby i29_21 rfl ?_
  refine g_ishl X4 hx hby i29_22 ?_
  rw [own_shl0 cn]
  refine g_arraycopy X4 hx hby hZ hown (hw _ (List.mem_of_getElem? (i := 166) rfl)) (hw _ (List.mem_of_getElem? (i := 104) rfl)) (hw _ (List.mem_of_getElem? (i := 102) rfl)) (hw _ (List.mem_of_getElem? (i := 103) rfl)) e4 V Vd rfl (by decide) hi0 hz0 (by rw [hzn, own_0]; exact hle2) (by rw [hi, hzn]; exact hle) (us := own_us zn vd) (by rw [hzn]; exact own_us0 zn vd) (by rw [hi, hzn, hvl]; exact hle) N0 g_d (by rw [hml]; rfl) i29_23 (by decide) 0 rfl (by decide) fun T5 h5 L5 X5 e5 N0 K5 V5 => ?_
  have K0 := K0.trans K5 (fun x hx => Or.inl hx)
  have E := E.keep K5
  have V := V.keep K5 (ninS hbd nin0)
  have O := O.keep K5 (allS g_d all0)
  have Z0 : n0 ≤ h5.size := Nat.le_trans Z0 K5.1
  rw [hi, hzn] at V5
  show Gd p e below _ T5 (mkF m 26 #[.val (.ref a), .val (.ref d), .val (.int p2), .val (.int (0 : Int32))] [])
  refine g_goto X5 hx hby i29_26 ?_
  refine g_return X5 hx hby hret hlk i29_43 (by decide) (by decide) ?_
  rw [e5]
  exact ⟨rfl, K0, V5, N0⟩
theorem i24_0 : Ins1 jdk_68_method_24_code 0 (.aload_n 1) 1 1 := ⟨by decide +kernel, rfl⟩
theorem i24_1 : InsB jdk_68_method_24_code 1 (.ifnonnull 8) 8 4 9 := ⟨by decide +kernel, rfl, by decide, by decide⟩
theorem i24_4 : Ins1 jdk_68_method_24_code 4 (.aload_n 0) 1 5 := ⟨by decide +kernel, rfl⟩
theorem i24_5 : Ins1 jdk_68_method_24_code 5 (.invokevirtual 204) 3 8 := ⟨by decide +kernel, rfl⟩
theorem i24_8 : Ins1 jdk_68_method_24_code 8 (.areturn) 1 9 := ⟨by decide +kernel, rfl⟩
theorem i24_9 : Ins1 jdk_68_method_24_code 9 (.aload_n 1) 1 10 := ⟨by decide +kernel, rfl⟩
theorem i24_10 : Ins1 jdk_68_method_24_code 10 (.invokevirtual 160) 3 13 := ⟨by decide +kernel, rfl⟩
theorem i24_13 : Ins1 jdk_68_method_24_code 13 (.istore_n 2) 1 14 := ⟨by decide +kernel, rfl⟩
theorem i24_14 : Ins1 jdk_68_method_24_code 14 (.aload_n 0) 1 15 := ⟨by decide +kernel, rfl⟩
theorem i24_15 : Ins1 jdk_68_method_24_code 15 (.aload_n 0) 1 16 := ⟨by decide +kernel, rfl⟩
theorem i24_16 : Ins1 jdk_68_method_24_code 16 (.getfield 79) 3 19 := ⟨by decide +kernel, rfl⟩
theorem i24_19 : Ins1 jdk_68_method_24_code 19 (.iload_n 2) 1 20 := ⟨by decide +kernel, rfl⟩
theorem i24_20 : Ins1 jdk_68_method_24_code 20 (.iadd) 1 21 := ⟨by decide +kernel, rfl⟩
theorem i24_21 : Ins1 jdk_68_method_24_code 21 (.invokevirtual 100) 3 24 := ⟨by decide +kernel, rfl⟩
theorem i24_24 : Ins1 jdk_68_method_24_code 24 (.aload_n 0) 1 25 := ⟨by decide +kernel, rfl⟩
theorem i24_25 : Ins1 jdk_68_method_24_code 25 (.aload_n 1) 1 26 := ⟨by decide +kernel, rfl⟩
theorem i24_26 : Ins1 jdk_68_method_24_code 26 (.invokevirtual 215) 3 29 := ⟨by decide +kernel, rfl⟩
theorem i24_29 : Ins1 jdk_68_method_24_code 29 (.aload_n 1) 1 30 := ⟨by decide +kernel, rfl⟩
theorem i24_30 : Ins1 jdk_68_method_24_code 30 (.aload_n 0) 1 31 := ⟨by decide +kernel, rfl⟩
theorem i24_31 : Ins1 jdk_68_method_24_code 31 (.getfield 15) 3 34 := ⟨by decide +kernel, rfl⟩
theorem i24_34 : Ins1 jdk_68_method_24_code 34 (.aload_n 0) 1 35 := ⟨by decide +kernel, rfl⟩
theorem i24_35 : Ins1 jdk_68_method_24_code 35 (.getfield 79) 3 38 := ⟨by decide +kernel, rfl⟩
theorem i24_38 : Ins1 jdk_68_method_24_code 38 (.aload_n 0) 1 39 := ⟨by decide +kernel, rfl⟩
theorem i24_39 : Ins1 jdk_68_method_24_code 39 (.getfield 22) 3 42 := ⟨by decide +kernel, rfl⟩
theorem i24_42 : Ins1 jdk_68_method_24_code 42 (.invokevirtual 219) 3 45 := ⟨by decide +kernel, rfl⟩
theorem i24_45 : Ins1 jdk_68_method_24_code 45 (.aload_n 0) 1 46 := ⟨by decide +kernel, rfl⟩
theorem i24_46 : Ins1 jdk_68_method_24_code 46 (.dup) 1 47 := ⟨by decide +kernel, rfl⟩
theorem i24_47 : Ins1 jdk_68_method_24_code 47 (.getfield 79) 3 50 := ⟨by decide +kernel, rfl⟩
theorem i24_50 : Ins1 jdk_68_method_24_code 50 (.iload_n 2) 1 51 := ⟨by decide +kernel, rfl⟩
theorem i24_51 : Ins1 jdk_68_method_24_code 51 (.iadd) 1 52 := ⟨by decide +kernel, rfl⟩
theorem i24_52 : Ins1 jdk_68_method_24_code 52 (.putfield 79) 3 55 := ⟨by decide +kernel, rfl⟩
theorem i24_55 : Ins1 jdk_68_method_24_code 55 (.aload_n 0) 1 56 := ⟨by decide +kernel, rfl⟩
theorem i24_56 : Ins1 jdk_68_method_24_code 56 (.dup) 1 57 := ⟨by decide +kernel, rfl⟩
theorem i24_57 : Ins1 jdk_68_method_24_code 57 (.getfield 73) 3 60 := ⟨by decide +kernel, rfl⟩
theorem i24_60 : Ins1 jdk_68_method_24_code 60 (.aload_n 1) 1 61 := ⟨by decide +kernel, rfl⟩
theorem i24_61 : Ins1 jdk_68_method_24_code 61 (.getfield 73) 3 64 := ⟨by decide +kernel, rfl⟩
theorem i24_64 : Ins1 jdk_68_method_24_code 64 (.ior) 1 65 := ⟨by decide +kernel, rfl⟩
theorem i24_65 : Ins1 jdk_68_method_24_code 65 (.putfield 73) 3 68 := ⟨by decide +kernel, rfl⟩
theorem i24_68 : Ins1 jdk_68_method_24_code 68 (.aload_n 0) 1 69 := ⟨by decide +kernel, rfl⟩
theorem i24_69 : Ins1 jdk_68_method_24_code 69 (.areturn) 1 70 := ⟨by decide +kernel, rfl⟩
theorem ef_24 (m : MethodId) (a : Addr) (o : Addr) : entryFrame m #[(.ref a), (.ref o)] 3 = mkF m 0 #[.val (.ref a), .val (.ref o), .unset] [] := by first | (simp [entryFrame, mkF, argsToLocals, Value.category]; done) | rfl
theorem pd_15 : parseMethodDescriptor "(Ljava/lang/AbstractStringBuilder;)V" = some ⟨[(.object "java/lang/AbstractStringBuilder")], none⟩ := by decide +kernel
set_option maxRecDepth 65536 in
set_option maxHeartbeats 40000000 in
theorem rm24 (l : Launch) (Z : State) (a0 : Array Value) (hw : ∀ d ∈ tables_1, d.before a0 Z = true) (ws : List Jvm.Cond) (a : Addr) (o : Addr) (cz : Int32) (b : Addr) (kb : ClassId) (vd : List Value) (cn : Int32) (ob : Addr) (kob : ClassId) (vd_o : List Value) (on : Int32) (i zn : Nat) (h0 : Heap) (n0 : Nat) (Z0 : n0 ≤ h0.size) (S0 : Sta Z Z.heap "java/lang/String" "COMPACT_STRINGS" "Z" (.int cz)) (hcz : ¬ cz = (0 : Int32)) (O : Old Z n0 h0) (E : Exa Z h0 a "java/lang/StringBuilder") (FV : Fld Z h0 a "java/lang/AbstractStringBuilder" "value" "[B" (.ref b)) (FC : Fld Z h0 a "java/lang/AbstractStringBuilder" "coder" "B" (.int 0)) (FN : Fld Z h0 a "java/lang/AbstractStringBuilder" "count" "I" (.int cn)) (V : Arv Z h0 b kb .byte (16 : Int32) vd (.int (0 : Int32))) (FM : Fld Z h0 a "java/lang/AbstractStringBuilder" "maybeLatin1" "Z" (.int 0)) (E_o : Exa Z h0 o "java/lang/StringBuilder") (FV_o : Fld Z h0 o "java/lang/AbstractStringBuilder" "value" "[B" (.ref ob)) (FC_o : Fld Z h0 o "java/lang/AbstractStringBuilder" "coder" "B" (.int 0)) (FN_o : Fld Z h0 o "java/lang/AbstractStringBuilder" "count" "I" (.int on)) (V_o : Arv Z h0 ob kob .byte (16 : Int32) vd_o (.int (0 : Int32))) (FM_o : Fld Z h0 o "java/lang/AbstractStringBuilder" "maybeLatin1" "Z" (.int 0)) (g_a : n0 ≤ a) (g_b : n0 ≤ b) (hab : a ≠ b) (hoa : o ≠ a) (hob' : o ≠ b) (hoba : ob ≠ a) (hob : ob ≠ b) (hi0 : ¬ cn < 0) (hi : cn.toNatClampNeg = i) (hz0 : ¬ on < 0) (hzn : on.toNatClampNeg = zn) (hle : i + zn ≤ 16) (hle2 : zn ≤ 16) (hvl : vd.length = 16) (hc0 : 0 ≤ (cn + on).toInt) (hc1 : (cn + on).toInt ≤ 16) :
    Met1 l (⟨"java/lang/AbstractStringBuilder", "append", "(Ljava/lang/AbstractStringBuilder;)Ljava/lang/AbstractStringBuilder;"⟩ : MethodName) jdk_68_method_24_code 3 (some (.object "java/lang/AbstractStringBuilder")) ws ({ frames := 2, cells := 0, slots := 0, locals := 33 } : Room) #[(.ref a), (.ref o)] Z h0 (RV fun vv h L => vv = .ref a ∧ Keep h0 h [a, b] ∧ Exa Z h a "java/lang/StringBuilder" ∧ Fld Z h a "java/lang/AbstractStringBuilder" "value" "[B" (.ref b) ∧ Fld Z h a "java/lang/AbstractStringBuilder" "coder" "B" (.int 0) ∧ Fld Z h a "java/lang/AbstractStringBuilder" "count" "I" (.int (cn + on)) ∧ Arv Z h b kb .byte (16 : Int32) (own_put vd i zn vd_o) (.int (0 : Int32)) ∧ Fld Z h a "java/lang/AbstractStringBuilder" "maybeLatin1" "Z" (.int 0) ∧ Fr n0 L) := by
  refine met_of (plainFor_of_name pn_java_lang_AbstractStringBuilder) ?_
  intro p e s m below meth c T0 X0 hx hby hml hZ hown hnm hret hlk e0 es
  have N0 := Fr.nil n0
  refine Gd.cast (ef_24 m a o) ?_
  have K0 : Keep h0 h0 [a, b] := Keep.refl _ _
  refine g_aloadN X0 hx hby i24_0 rfl rfl ?_
  refine g_ifnonnull_y X0 hx hby i24_1 ?_
  refine g_aloadN X0 hx hby i24_9 rfl rfl ?_
  refine g_callV0 X0 hx hby hZ (y0 := (⟨"java/lang/AbstractStringBuilder", "length", "()I"⟩ : MethodName)) (y := (⟨"java/lang/StringBuilder", "length", "()I"⟩ : MethodName)) (argsL := []) (rest := []) hown (hw _ (List.mem_of_getElem? (i := 143) rfl)) (hw _ (List.mem_of_getElem? (i := 144) rfl)) (nf_super (args := #[]) (mvT hZ (hw _ (List.mem_of_getElem? (i := 135) rfl)))) (hw _ (List.mem_of_getElem? (i := 146) rfl)) (hw _ (List.mem_of_getElem? (i := 147) rfl)) (hw _ (List.mem_of_getElem? (i := 11) rfl)) (hw _ (List.mem_of_getElem? (i := 148) rfl)) (by decide) (a := o) E_o (rm25 l Z a0 hw [] o ob kob _ on h0 n0 Z0 E_o FV_o FC_o FN_o V_o) e0 (by rw [hml]; rfl) pd_6 rfl rfl i24_10 (by decide) 0 rfl (by decide) (by decide) (by decide) fun T1 v1 L1 X1 q1 => ?_
  obtain ⟨_, rfl, rfl, e1, N1⟩ := q1
  have N0 := Fr.app N0 N1
  show Gd p e below _ T1 (mkF m 13 #[.val (.ref a), .val (.ref o), .unset] [(.int on)])
  refine g_istoreN X1 hx hby i24_13 (l' := #[.val (.ref a), .val (.ref o), .val (.int on)]) rfl ?_
  refine g_aloadN X1 hx hby i24_14 rfl rfl ?_
  refine g_aloadN X1 hx hby i24_15 rfl rfl ?_
  refine g_getfield X1 hx hby hZ hown (host := "") (Or.inl (hw _ (List.mem_of_getElem? (i := 78) rfl))) Via.refl e1 FN i24_16 fun T2 X2 e2 => ?_
  refine g_iloadN X2 hx hby i24_19 rfl ?_
  refine g_iadd X2 hx hby i24_20 ?_
  refine g_callV0 X2 hx hby hZ (y0 := (⟨"java/lang/AbstractStringBuilder", "ensureCapacityInternal", "(I)V"⟩ : MethodName)) (y := (⟨"java/lang/AbstractStringBuilder", "ensureCapacityInternal", "(I)V"⟩ : MethodName)) (argsL := [(.int (cn + on))]) (rest := []) hown (hw _ (List.mem_of_getElem? (i := 80) rfl)) (own_decl (hw _ (List.mem_of_getElem? (i := 81) rfl)) (hw _ (List.mem_of_getElem? (i := 84) rfl))) (notFace_of_selects (args := #[]) (mvT hZ (hw _ (List.mem_of_getElem? (i := 83) rfl)))) (hw _ (List.mem_of_getElem? (i := 83) rfl)) (hw _ (List.mem_of_getElem? (i := 81) rfl)) (hw _ (List.mem_of_getElem? (i := 19) rfl)) (hw _ (List.mem_of_getElem? (i := 84) rfl)) (by decide) (a := a) E (rm14 l Z a0 hw [] a (cn + on) b kb _ cn h0 n0 Z0 E FV FC FN V hc0 hc1) e2 (by rw [hml]; rfl) pd_7 rfl rfl i24_21 (by decide) 0 rfl (by decide) (by decide) (by decide) fun T3 v3 L3 X3 q3 => ?_
  obtain ⟨rfl, e3, N3⟩ := q3
  have N0 := Fr.app N0 N3
  show Gd p e below _ T3 (mkF m 24 #[.val (.ref a), .val (.ref o), .val (.int on)] [])
  refine g_aloadN X3 hx hby i24_24 rfl rfl ?_
  refine g_aloadN X3 hx hby i24_25 rfl rfl ?_
  refine g_callV0 X3 hx hby hZ (y0 := (⟨"java/lang/AbstractStringBuilder", "inflateIfNeededFor", "(Ljava/lang/AbstractStringBuilder;)V"⟩ : MethodName)) (y := (⟨"java/lang/AbstractStringBuilder", "inflateIfNeededFor", "(Ljava/lang/AbstractStringBuilder;)V"⟩ : MethodName)) (argsL := [(.ref o)]) (rest := []) hown (hw _ (List.mem_of_getElem? (i := 151) rfl)) (own_decl (hw _ (List.mem_of_getElem? (i := 152) rfl)) (hw _ (List.mem_of_getElem? (i := 155) rfl))) (notFace_of_selects (args := #[]) (mvT hZ (hw _ (List.mem_of_getElem? (i := 154) rfl)))) (hw _ (List.mem_of_getElem? (i := 154) rfl)) (hw _ (List.mem_of_getElem? (i := 152) rfl)) (hw _ (List.mem_of_getElem? (i := 19) rfl)) (hw _ (List.mem_of_getElem? (i := 155) rfl)) (by decide) (a := a) E (rm27 l Z a0 hw [] a o cz b kb _ cn ob kob _ on h0 n0 Z0 S0 hcz O E FV FC FN V E_o FV_o FC_o FN_o V_o) e3 (by rw [hml]; rfl) pd_15 rfl rfl i24_26 (by decide) 0 rfl (by decide) (by decide) (by decide) fun T4 v4 L4 X4 q4 => ?_
  obtain ⟨rfl, e4, N4⟩ := q4
  have N0 := Fr.app N0 N4
  show Gd p e below _ T4 (mkF m 29 #[.val (.ref a), .val (.ref o), .val (.int on)] [])
  refine g_aloadN X4 hx hby i24_29 rfl rfl ?_
  refine g_aloadN X4 hx hby i24_30 rfl rfl ?_
  refine g_getfield X4 hx hby hZ hown (host := "") (Or.inl (hw _ (List.mem_of_getElem? (i := 25) rfl))) Via.refl e4 FV i24_31 fun T5 X5 e5 => ?_
  refine g_aloadN X5 hx hby i24_34 rfl rfl ?_
  refine g_getfield X5 hx hby hZ hown (host := "") (Or.inl (hw _ (List.mem_of_getElem? (i := 78) rfl))) Via.refl e5 FN i24_35 fun T6 X6 e6 => ?_
  refine g_aloadN X6 hx hby i24_38 rfl rfl ?_
  refine g_getfield X6 hx hby hZ hown (host := "") (Or.inl (hw _ (List.mem_of_getElem? (i := 27) rfl))) Via.refl e6 FC i24_39 fun T7 X7 e7 => ?_
  refine g_callV0 X7 hx hby hZ (y0 := (⟨"java/lang/AbstractStringBuilder", "getBytes", "([BIB)V"⟩ : MethodName)) (y := (⟨"java/lang/AbstractStringBuilder", "getBytes", "([BIB)V"⟩ : MethodName)) (argsL := [(.ref b), (.int cn), (.int (0 : Int32))]) (rest := []) hown (hw _ (List.mem_of_getElem? (i := 161) rfl)) (hw _ (List.mem_of_getElem? (i := 162) rfl)) (notFace_of_selects (args := #[]) (mvT hZ (hw _ (List.mem_of_getElem? (i := 164) rfl)))) (hw _ (List.mem_of_getElem? (i := 164) rfl)) (hw _ (List.mem_of_getElem? (i := 163) rfl)) (hw _ (List.mem_of_getElem? (i := 19) rfl)) (hw _ (List.mem_of_getElem? (i := 165) rfl)) (by decide) (a := o) E_o (rm29 l Z a0 hw [] o b cn (0 : Int32) cz ob kob _ on kb _ i zn h0 n0 Z0 S0 hcz O E_o FV_o FC_o FN_o V_o V g_b hob rfl hi0 hi hz0 hzn hle hle2 hvl) e7 (by rw [hml]; rfl) pd_5 rfl rfl i24_42 (by decide) 0 rfl (by decide) (by decide) (by decide) fun T8 v8 L8 X8 q8 => ?_
  obtain ⟨rfl, K8, V8, N8⟩ := q8
  have N0 := Fr.app N0 N8
  have K0 := K0.trans K8 (fun x hx => Or.inl (by cases hx with | head => simp | tail _ q => cases q))
  have E := E.keep K8
  have FV := FV.keep K8 (ninS hab nin0)
  have FC := FC.keep K8 (ninS hab nin0)
  have FN := FN.keep K8 (ninS hab nin0)
  have FM := FM.keep K8 (ninS hab nin0)
  have E_o := E_o.keep K8
  have FV_o := FV_o.keep K8 (ninS hob' nin0)
  have FC_o := FC_o.keep K8 (ninS hob' nin0)
  have FN_o := FN_o.keep K8 (ninS hob' nin0)
  have V_o := V_o.keep K8 (ninS hob nin0)
  have FM_o := FM_o.keep K8 (ninS hob' nin0)
  have O := O.keep K8 (allS g_b all0)
  have Z0 : n0 ≤ T8.heap.size := Nat.le_trans Z0 K8.1
  show Gd p e below _ T8 (mkF m 45 #[.val (.ref a), .val (.ref o), .val (.int on)] [])
  refine g_aloadN X8 hx hby i24_45 rfl rfl ?_
  refine g_dup X8 hx hby i24_46 rfl ?_
  refine g_getfield X8 hx hby hZ hown (host := "") (Or.inl (hw _ (List.mem_of_getElem? (i := 78) rfl))) Via.refl rfl FN i24_47 fun T9 X9 e9 => ?_
  refine g_iloadN X9 hx hby i24_50 rfl ?_
  refine g_iadd X9 hx hby i24_51 ?_
  refine g_putfield X9 hx hby hZ hown (host := "") (Or.inl (hw _ (List.mem_of_getElem? (i := 78) rfl))) Via.refl e9 FN E (Or.inl (hw _ (List.mem_of_getElem? (i := 79) rfl))) (hw _ (List.mem_of_getElem? (i := 10) rfl)) (ty := .int) (by decide) rfl rfl i24_52 fun T10 h10 X10 e10 W10 => ?_
  have FN := FN.same W10
  have E := E.wr W10
  have FV := FV.other W10 (Or.inr (slot_ne (Or.inl (hw _ (List.mem_of_getElem? (i := 26) rfl))) (Or.inl (hw _ (List.mem_of_getElem? (i := 79) rfl))) (by decide) (t := (.array .byte)) (t' := .int) (by decide) (by decide)))
  have FC := FC.other W10 (Or.inr (slot_ne (Or.inl (hw _ (List.mem_of_getElem? (i := 28) rfl))) (Or.inl (hw _ (List.mem_of_getElem? (i := 79) rfl))) (by decide) (t := .byte) (t' := .int) (by decide) (by decide)))
  have FM := FM.other W10 (Or.inr (slot_ne (Or.inl (hw _ (List.mem_of_getElem? (i := 168) rfl))) (Or.inl (hw _ (List.mem_of_getElem? (i := 79) rfl))) (by decide) (t := .boolean) (t' := .int) (by decide) (by decide)))
  have E_o := E_o.wr W10
  have FV_o := FV_o.other W10 (Or.inl hoa)
  have FC_o := FC_o.other W10 (Or.inl hoa)
  have FN_o := FN_o.other W10 (Or.inl hoa)
  have V_o := V_o.other W10 hoba
  have FM_o := FM_o.other W10 (Or.inl hoa)
  have V8 := V8.other W10 (Ne.symm hab)
  have O := O.wr W10 g_a
  have Z0 : n0 ≤ h10.size := Nat.le_trans Z0 (Nat.le_of_eq W10.size.symm)
  have N0 := Fr.snoc X10 N0 g_a
  have K0 := K0.wr W10 (Or.inl (by simp))
  refine g_aloadN X10 hx hby i24_55 rfl rfl ?_
  refine g_dup X10 hx hby i24_56 rfl ?_
  refine g_getfield X10 hx hby hZ hown (host := "") (Or.inl (hw _ (List.mem_of_getElem? (i := 167) rfl))) Via.refl e10 FM i24_57 fun T11 X11 e11 => ?_
  refine g_aloadN X11 hx hby i24_60 rfl rfl ?_
  refine g_getfield X11 hx hby hZ hown (host := "") (Or.inl (hw _ (List.mem_of_getElem? (i := 167) rfl))) Via.refl e11 FM_o i24_61 fun T12 X12 e12 => ?_
  refine g_ior X12 hx hby i24_64 ?_
  refine g_putfieldN X12 hx hby hZ hown (hw _ (List.mem_of_getElem? (i := 167) rfl)) Via.refl e12 FM E (Or.inl (hw _ (List.mem_of_getElem? (i := 168) rfl))) (hw _ (List.mem_of_getElem? (i := 10) rfl)) (ty := .boolean) (v' := (.int (nar .boolean ((0 : Int32) ||| (0 : Int32))))) (by decide) rfl (fits_nar_bool _) i24_65 fun T13 h13 X13 e13 W13 => ?_
  have FM := FM.same W13
  have E := E.wr W13
  have FV := FV.other W13 (Or.inr (slot_ne (Or.inl (hw _ (List.mem_of_getElem? (i := 26) rfl))) (Or.inl (hw _ (List.mem_of_getElem? (i := 168) rfl))) (by decide) (t := (.array .byte)) (t' := .boolean) (by decide) (by decide)))
  have FC := FC.other W13 (Or.inr (slot_ne (Or.inl (hw _ (List.mem_of_getElem? (i := 28) rfl))) (Or.inl (hw _ (List.mem_of_getElem? (i := 168) rfl))) (by decide) (t := .byte) (t' := .boolean) (by decide) (by decide)))
  have FN := FN.other W13 (Or.inr (slot_ne (Or.inl (hw _ (List.mem_of_getElem? (i := 79) rfl))) (Or.inl (hw _ (List.mem_of_getElem? (i := 168) rfl))) (by decide) (t := .int) (t' := .boolean) (by decide) (by decide)))
  have E_o := E_o.wr W13
  have FV_o := FV_o.other W13 (Or.inl hoa)
  have FC_o := FC_o.other W13 (Or.inl hoa)
  have FN_o := FN_o.other W13 (Or.inl hoa)
  have V_o := V_o.other W13 hoba
  have FM_o := FM_o.other W13 (Or.inl hoa)
  have V8 := V8.other W13 (Ne.symm hab)
  have O := O.wr W13 g_a
  have Z0 : n0 ≤ h13.size := Nat.le_trans Z0 (Nat.le_of_eq W13.size.symm)
  have N0 := Fr.snoc X13 N0 g_a
  have K0 := K0.wr W13 (Or.inl (by simp))
  refine g_aloadN X13 hx hby i24_68 rfl rfl ?_
  refine g_areturn X13 hx hby hret rfl (fun _ => rfl) hlk rfl i24_69 (by decide) (by decide) ?_
  rw [e13]
  exact ⟨_, rfl, rfl, K0, E, FV, FC, FN, V8, FM, N0⟩
theorem i23_0 : Ins1 jdk_68_method_25_code 0 (.aload_n 1) 1 1 := ⟨by decide +kernel, rfl⟩
theorem i23_1 : InsB jdk_68_method_25_code 1 (.ifnonnull 8) 8 4 9 := ⟨by decide +kernel, rfl, by decide, by decide⟩
theorem i23_4 : Ins1 jdk_68_method_25_code 4 (.aload_n 0) 1 5 := ⟨by decide +kernel, rfl⟩
theorem i23_5 : Ins1 jdk_68_method_25_code 5 (.invokevirtual 204) 3 8 := ⟨by decide +kernel, rfl⟩
theorem i23_8 : Ins1 jdk_68_method_25_code 8 (.areturn) 1 9 := ⟨by decide +kernel, rfl⟩
theorem i23_9 : Ins1 jdk_68_method_25_code 9 (.aload_n 1) 1 10 := ⟨by decide +kernel, rfl⟩
theorem i23_10 : Ins1 jdk_68_method_25_code 10 (.instanceof 1) 3 13 := ⟨by decide +kernel, rfl⟩
theorem i23_13 : InsB jdk_68_method_25_code 13 (.ifCond .eq 12) 12 16 25 := ⟨by decide +kernel, rfl, by decide, by decide⟩
theorem i23_16 : Ins1 jdk_68_method_25_code 16 (.aload_n 0) 1 17 := ⟨by decide +kernel, rfl⟩
theorem i23_17 : Ins1 jdk_68_method_25_code 17 (.aload_n 1) 1 18 := ⟨by decide +kernel, rfl⟩
theorem i23_18 : Ins1 jdk_68_method_25_code 18 (.checkcast 1) 3 21 := ⟨by decide +kernel, rfl⟩
theorem i23_21 : Ins1 jdk_68_method_25_code 21 (.invokevirtual 43) 3 24 := ⟨by decide +kernel, rfl⟩
theorem i23_24 : Ins1 jdk_68_method_25_code 24 (.areturn) 1 25 := ⟨by decide +kernel, rfl⟩
theorem i23_25 : Ins1 jdk_68_method_25_code 25 (.aload_n 1) 1 26 := ⟨by decide +kernel, rfl⟩
theorem i23_26 : Ins1 jdk_68_method_25_code 26 (.instanceof 10) 3 29 := ⟨by decide +kernel, rfl⟩
theorem i23_29 : InsB jdk_68_method_25_code 29 (.ifCond .eq 12) 12 32 41 := ⟨by decide +kernel, rfl, by decide, by decide⟩
theorem i23_32 : Ins1 jdk_68_method_25_code 32 (.aload_n 0) 1 33 := ⟨by decide +kernel, rfl⟩
theorem i23_33 : Ins1 jdk_68_method_25_code 33 (.aload_n 1) 1 34 := ⟨by decide +kernel, rfl⟩
theorem i23_34 : Ins1 jdk_68_method_25_code 34 (.checkcast 10) 3 37 := ⟨by decide +kernel, rfl⟩
theorem i23_37 : Ins1 jdk_68_method_25_code 37 (.invokevirtual 212) 3 40 := ⟨by decide +kernel, rfl⟩
theorem i23_40 : Ins1 jdk_68_method_25_code 40 (.areturn) 1 41 := ⟨by decide +kernel, rfl⟩
theorem i23_41 : Ins1 jdk_68_method_25_code 41 (.aload_n 0) 1 42 := ⟨by decide +kernel, rfl⟩
theorem i23_42 : Ins1 jdk_68_method_25_code 42 (.aload_n 1) 1 43 := ⟨by decide +kernel, rfl⟩
theorem i23_43 : Ins1 jdk_68_method_25_code 43 (.iconst 0) 1 44 := ⟨by decide +kernel, rfl⟩
theorem i23_44 : Ins1 jdk_68_method_25_code 44 (.aload_n 1) 1 45 := ⟨by decide +kernel, rfl⟩
theorem i23_45 : Ins1 jdk_68_method_25_code 45 (.invokeinterface 47 1) 5 50 := ⟨by decide +kernel, rfl⟩
theorem i23_50 : Ins1 jdk_68_method_25_code 50 (.invokevirtual 223) 3 53 := ⟨by decide +kernel, rfl⟩
theorem i23_53 : Ins1 jdk_68_method_25_code 53 (.areturn) 1 54 := ⟨by decide +kernel, rfl⟩
theorem ef_23 (m : MethodId) (a : Addr) (o : Addr) : entryFrame m #[(.ref a), (.ref o)] 2 = mkF m 0 #[.val (.ref a), .val (.ref o)] [] := by first | (simp [entryFrame, mkF, argsToLocals, Value.category]; done) | rfl
theorem pd_16 : parseMethodDescriptor "(Ljava/lang/AbstractStringBuilder;)Ljava/lang/AbstractStringBuilder;" = some ⟨[(.object "java/lang/AbstractStringBuilder")], some (.object "java/lang/AbstractStringBuilder")⟩ := by decide +kernel
set_option maxRecDepth 65536 in
set_option maxHeartbeats 40000000 in
theorem rm23 (l : Launch) (Z : State) (a0 : Array Value) (hw : ∀ d ∈ tables_1, d.before a0 Z = true) (ws : List Jvm.Cond) (a : Addr) (o : Addr) (cz : Int32) (b : Addr) (kb : ClassId) (vd : List Value) (cn : Int32) (ob : Addr) (kob : ClassId) (vd_o : List Value) (on : Int32) (i zn : Nat) (h0 : Heap) (n0 : Nat) (Z0 : n0 ≤ h0.size) (S0 : Sta Z Z.heap "java/lang/String" "COMPACT_STRINGS" "Z" (.int cz)) (hcz : ¬ cz = (0 : Int32)) (O : Old Z n0 h0) (E : Exa Z h0 a "java/lang/StringBuilder") (FV : Fld Z h0 a "java/lang/AbstractStringBuilder" "value" "[B" (.ref b)) (FC : Fld Z h0 a "java/lang/AbstractStringBuilder" "coder" "B" (.int 0)) (FN : Fld Z h0 a "java/lang/AbstractStringBuilder" "count" "I" (.int cn)) (V : Arv Z h0 b kb .byte (16 : Int32) vd (.int (0 : Int32))) (FM : Fld Z h0 a "java/lang/AbstractStringBuilder" "maybeLatin1" "Z" (.int 0)) (E_o : Exa Z h0 o "java/lang/StringBuilder") (FV_o : Fld Z h0 o "java/lang/AbstractStringBuilder" "value" "[B" (.ref ob)) (FC_o : Fld Z h0 o "java/lang/AbstractStringBuilder" "coder" "B" (.int 0)) (FN_o : Fld Z h0 o "java/lang/AbstractStringBuilder" "count" "I" (.int on)) (V_o : Arv Z h0 ob kob .byte (16 : Int32) vd_o (.int (0 : Int32))) (FM_o : Fld Z h0 o "java/lang/AbstractStringBuilder" "maybeLatin1" "Z" (.int 0)) (g_a : n0 ≤ a) (g_b : n0 ≤ b) (hab : a ≠ b) (hoa : o ≠ a) (hob' : o ≠ b) (hoba : ob ≠ a) (hob : ob ≠ b) (hi0 : ¬ cn < 0) (hi : cn.toNatClampNeg = i) (hz0 : ¬ on < 0) (hzn : on.toNatClampNeg = zn) (hle : i + zn ≤ 16) (hle2 : zn ≤ 16) (hvl : vd.length = 16) (hc0 : 0 ≤ (cn + on).toInt) (hc1 : (cn + on).toInt ≤ 16) :
    Met1 l (⟨"java/lang/AbstractStringBuilder", "append", "(Ljava/lang/CharSequence;)Ljava/lang/AbstractStringBuilder;"⟩ : MethodName) jdk_68_method_25_code 2 (some (.object "java/lang/AbstractStringBuilder")) ws ({ frames := 3, cells := 0, slots := 0, locals := 47 } : Room) #[(.ref a), (.ref o)] Z h0 (RV fun vv h L => vv = .ref a ∧ Keep h0 h [a, b] ∧ Exa Z h a "java/lang/StringBuilder" ∧ Fld Z h a "java/lang/AbstractStringBuilder" "value" "[B" (.ref b) ∧ Fld Z h a "java/lang/AbstractStringBuilder" "coder" "B" (.int 0) ∧ Fld Z h a "java/lang/AbstractStringBuilder" "count" "I" (.int (cn + on)) ∧ Arv Z h b kb .byte (16 : Int32) (own_put vd i zn vd_o) (.int (0 : Int32)) ∧ Fld Z h a "java/lang/AbstractStringBuilder" "maybeLatin1" "Z" (.int 0) ∧ Fr n0 L) := by
  refine met_of (plainFor_of_name pn_java_lang_AbstractStringBuilder) ?_
  intro p e s m below meth c T0 X0 hx hby hml hZ hown hnm hret hlk e0 es
  have N0 := Fr.nil n0
  refine Gd.cast (ef_23 m a o) ?_
  have K0 : Keep h0 h0 [a, b] := Keep.refl _ _
  refine g_aloadN X0 hx hby i23_0 rfl rfl ?_
  refine g_ifnonnull_y X0 hx hby i23_1 ?_
  refine g_aloadN X0 hx hby i23_9 rfl rfl ?_
  refine g_instN X0 hx hby hZ hown (hw _ (List.mem_of_getElem? (i := 134) rfl)) e0 E_o (own_notSub (hw _ (List.mem_of_getElem? (i := 65) rfl)) (hw _ (List.mem_of_getElem? (i := 40) rfl)) (NS.step (hw _ (List.mem_of_getElem? (i := 65) rfl)) (NS.step (hw _ (List.mem_of_getElem? (i := 135) rfl)) (own_NSroot (hw _ (List.mem_of_getElem? (i := 136) rfl)) (hw _ (List.mem_of_getElem? (i := 40) rfl)) (by decide)) (by decide)) (by decide)) (by decide)) i23_10 fun T1 X1 e1 => ?_
  refine g_if_eq X1 hx hby i23_13 (fun c13_2 => ?_) (fun c13_2 => False.elim (absurd c13_2 (by decide)))
  refine g_aloadN X1 hx hby i23_25 rfl rfl ?_
  refine g_instY X1 hx hby hZ hown (hw _ (List.mem_of_getElem? (i := 137) rfl)) e1 (Ins.of_exa E_o (hw _ (List.mem_of_getElem? (i := 18) rfl))) i23_26 fun T3 X3 e3 => ?_
  refine g_if_eq X3 hx hby i23_29 (fun c29_4 => False.elim (absurd c29_4 (by decide))) fun c29_4 => ?_
  refine g_aloadN X3 hx hby i23_32 rfl rfl ?_
  refine g_aloadN X3 hx hby i23_33 rfl rfl ?_
  refine g_castY X3 hx hby hZ hown (hw _ (List.mem_of_getElem? (i := 137) rfl)) e3 (Ins.of_exa E_o (hw _ (List.mem_of_getElem? (i := 18) rfl))) i23_34 fun T5 X5 e5 => ?_
  refine g_callV0 X5 hx hby hZ (y0 := (⟨"java/lang/AbstractStringBuilder", "append", "(Ljava/lang/AbstractStringBuilder;)Ljava/lang/AbstractStringBuilder;"⟩ : MethodName)) (y := (⟨"java/lang/AbstractStringBuilder", "append", "(Ljava/lang/AbstractStringBuilder;)Ljava/lang/AbstractStringBuilder;"⟩ : MethodName)) (argsL := [(.ref o)]) (rest := []) hown (hw _ (List.mem_of_getElem? (i := 138) rfl)) (hw _ (List.mem_of_getElem? (i := 139) rfl)) (notFace_of_selects (args := #[]) (mvT hZ (hw _ (List.mem_of_getElem? (i := 141) rfl)))) (hw _ (List.mem_of_getElem? (i := 141) rfl)) (hw _ (List.mem_of_getElem? (i := 140) rfl)) (hw _ (List.mem_of_getElem? (i := 19) rfl)) (hw _ (List.mem_of_getElem? (i := 142) rfl)) (by decide) (a := a) E (rm24 l Z a0 hw [] a o cz b kb _ cn ob kob _ on i zn h0 n0 Z0 S0 hcz O E FV FC FN V FM E_o FV_o FC_o FN_o V_o FM_o g_a g_b hab hoa hob' hoba hob hi0 hi hz0 hzn hle hle2 hvl hc0 hc1) e5 (by rw [hml]; rfl) pd_16 rfl rfl i23_37 (by decide) 0 rfl (by decide) (by decide) (by decide) fun T6 v6 L6 X6 q6 => ?_
  obtain ⟨_, rfl, rfl, K6, E6, FV6, FC6, FN6, V6, FM6, N6⟩ := q6
  have N0 := Fr.app N0 N6
  have K0 := K0.trans K6 (fun x hx => Or.inl hx)
  have E := E.keep K6
  have E_o := E_o.keep K6
  have FV_o := FV_o.keep K6 (ninS hoa (ninS hob' nin0))
  have FC_o := FC_o.keep K6 (ninS hoa (ninS hob' nin0))
  have FN_o := FN_o.keep K6 (ninS hoa (ninS hob' nin0))
  have V_o := V_o.keep K6 (ninS hoba (ninS hob nin0))
  have FM_o := FM_o.keep K6 (ninS hoa (ninS hob' nin0))
  have O := O.keep K6 (allS g_a (allS g_b all0))
  have Z0 : n0 ≤ T6.heap.size := Nat.le_trans Z0 K6.1
  show Gd p e below _ T6 (mkF m 40 #[.val (.ref a), .val (.ref o)] [(.ref a)])
  refine g_areturn X6 hx hby hret rfl (fun _ => rfl) hlk rfl i23_40 (by decide) (by decide) ?_
  exact ⟨_, rfl, rfl, K0, E, FV6, FC6, FN6, V6, FM6, N0⟩
theorem i22_0 : Ins1 jdk_67_method_9_code 0 (.aload_n 0) 1 1 := ⟨by decide +kernel, rfl⟩
theorem i22_1 : Ins1 jdk_67_method_9_code 1 (.aload_n 1) 1 2 := ⟨by decide +kernel, rfl⟩
theorem i22_2 : Ins1 jdk_67_method_9_code 2 (.invokespecial 35) 3 5 := ⟨by decide +kernel, rfl⟩
theorem i22_5 : Ins1 jdk_67_method_9_code 5 (.pop) 1 6 := ⟨by decide +kernel, rfl⟩
theorem i22_6 : Ins1 jdk_67_method_9_code 6 (.aload_n 0) 1 7 := ⟨by decide +kernel, rfl⟩
theorem i22_7 : Ins1 jdk_67_method_9_code 7 (.areturn) 1 8 := ⟨by decide +kernel, rfl⟩
theorem ef_22 (m : MethodId) (a : Addr) (o : Addr) : entryFrame m #[(.ref a), (.ref o)] 2 = mkF m 0 #[.val (.ref a), .val (.ref o)] [] := by first | (simp [entryFrame, mkF, argsToLocals, Value.category]; done) | rfl
theorem pd_17 : parseMethodDescriptor "(Ljava/lang/CharSequence;)Ljava/lang/AbstractStringBuilder;" = some ⟨[(.object "java/lang/CharSequence")], some (.object "java/lang/AbstractStringBuilder")⟩ := by decide +kernel
set_option maxRecDepth 65536 in
set_option maxHeartbeats 40000000 in
theorem rm22 (l : Launch) (Z : State) (a0 : Array Value) (hw : ∀ d ∈ tables_1, d.before a0 Z = true) (ws : List Jvm.Cond) (a : Addr) (o : Addr) (cz : Int32) (b : Addr) (kb : ClassId) (vd : List Value) (cn : Int32) (ob : Addr) (kob : ClassId) (vd_o : List Value) (on : Int32) (i zn : Nat) (h0 : Heap) (n0 : Nat) (Z0 : n0 ≤ h0.size) (S0 : Sta Z Z.heap "java/lang/String" "COMPACT_STRINGS" "Z" (.int cz)) (hcz : ¬ cz = (0 : Int32)) (O : Old Z n0 h0) (E : Exa Z h0 a "java/lang/StringBuilder") (FV : Fld Z h0 a "java/lang/AbstractStringBuilder" "value" "[B" (.ref b)) (FC : Fld Z h0 a "java/lang/AbstractStringBuilder" "coder" "B" (.int 0)) (FN : Fld Z h0 a "java/lang/AbstractStringBuilder" "count" "I" (.int cn)) (V : Arv Z h0 b kb .byte (16 : Int32) vd (.int (0 : Int32))) (FM : Fld Z h0 a "java/lang/AbstractStringBuilder" "maybeLatin1" "Z" (.int 0)) (E_o : Exa Z h0 o "java/lang/StringBuilder") (FV_o : Fld Z h0 o "java/lang/AbstractStringBuilder" "value" "[B" (.ref ob)) (FC_o : Fld Z h0 o "java/lang/AbstractStringBuilder" "coder" "B" (.int 0)) (FN_o : Fld Z h0 o "java/lang/AbstractStringBuilder" "count" "I" (.int on)) (V_o : Arv Z h0 ob kob .byte (16 : Int32) vd_o (.int (0 : Int32))) (FM_o : Fld Z h0 o "java/lang/AbstractStringBuilder" "maybeLatin1" "Z" (.int 0)) (g_a : n0 ≤ a) (g_b : n0 ≤ b) (hab : a ≠ b) (hoa : o ≠ a) (hob' : o ≠ b) (hoba : ob ≠ a) (hob : ob ≠ b) (hi0 : ¬ cn < 0) (hi : cn.toNatClampNeg = i) (hz0 : ¬ on < 0) (hzn : on.toNatClampNeg = zn) (hle : i + zn ≤ 16) (hle2 : zn ≤ 16) (hvl : vd.length = 16) (hc0 : 0 ≤ (cn + on).toInt) (hc1 : (cn + on).toInt ≤ 16) :
    Met1 l (⟨"java/lang/StringBuilder", "append", "(Ljava/lang/CharSequence;)Ljava/lang/StringBuilder;"⟩ : MethodName) jdk_67_method_9_code 2 (some (.object "java/lang/StringBuilder")) ws ({ frames := 4, cells := 0, slots := 0, locals := 60 } : Room) #[(.ref a), (.ref o)] Z h0 (RV fun vv h L => vv = .ref a ∧ Keep h0 h [a, b] ∧ Exa Z h a "java/lang/StringBuilder" ∧ Fld Z h a "java/lang/AbstractStringBuilder" "value" "[B" (.ref b) ∧ Fld Z h a "java/lang/AbstractStringBuilder" "coder" "B" (.int 0) ∧ Fld Z h a "java/lang/AbstractStringBuilder" "count" "I" (.int (cn + on)) ∧ Arv Z h b kb .byte (16 : Int32) (own_put vd i zn vd_o) (.int (0 : Int32)) ∧ Fld Z h a "java/lang/AbstractStringBuilder" "maybeLatin1" "Z" (.int 0) ∧ Fr n0 L) := by
  refine met_of (plainFor_of_name pn_java_lang_StringBuilder) ?_
  intro p e s m below meth c T0 X0 hx hby hml hZ hown hnm hret hlk e0 es
  have N0 := Fr.nil n0
  refine Gd.cast (ef_22 m a o) ?_
  have K0 : Keep h0 h0 [a, b] := Keep.refl _ _
  refine g_aloadN X0 hx hby i22_0 rfl rfl ?_
  refine g_aloadN X0 hx hby i22_1 rfl rfl ?_
  refine g_callUp0 X0 hx hby hZ (y := (⟨"java/lang/AbstractStringBuilder", "append", "(Ljava/lang/CharSequence;)Ljava/lang/AbstractStringBuilder;"⟩ : MethodName)) (argsL := [(.ref o)]) (rest := []) hown (hw _ (List.mem_of_getElem? (i := 130) rfl)) (own_same (hw _ (List.mem_of_getElem? (i := 131) rfl)) (hw _ (List.mem_of_getElem? (i := 135) rfl)) (by decide)) (hw _ (List.mem_of_getElem? (i := 131) rfl)) (hw _ (List.mem_of_getElem? (i := 65) rfl)) (hw _ (List.mem_of_getElem? (i := 19) rfl)) (hw _ (List.mem_of_getElem? (i := 133) rfl)) (by decide) (a := a) (Ins.self E) (rm23 l Z a0 hw [] a o cz b kb _ cn ob kob _ on i zn h0 n0 Z0 S0 hcz O E FV FC FN V FM E_o FV_o FC_o FN_o V_o FM_o g_a g_b hab hoa hob' hoba hob hi0 hi hz0 hzn hle hle2 hvl hc0 hc1) e0 (by rw [hml]; rfl) pd_17 rfl rfl i22_2 (by decide) 0 rfl (by decide) (by decide) (by decide) fun T1 v1 L1 X1 q1 => ?_
  obtain ⟨_, rfl, rfl, K1, E1, FV1, FC1, FN1, V1, FM1, N1⟩ := q1
  have N0 := Fr.app N0 N1
  have K0 := K0.trans K1 (fun x hx => Or.inl hx)
  have E := E.keep K1
  have E_o := E_o.keep K1
  have FV_o := FV_o.keep K1 (ninS hoa (ninS hob' nin0))
  have FC_o := FC_o.keep K1 (ninS hoa (ninS hob' nin0))
  have FN_o := FN_o.keep K1 (ninS hoa (ninS hob' nin0))
  have V_o := V_o.keep K1 (ninS hoba (ninS hob nin0))
  have FM_o := FM_o.keep K1 (ninS hoa (ninS hob' nin0))
  have O := O.keep K1 (allS g_a (allS g_b all0))
  have Z0 : n0 ≤ T1.heap.size := Nat.le_trans Z0 K1.1
  show Gd p e below _ T1 (mkF m 5 #[.val (.ref a), .val (.ref o)] [(.ref a)])
  refine g_pop X1 hx hby i22_5 rfl ?_
  refine g_aloadN X1 hx hby i22_6 rfl rfl ?_
  refine g_areturn X1 hx hby hret rfl (fun _ => rfl) hlk rfl i22_7 (by decide) (by decide) ?_
  exact ⟨_, rfl, rfl, K0, E, FV1, FC1, FN1, V1, FM1, N0⟩
theorem i21_0 : Ins1 prog_5_method_7_code 0 (.aload_n 0) 1 1 := ⟨by decide +kernel, rfl⟩
theorem i21_1 : Ins1 prog_5_method_7_code 1 (.getfield 10) 3 4 := ⟨by decide +kernel, rfl⟩
theorem i21_4 : Ins1 prog_5_method_7_code 4 (.aload_n 1) 1 5 := ⟨by decide +kernel, rfl⟩
theorem i21_5 : Ins1 prog_5_method_7_code 5 (.getfield 10) 3 8 := ⟨by decide +kernel, rfl⟩
theorem i21_8 : Ins1 prog_5_method_7_code 8 (.invokevirtual 60) 3 11 := ⟨by decide +kernel, rfl⟩
theorem i21_11 : Ins1 prog_5_method_7_code 11 (.pop) 1 12 := ⟨by decide +kernel, rfl⟩
theorem i21_12 : Ins1 prog_5_method_7_code 12 (.aload_n 0) 1 13 := ⟨by decide +kernel, rfl⟩
theorem i21_13 : Ins1 prog_5_method_7_code 13 (.areturn) 1 14 := ⟨by decide +kernel, rfl⟩
theorem ef_21 (m : MethodId) (r : Addr) (r2 : Addr) : entryFrame m #[(.ref r), (.ref r2)] 2 = mkF m 0 #[.val (.ref r), .val (.ref r2)] [] := by first | (simp [entryFrame, mkF, argsToLocals, Value.category]; done) | rfl
theorem pd_18 : parseMethodDescriptor "(Ljava/lang/CharSequence;)Ljava/lang/StringBuilder;" = some ⟨[(.object "java/lang/CharSequence")], some (.object "java/lang/StringBuilder")⟩ := by decide +kernel
set_option maxRecDepth 65536 in
set_option maxHeartbeats 40000000 in
theorem rm21 (l : Launch) (Z : State) (a0 : Array Value) (hw : ∀ d ∈ tables_1, d.before a0 Z = true) (ws : List Jvm.Cond) (r : Addr) (r2 : Addr) (cz : Int32) (a : Addr) (b : Addr) (kb : ClassId) (vd : List Value) (cn : Int32) (o : Addr) (ob : Addr) (kob : ClassId) (vd_o : List Value) (on : Int32) (i zn : Nat) (h0 : Heap) (n0 : Nat) (Z0 : n0 ≤ h0.size) (S0 : Sta Z Z.heap "java/lang/String" "COMPACT_STRINGS" "Z" (.int cz)) (hcz : ¬ cz = (0 : Int32)) (O : Old Z n0 h0) (FL : Fld Z h0 r "com/example/cloudgavel/cloudgavel/cli/Report" "lines" "Ljava/lang/StringBuilder;" (.ref a)) (FL2 : Fld Z h0 r2 "com/example/cloudgavel/cloudgavel/cli/Report" "lines" "Ljava/lang/StringBuilder;" (.ref o)) (E : Exa Z h0 a "java/lang/StringBuilder") (FV : Fld Z h0 a "java/lang/AbstractStringBuilder" "value" "[B" (.ref b)) (FC : Fld Z h0 a "java/lang/AbstractStringBuilder" "coder" "B" (.int 0)) (FN : Fld Z h0 a "java/lang/AbstractStringBuilder" "count" "I" (.int cn)) (V : Arv Z h0 b kb .byte (16 : Int32) vd (.int (0 : Int32))) (FM : Fld Z h0 a "java/lang/AbstractStringBuilder" "maybeLatin1" "Z" (.int 0)) (E_o : Exa Z h0 o "java/lang/StringBuilder") (FV_o : Fld Z h0 o "java/lang/AbstractStringBuilder" "value" "[B" (.ref ob)) (FC_o : Fld Z h0 o "java/lang/AbstractStringBuilder" "coder" "B" (.int 0)) (FN_o : Fld Z h0 o "java/lang/AbstractStringBuilder" "count" "I" (.int on)) (V_o : Arv Z h0 ob kob .byte (16 : Int32) vd_o (.int (0 : Int32))) (FM_o : Fld Z h0 o "java/lang/AbstractStringBuilder" "maybeLatin1" "Z" (.int 0)) (g_a : n0 ≤ a) (g_b : n0 ≤ b) (hab : a ≠ b) (hoa : o ≠ a) (hob' : o ≠ b) (hoba : ob ≠ a) (hob : ob ≠ b) (hi0 : ¬ cn < 0) (hi : cn.toNatClampNeg = i) (hz0 : ¬ on < 0) (hzn : on.toNatClampNeg = zn) (hle : i + zn ≤ 16) (hle2 : zn ≤ 16) (hvl : vd.length = 16) (hc0 : 0 ≤ (cn + on).toInt) (hc1 : (cn + on).toInt ≤ 16) (n_r_a : r ≠ a) (n_r_b : r ≠ b) (n_r2_a : r2 ≠ a) (n_r2_b : r2 ≠ b) :
    Met1 l (⟨"com/example/cloudgavel/cloudgavel/cli/Report", "lines", "(Lcom/example/cloudgavel/cloudgavel/cli/Report;)Lcom/example/cloudgavel/cloudgavel/cli/Report;"⟩ : MethodName) prog_5_method_7_code 2 (some (.object "com/example/cloudgavel/cloudgavel/cli/Report")) ws ({ frames := 5, cells := 0, slots := 0, locals := 73 } : Room) #[(.ref r), (.ref r2)] Z h0 (RV fun vv h L => vv = .ref r ∧ Keep h0 h [a, b] ∧ Exa Z h a "java/lang/StringBuilder" ∧ Fld Z h a "java/lang/AbstractStringBuilder" "value" "[B" (.ref b) ∧ Fld Z h a "java/lang/AbstractStringBuilder" "coder" "B" (.int 0) ∧ Fld Z h a "java/lang/AbstractStringBuilder" "count" "I" (.int (cn + on)) ∧ Arv Z h b kb .byte (16 : Int32) (own_put vd i zn vd_o) (.int (0 : Int32)) ∧ Fld Z h a "java/lang/AbstractStringBuilder" "maybeLatin1" "Z" (.int 0) ∧ Fr n0 L) := by
  refine met_of (plainFor_of_name pn_com_example_cloudgavel_cloudgavel_cli_Report) ?_
  intro p e s m below meth c T0 X0 hx hby hml hZ hown hnm hret hlk e0 es
  have N0 := Fr.nil n0
  refine Gd.cast (ef_21 m r r2) ?_
  have K0 : Keep h0 h0 [a, b] := Keep.refl _ _
  refine g_aloadN X0 hx hby i21_0 rfl rfl ?_
  refine g_getfield X0 hx hby hZ hown (host := "") (Or.inl (hw _ (List.mem_of_getElem? (i := 29) rfl))) Via.refl e0 FL i21_1 fun T1 X1 e1 => ?_
  refine g_aloadN X1 hx hby i21_4 rfl rfl ?_
  refine g_getfield X1 hx hby hZ hown (host := "") (Or.inl (hw _ (List.mem_of_getElem? (i := 29) rfl))) Via.refl e1 FL2 i21_5 fun T2 X2 e2 => ?_
  refine g_callV0 X2 hx hby hZ (y0 := (⟨"java/lang/StringBuilder", "append", "(Ljava/lang/CharSequence;)Ljava/lang/StringBuilder;"⟩ : MethodName)) (y := (⟨"java/lang/StringBuilder", "append", "(Ljava/lang/CharSequence;)Ljava/lang/StringBuilder;"⟩ : MethodName)) (argsL := [(.ref o)]) (rest := []) hown (hw _ (List.mem_of_getElem? (i := 125) rfl)) (hw _ (List.mem_of_getElem? (i := 126) rfl)) (notFace_of_selects (args := #[]) (mvT hZ (hw _ (List.mem_of_getElem? (i := 128) rfl)))) (hw _ (List.mem_of_getElem? (i := 128) rfl)) (hw _ (List.mem_of_getElem? (i := 127) rfl)) (hw _ (List.mem_of_getElem? (i := 11) rfl)) (hw _ (List.mem_of_getElem? (i := 129) rfl)) (by decide) (a := a) E (rm22 l Z a0 hw [] a o cz b kb _ cn ob kob _ on i zn h0 n0 Z0 S0 hcz O E FV FC FN V FM E_o FV_o FC_o FN_o V_o FM_o g_a g_b hab hoa hob' hoba hob hi0 hi hz0 hzn hle hle2 hvl hc0 hc1) e2 (by rw [hml]; rfl) pd_18 rfl rfl i21_8 (by decide) 0 rfl (by decide) (by decide) (by decide) fun T3 v3 L3 X3 q3 => ?_
  obtain ⟨_, rfl, rfl, K3, E3, FV3, FC3, FN3, V3, FM3, N3⟩ := q3
  have N0 := Fr.app N0 N3
  have K0 := K0.trans K3 (fun x hx => Or.inl hx)
  have FL := FL.keep K3 (ninS n_r_a (ninS n_r_b nin0))
  have FL2 := FL2.keep K3 (ninS n_r2_a (ninS n_r2_b nin0))
  have E := E.keep K3
  have E_o := E_o.keep K3
  have FV_o := FV_o.keep K3 (ninS hoa (ninS hob' nin0))
  have FC_o := FC_o.keep K3 (ninS hoa (ninS hob' nin0))
  have FN_o := FN_o.keep K3 (ninS hoa (ninS hob' nin0))
  have V_o := V_o.keep K3 (ninS hoba (ninS hob nin0))
  have FM_o := FM_o.keep K3 (ninS hoa (ninS hob' nin0))
  have O := O.keep K3 (allS g_a (allS g_b all0))
  have Z0 : n0 ≤ T3.heap.size := Nat.le_trans Z0 K3.1
  show Gd p e below _ T3 (mkF m 11 #[.val (.ref r), .val (.ref r2)] [(.ref a)])
  refine g_pop X3 hx hby i21_11 rfl ?_
  refine g_aloadN X3 hx hby i21_12 rfl rfl ?_
  refine g_areturn X3 hx hby hret rfl (fun _ => rfl) hlk rfl i21_13 (by decide) (by decide) ?_
  exact ⟨_, rfl, rfl, K0, E, FV3, FC3, FN3, V3, FM3, N0⟩
theorem i34_0 : Ins1 jdk_68_method_64_code 0 (.aload_n 0) 1 1 := ⟨by decide +kernel, rfl⟩
theorem i34_1 : Ins1 jdk_68_method_64_code 1 (.getfield 15) 3 4 := ⟨by decide +kernel, rfl⟩
theorem i34_4 : Ins1 jdk_68_method_64_code 4 (.areturn) 1 5 := ⟨by decide +kernel, rfl⟩
theorem ef_34 (m : MethodId) (a : Addr) : entryFrame m #[(.ref a)] 1 = mkF m 0 #[.val (.ref a)] [] := by first | (simp [entryFrame, mkF, argsToLocals, Value.category]; done) | rfl
set_option maxRecDepth 65536 in
set_option maxHeartbeats 40000000 in
theorem rm34 (l : Launch) (Z : State) (a0 : Array Value) (hw : ∀ d ∈ tables_1, d.before a0 Z = true) (ws : List Jvm.Cond) (a : Addr) (b : Addr) (kb : ClassId) (vd : List Value) (cn : Int32) (h0 : Heap) (n0 : Nat) (Z0 : n0 ≤ h0.size) (E : Exa Z h0 a "java/lang/StringBuilder") (FV : Fld Z h0 a "java/lang/AbstractStringBuilder" "value" "[B" (.ref b)) (FC : Fld Z h0 a "java/lang/AbstractStringBuilder" "coder" "B" (.int 0)) (FN : Fld Z h0 a "java/lang/AbstractStringBuilder" "count" "I" (.int cn)) (V : Arv Z h0 b kb .byte (16 : Int32) vd (.int (0 : Int32))) :
    Met1 l (⟨"java/lang/AbstractStringBuilder", "getValue", "()[B"⟩ : MethodName) jdk_68_method_64_code 1 (some (.array .byte)) ws ({ frames := 0, cells := 0, slots := 0, locals := 0 } : Room) #[(.ref a)] Z h0 (RV fun vv h L => vv = .ref b ∧ h = h0 ∧ Fr n0 L) := by
  refine met_of (plainFor_of_name pn_java_lang_AbstractStringBuilder) ?_
  intro p e s m below meth c T0 X0 hx hby hml hZ hown hnm hret hlk e0 es
  have N0 := Fr.nil n0
  refine Gd.cast (ef_34 m a) ?_
  refine g_aloadN X0 hx hby i34_0 rfl rfl ?_
  refine g_getfield X0 hx hby hZ hown (host := "") (Or.inl (hw _ (List.mem_of_getElem? (i := 25) rfl))) Via.refl e0 FV i34_1 fun T1 X1 e1 => ?_
  refine g_areturn X1 hx hby hret rfl (fun _ => rfl) hlk rfl i34_4 (by decide) (by decide) ?_
  exact ⟨_, rfl, rfl, e1, N0⟩
theorem i37_0 : Ins1 jdk_65_method_131_code 0 (.iload_n 1) 1 1 := ⟨by decide +kernel, rfl⟩
theorem i37_1 : Ins1 jdk_65_method_131_code 1 (.iload_n 0) 1 2 := ⟨by decide +kernel, rfl⟩
theorem i37_2 : InsB jdk_65_method_131_code 2 (.if_icmp .ge 35) 35 5 37 := ⟨by decide +kernel, rfl, by decide, by decide⟩
theorem i37_5 : Ins1 jdk_65_method_131_code 5 (.new 43) 3 8 := ⟨by decide +kernel, rfl⟩
theorem i37_8 : Ins1 jdk_65_method_131_code 8 (.dup) 1 9 := ⟨by decide +kernel, rfl⟩
theorem i37_9 : Ins1 jdk_65_method_131_code 9 (.new 45) 3 12 := ⟨by decide +kernel, rfl⟩
theorem i37_12 : Ins1 jdk_65_method_131_code 12 (.dup) 1 13 := ⟨by decide +kernel, rfl⟩
theorem i37_13 : Ins1 jdk_65_method_131_code 13 (.invokespecial 47) 3 16 := ⟨by decide +kernel, rfl⟩
theorem i37_16 : Ins1 jdk_65_method_131_code 16 (.iload_n 0) 1 17 := ⟨by decide +kernel, rfl⟩
theorem i37_17 : Ins1 jdk_65_method_131_code 17 (.invokevirtual 54) 3 20 := ⟨by decide +kernel, rfl⟩
theorem i37_20 : Ins1 jdk_65_method_131_code 20 (.ldc_w 337) 3 23 := ⟨by decide +kernel, rfl⟩
theorem i37_23 : Ins1 jdk_65_method_131_code 23 (.invokevirtual 50) 3 26 := ⟨by decide +kernel, rfl⟩
theorem i37_26 : Ins1 jdk_65_method_131_code 26 (.iload_n 1) 1 27 := ⟨by decide +kernel, rfl⟩
theorem i37_27 : Ins1 jdk_65_method_131_code 27 (.invokevirtual 54) 3 30 := ⟨by decide +kernel, rfl⟩
theorem i37_30 : Ins1 jdk_65_method_131_code 30 (.invokevirtual 61) 3 33 := ⟨by decide +kernel, rfl⟩
theorem i37_33 : Ins1 jdk_65_method_131_code 33 (.invokespecial 65) 3 36 := ⟨by decide +kernel, rfl⟩
theorem i37_36 : Ins1 jdk_65_method_131_code 36 (.athrow) 1 37 := ⟨by decide +kernel, rfl⟩
theorem i37_37 : Ins1 jdk_65_method_131_code 37 (.return_) 1 38 := ⟨by decide +kernel, rfl⟩
theorem pn_java_util_Arrays : plainName "java/util/Arrays" = true := by first | (simp [plainName, overriddenIn]; done) | decide +kernel
theorem ef_37 (m : MethodId) (p0 : Int32) (p1 : Int32) : entryFrame m #[(.int p0), (.int p1)] 2 = mkF m 0 #[.val (.int p0), .val (.int p1)] [] := by first | (simp [entryFrame, mkF, argsToLocals, Value.category]; done) | rfl
set_option maxRecDepth 65536 in
set_option maxHeartbeats 40000000 in
theorem rm37 (l : Launch) (Z : State) (a0 : Array Value) (hw : ∀ d ∈ tables_1, d.before a0 Z = true) (ws : List Jvm.Cond) (p0 : Int32) (p1 : Int32)  (h0 : Heap) (n0 : Nat) (Z0 : n0 ≤ h0.size) (hp : ¬ p1 < p0) :
    Met1 l (⟨"java/util/Arrays", "checkLength", "(II)V"⟩ : MethodName) jdk_65_method_131_code 2 none ws ({ frames := 0, cells := 0, slots := 0, locals := 0 } : Room) #[(.int p0), (.int p1)] Z h0 (RN fun h L => h = h0 ∧ Fr n0 L) := by
  refine met_of (plainFor_of_name pn_java_util_Arrays) ?_
  intro p e s m below meth c T0 X0 hx hby hml hZ hown hnm hret hlk e0 es
  have N0 := Fr.nil n0
  refine Gd.cast (ef_37 m p0 p1) ?_
  refine g_iloadN X0 hx hby i37_0 rfl ?_
  refine g_iloadN X0 hx hby i37_1 rfl ?_
  refine g_icmp_ge X0 hx hby i37_2 (fun c2_1 => ?_) (fun c2_1 => False.elim (hp c2_1))
  refine g_return X0 hx hby hret hlk i37_37 (by decide) (by decide) ?_
  exact ⟨rfl, e0, N0⟩
theorem i38_0 : Ins1 jdk_29_method_69_code 0 (.iload_n 0) 1 1 := ⟨by decide +kernel, rfl⟩
theorem i38_1 : Ins1 jdk_29_method_69_code 1 (.iload_n 1) 1 2 := ⟨by decide +kernel, rfl⟩
theorem i38_2 : InsB jdk_29_method_69_code 2 (.if_icmp .gt 7) 7 5 9 := ⟨by decide +kernel, rfl, by decide, by decide⟩
theorem i38_5 : Ins1 jdk_29_method_69_code 5 (.iload_n 0) 1 6 := ⟨by decide +kernel, rfl⟩
theorem i38_6 : InsB jdk_29_method_69_code 6 (.goto 4) 4 9 10 := ⟨by decide +kernel, rfl, by decide, by decide⟩
theorem i38_9 : Ins1 jdk_29_method_69_code 9 (.iload_n 1) 1 10 := ⟨by decide +kernel, rfl⟩
theorem i38_10 : Ins1 jdk_29_method_69_code 10 (.ireturn) 1 11 := ⟨by decide +kernel, rfl⟩
theorem ef_38 (m : MethodId) (p0 : Int32) (p1 : Int32) : entryFrame m #[(.int p0), (.int p1)] 2 = mkF m 0 #[.val (.int p0), .val (.int p1)] [] := by first | (simp [entryFrame, mkF, argsToLocals, Value.category]; done) | rfl
set_option maxRecDepth 65536 in
set_option maxHeartbeats 40000000 in
theorem rm38 (l : Launch) (Z : State) (a0 : Array Value) (hw : ∀ d ∈ tables_1, d.before a0 Z = true) (ws : List Jvm.Cond) (p0 : Int32) (p1 : Int32)  (h0 : Heap) (n0 : Nat) (Z0 : n0 ≤ h0.size) (hp : p1 < p0) :
    Met1 l (⟨"java/lang/Math", "min", "(II)I"⟩ : MethodName) jdk_29_method_69_code 2 (some .int) ws ({ frames := 0, cells := 0, slots := 0, locals := 0 } : Room) #[(.int p0), (.int p1)] Z h0 (RV fun vv h L => vv = .int p1 ∧ h = h0 ∧ Fr n0 L) := by
  refine met_of (Jvm.Free.JP.mathPlain rfl (by decide +kernel)) ?_
  intro p e s m below meth c T0 X0 hx hby hml hZ hown hnm hret hlk e0 es
  have N0 := Fr.nil n0
  refine Gd.cast (ef_38 m p0 p1) ?_
  refine g_iloadN X0 hx hby i38_0 rfl ?_
  refine g_iloadN X0 hx hby i38_1 rfl ?_
  refine g_icmp_gt X0 hx hby i38_2 (fun c2_1 => ?_) (fun c2_1 => False.elim (c2_1 hp))
  refine g_iloadN X0 hx hby i38_9 rfl ?_
  refine g_ireturn X0 hx hby hret hlk i38_10 (by decide) (by decide) ?_
  exact ⟨_, rfl, rfl, e0, N0⟩
theorem i36_0 : Ins1 jdk_65_method_133_code 0 (.iload_n 1) 1 1 := ⟨by decide +kernel, rfl⟩
theorem i36_1 : Ins1 jdk_65_method_133_code 1 (.iload_n 2) 1 2 := ⟨by decide +kernel, rfl⟩
theorem i36_2 : Ins1 jdk_65_method_133_code 2 (.invokestatic 343) 3 5 := ⟨by decide +kernel, rfl⟩
theorem i36_5 : Ins1 jdk_65_method_133_code 5 (.iload_n 2) 1 6 := ⟨by decide +kernel, rfl⟩
theorem i36_6 : Ins1 jdk_65_method_133_code 6 (.iload_n 1) 1 7 := ⟨by decide +kernel, rfl⟩
theorem i36_7 : Ins1 jdk_65_method_133_code 7 (.isub) 1 8 := ⟨by decide +kernel, rfl⟩
theorem i36_8 : Ins1 jdk_65_method_133_code 8 (.istore_n 3) 1 9 := ⟨by decide +kernel, rfl⟩
theorem i36_9 : Ins1 jdk_65_method_133_code 9 (.iload_n 3) 1 10 := ⟨by decide +kernel, rfl⟩
theorem i36_10 : Ins1 jdk_65_method_133_code 10 (.newarray .byte) 2 12 := ⟨by decide +kernel, rfl⟩
theorem i36_12 : Ins1 jdk_65_method_133_code 12 (.astore 4) 2 14 := ⟨by decide +kernel, rfl⟩
theorem i36_14 : Ins1 jdk_65_method_133_code 14 (.aload_n 0) 1 15 := ⟨by decide +kernel, rfl⟩
theorem i36_15 : Ins1 jdk_65_method_133_code 15 (.iload_n 1) 1 16 := ⟨by decide +kernel, rfl⟩
theorem i36_16 : Ins1 jdk_65_method_133_code 16 (.aload 4) 2 18 := ⟨by decide +kernel, rfl⟩
theorem i36_18 : Ins1 jdk_65_method_133_code 18 (.iconst 0) 1 19 := ⟨by decide +kernel, rfl⟩
theorem i36_19 : Ins1 jdk_65_method_133_code 19 (.aload_n 0) 1 20 := ⟨by decide +kernel, rfl⟩
theorem i36_20 : Ins1 jdk_65_method_133_code 20 (.arraylength) 1 21 := ⟨by decide +kernel, rfl⟩
theorem i36_21 : Ins1 jdk_65_method_133_code 21 (.iload_n 1) 1 22 := ⟨by decide +kernel, rfl⟩
theorem i36_22 : Ins1 jdk_65_method_133_code 22 (.isub) 1 23 := ⟨by decide +kernel, rfl⟩
theorem i36_23 : Ins1 jdk_65_method_133_code 23 (.iload_n 3) 1 24 := ⟨by decide +kernel, rfl⟩
theorem i36_24 : Ins1 jdk_65_method_133_code 24 (.invokestatic 304) 3 27 := ⟨by decide +kernel, rfl⟩
theorem i36_27 : Ins1 jdk_65_method_133_code 27 (.invokestatic 150) 3 30 := ⟨by decide +kernel, rfl⟩
theorem i36_30 : Ins1 jdk_65_method_133_code 30 (.aload 4) 2 32 := ⟨by decide +kernel, rfl⟩
theorem i36_32 : Ins1 jdk_65_method_133_code 32 (.areturn) 1 33 := ⟨by decide +kernel, rfl⟩
theorem ef_36 (m : MethodId) (b : Addr) (p1 : Int32) (p2 : Int32) : entryFrame m #[(.ref b), (.int p1), (.int p2)] 5 = mkF m 0 #[.val (.ref b), .val (.int p1), .val (.int p2), .unset, .unset] [] := by first | (simp [entryFrame, mkF, argsToLocals, Value.category]; done) | rfl
theorem pd_19 : parseMethodDescriptor "(II)V" = some ⟨[.int, .int], none⟩ := by decide +kernel
theorem pd_20 : parseMethodDescriptor "(II)I" = some ⟨[.int, .int], some .int⟩ := by decide +kernel
set_option maxRecDepth 65536 in
set_option maxHeartbeats 40000000 in
theorem rm36 (l : Launch) (Z : State) (a0 : Array Value) (hw : ∀ d ∈ tables_1, d.before a0 Z = true) (ws : List Jvm.Cond) (b : Addr) (p1 : Int32) (p2 : Int32) (kb : ClassId) (vd : List Value) (zn : Nat) (h0 : Heap) (n0 : Nat) (Z0 : n0 ≤ h0.size) (V : Arv Z h0 b kb .byte (16 : Int32) vd (.int (0 : Int32))) (hp1 : p1 = 0) (hz0 : ¬ p2 < (0 : Int32)) (hlt : p2 < (16 : Int32)) (hzn : p2.toNatClampNeg = zn) (hle2 : zn ≤ 16) :
    Met1 l (⟨"java/util/Arrays", "copyOfRangeByte", "([BII)[B"⟩ : MethodName) jdk_65_method_133_code 5 (some (.array .byte)) ws ({ frames := 1, cells := 1, slots := 16, locals := 18 } : Room) #[(.ref b), (.int p1), (.int p2)] Z h0 (RV fun z h L => ∃ t kt, z = .ref t ∧ Keep h0 h [] ∧ Arv Z h t kt .byte p2 (own_us zn vd) (.int (0 : Int32)) ∧ n0 ≤ t ∧ h0.size ≤ t ∧ Fr n0 L) := by
  refine met_of (plainFor_of_name pn_java_util_Arrays) ?_
  intro p e s m below meth c T0 X0 hx hby hml hZ hown hnm hret hlk e0 es
  have N0 := Fr.nil n0
  refine Gd.cast (ef_36 m b p1 p2) ?_
  subst hp1
  have K0 : Keep h0 h0 [] := Keep.refl _ _
  refine g_iloadN X0 hx hby i36_0 rfl ?_
  refine g_iloadN X0 hx hby i36_1 rfl ?_
  refine g_callS0 X0 hx hby hZ (y := (⟨"java/util/Arrays", "checkLength", "(II)V"⟩ : MethodName)) (argsL := [(.int (0 : Int32)), (.int p2)]) (rest := []) hown (hw _ (List.mem_of_getElem? (i := 201) rfl)) (hw _ (List.mem_of_getElem? (i := 202) rfl)) (hw _ (List.mem_of_getElem? (i := 196) rfl)) (hw _ (List.mem_of_getElem? (i := 203) rfl)) (by decide) (rm37 l Z a0 hw [] (0 : Int32) p2  h0 n0 Z0 hz0) e0 (by rw [hml]; rfl) pd_19 rfl rfl i36_2 (by decide) 0 rfl (by decide) (by decide) (by decide) fun T1 v1 L1 X1 q1 => ?_
  obtain ⟨rfl, e1, N1⟩ := q1
  have N0 := Fr.app N0 N1
  show Gd p e below _ T1 (mkF m 5 #[.val (.ref b), .val (.int (0 : Int32)), .val (.int p2), .unset, .unset] [])
  refine g_iloadN X1 hx hby i36_5 rfl ?_
  refine g_iloadN X1 hx hby i36_6 rfl ?_
  refine g_isub X1 hx hby i36_7 ?_
  rw [own_sub0 p2]
  refine g_istoreN X1 hx hby i36_8 (l' := #[.val (.ref b), .val (.int (0 : Int32)), .val (.int p2), .val (.int p2), .unset]) rfl ?_
  refine g_iloadN X1 hx hby i36_9 rfl ?_
  refine g_newarray X1 hx hby hZ (ty := .byte) rfl (hw _ (List.mem_of_getElem? (i := 24) rfl)) e1 i36_10 hz0 16 (by rw [hzn]; exact hle2) (by decide) (by decide) (by decide) fun T2 h2 b2 k2 X2 e2 E2 hb2 V2 => ?_
  have ne_b_b2 : b ≠ b2 := Nat.ne_of_lt (Nat.lt_of_lt_of_le V.lt (Nat.le_of_eq hb2.symm))
  have g_b2 : n0 ≤ b2 := Nat.le_trans Z0 (Nat.le_of_eq hb2.symm)
  have V := V.ext E2
  have sz_b2 : h0.size ≤ b2 := Nat.le_trans K0.1 (Nat.le_of_eq hb2.symm)
  have K0 := K0.ext E2
  have Z0 : n0 ≤ h2.size := Nat.le_trans Z0 E2.1
  have V2 : Arv Z h2 b2 k2 .byte p2 [] (.int (0 : Int32)) := V2
  have V2 : Arv Z h2 b2 k2 .byte p2 (List.replicate zn (.int (0 : Int32))) (.int (0 : Int32)) := V2.pad (pad_rep [] _ zn)
  refine g_astore X2 hx hby i36_12 rfl (l' := #[.val (.ref b), .val (.int (0 : Int32)), .val (.int p2), .val (.int p2), .val (.ref b2)]) rfl ?_
  refine g_aloadN X2 hx hby i36_14 rfl rfl ?_
  refine g_iloadN X2 hx hby i36_15 rfl ?_
  refine g_aload X2 hx hby i36_16 rfl rfl ?_
  refine g_iconst X2 hx hby i36_18 (z := (0 : Int32)) (by decide) ?_
  refine g_aloadN X2 hx hby i36_19 rfl rfl ?_
  refine g_arraylength X2 hx hby hZ e2 V i36_20 ?_
  refine g_iloadN X2 hx hby i36_21 rfl ?_
  refine g_isub X2 hx hby i36_22 ?_
  refine g_iloadN X2 hx hby i36_23 rfl ?_
  refine g_callS0 X2 hx hby hZ (y := (⟨"java/lang/Math", "min", "(II)I"⟩ : MethodName)) (argsL := [(.int ((16 : Int32) - (0 : Int32))), (.int p2)]) (rest := [(.int (0 : Int32)), (.ref b2), (.int (0 : Int32)), (.ref b)]) hown (hw _ (List.mem_of_getElem? (i := 204) rfl)) (hw _ (List.mem_of_getElem? (i := 205) rfl)) (hw _ (List.mem_of_getElem? (i := 206) rfl)) (hw _ (List.mem_of_getElem? (i := 207) rfl)) (by decide) (rm38 l Z a0 hw [] ((16 : Int32) - (0 : Int32)) p2  h2 n0 Z0 (own_min hlt)) e2 (by rw [hml]; rfl) pd_20 rfl rfl i36_24 (by decide) 4 rfl (by decide) (by decide) (by decide) fun T3 v3 L3 X3 q3 => ?_
  obtain ⟨_, rfl, rfl, e3, N3⟩ := q3
  have N0 := Fr.app N0 N3
  show Gd p e below _ T3 (mkF m 27 #[.val (.ref b), .val (.int (0 : Int32)), .val (.int p2), .val (.int p2), .val (.ref b2)] [(.int p2), (.int (0 : Int32)), (.ref b2), (.int (0 : Int32)), (.ref b)])
  refine g_arraycopy X3 hx hby hZ hown (hw _ (List.mem_of_getElem? (i := 208) rfl)) (hw _ (List.mem_of_getElem? (i := 104) rfl)) (hw _ (List.mem_of_getElem? (i := 102) rfl)) (hw _ (List.mem_of_getElem? (i := 103) rfl)) e3 V V2 rfl (by decide) (by decide) hz0 (by rw [hzn, own_0]; exact hle2) (by rw [own_0]; exact Nat.le_refl _) (us := own_us zn vd) (by rw [hzn]; exact own_us0 zn vd) (by rw [own_0, hzn]; simp) N0 g_b2 (by rw [hml]; rfl) i36_27 (by decide) 0 rfl (by decide) fun T4 h4 L4 X4 e4 N0 K4 V4 => ?_
  have K0 := K0.trans K4 (fun x hx => Or.inr (by cases hx with | head => exact sz_b2 | tail _ q => cases q))
  have V := V.keep K4 (ninS ne_b_b2 nin0)
  have Z0 : n0 ≤ h4.size := Nat.le_trans Z0 K4.1
  rw [hzn, own_padz zn _ _ (own_uslen zn vd)] at V4
  show Gd p e below _ T4 (mkF m 30 #[.val (.ref b), .val (.int (0 : Int32)), .val (.int p2), .val (.int p2), .val (.ref b2)] [])
  refine g_aload X4 hx hby i36_30 rfl rfl ?_
  refine g_areturn X4 hx hby hret rfl (fun _ => rfl) hlk rfl i36_32 (by decide) (by decide) ?_
  rw [e4]
  exact ⟨_, rfl, b2, _, rfl, K0, V4, g_b2, sz_b2, N0⟩
theorem i35_0 : Ins1 jdk_65_method_132_code 0 (.iload_n 1) 1 1 := ⟨by decide +kernel, rfl⟩
theorem i35_1 : InsB jdk_65_method_132_code 1 (.ifCond .ne 9) 9 4 10 := ⟨by decide +kernel, rfl, by decide, by decide⟩
theorem i35_4 : Ins1 jdk_65_method_132_code 4 (.iload_n 2) 1 5 := ⟨by decide +kernel, rfl⟩
theorem i35_5 : Ins1 jdk_65_method_132_code 5 (.aload_n 0) 1 6 := ⟨by decide +kernel, rfl⟩
theorem i35_6 : Ins1 jdk_65_method_132_code 6 (.arraylength) 1 7 := ⟨by decide +kernel, rfl⟩
theorem i35_7 : InsB jdk_65_method_132_code 7 (.if_icmp .eq 10) 10 10 17 := ⟨by decide +kernel, rfl, by decide, by decide⟩
theorem i35_10 : Ins1 jdk_65_method_132_code 10 (.aload_n 0) 1 11 := ⟨by decide +kernel, rfl⟩
theorem i35_11 : Ins1 jdk_65_method_132_code 11 (.iload_n 1) 1 12 := ⟨by decide +kernel, rfl⟩
theorem i35_12 : Ins1 jdk_65_method_132_code 12 (.iload_n 2) 1 13 := ⟨by decide +kernel, rfl⟩
theorem i35_13 : Ins1 jdk_65_method_132_code 13 (.invokestatic 339) 3 16 := ⟨by decide +kernel, rfl⟩
theorem i35_16 : Ins1 jdk_65_method_132_code 16 (.areturn) 1 17 := ⟨by decide +kernel, rfl⟩
theorem i35_17 : Ins1 jdk_65_method_132_code 17 (.aload_n 0) 1 18 := ⟨by decide +kernel, rfl⟩
theorem i35_18 : Ins1 jdk_65_method_132_code 18 (.invokevirtual 310) 3 21 := ⟨by decide +kernel, rfl⟩
theorem i35_21 : Ins1 jdk_65_method_132_code 21 (.checkcast 311) 3 24 := ⟨by decide +kernel, rfl⟩
theorem i35_24 : Ins1 jdk_65_method_132_code 24 (.areturn) 1 25 := ⟨by decide +kernel, rfl⟩
theorem ef_35 (m : MethodId) (b : Addr) (p1 : Int32) (p2 : Int32) : entryFrame m #[(.ref b), (.int p1), (.int p2)] 3 = mkF m 0 #[.val (.ref b), .val (.int p1), .val (.int p2)] [] := by first | (simp [entryFrame, mkF, argsToLocals, Value.category]; done) | rfl
theorem pd_21 : parseMethodDescriptor "([BII)[B" = some ⟨[(.array .byte), .int, .int], some (.array .byte)⟩ := by decide +kernel
set_option maxRecDepth 65536 in
set_option maxHeartbeats 40000000 in
theorem rm35 (l : Launch) (Z : State) (a0 : Array Value) (hw : ∀ d ∈ tables_1, d.before a0 Z = true) (ws : List Jvm.Cond) (b : Addr) (p1 : Int32) (p2 : Int32) (kb : ClassId) (vd : List Value) (zn : Nat) (h0 : Heap) (n0 : Nat) (Z0 : n0 ≤ h0.size) (V : Arv Z h0 b kb .byte (16 : Int32) vd (.int (0 : Int32))) (hp1 : p1 = 0) (hz0 : ¬ p2 < (0 : Int32)) (hlt : p2 < (16 : Int32)) (hzn : p2.toNatClampNeg = zn) (hle2 : zn ≤ 16) :
    Met1 l (⟨"java/util/Arrays", "copyOfRange", "([BII)[B"⟩ : MethodName) jdk_65_method_132_code 3 (some (.array .byte)) ws ({ frames := 2, cells := 1, slots := 16, locals := 34 } : Room) #[(.ref b), (.int p1), (.int p2)] Z h0 (RV fun z h L => ∃ t kt, z = .ref t ∧ Keep h0 h [] ∧ Arv Z h t kt .byte p2 (own_us zn vd) (.int (0 : Int32)) ∧ n0 ≤ t ∧ h0.size ≤ t ∧ Fr n0 L) := by
  refine met_of (plainFor_of_name pn_java_util_Arrays) ?_
  intro p e s m below meth c T0 X0 hx hby hml hZ hown hnm hret hlk e0 es
  have N0 := Fr.nil n0
  refine Gd.cast (ef_35 m b p1 p2) ?_
  subst hp1
  have K0 : Keep h0 h0 [] := Keep.refl _ _
  refine g_iloadN X0 hx hby i35_0 rfl ?_
  refine g_if_ne X0 hx hby i35_1 (fun c1_1 => False.elim (absurd c1_1 (by decide))) fun c1_1 => ?_
  refine g_iloadN X0 hx hby i35_4 rfl ?_
  refine g_aloadN X0 hx hby i35_5 rfl rfl ?_
  refine g_arraylength X0 hx hby hZ e0 V i35_6 ?_
  refine g_icmp_eq X0 hx hby i35_7 (fun c7_2 => False.elim (absurd hlt (by rw [c7_2]; decide))) fun c7_2 => ?_
  refine g_aloadN X0 hx hby i35_10 rfl rfl ?_
  refine g_iloadN X0 hx hby i35_11 rfl ?_
  refine g_iloadN X0 hx hby i35_12 rfl ?_
  refine g_callS0 X0 hx hby hZ (y := (⟨"java/util/Arrays", "copyOfRangeByte", "([BII)[B"⟩ : MethodName)) (argsL := [(.ref b), (.int (0 : Int32)), (.int p2)]) (rest := []) hown (hw _ (List.mem_of_getElem? (i := 198) rfl)) (hw _ (List.mem_of_getElem? (i := 199) rfl)) (hw _ (List.mem_of_getElem? (i := 196) rfl)) (hw _ (List.mem_of_getElem? (i := 200) rfl)) (by decide) (rm36 l Z a0 hw [] b (0 : Int32) p2 kb _ zn h0 n0 Z0 V rfl hz0 hlt hzn hle2) e0 (by rw [hml]; rfl) pd_21 rfl rfl i35_13 (by decide) 0 rfl (by decide) (by decide) (by decide) fun T3 v3 L3 X3 q3 => ?_
  obtain ⟨_, rfl, t3, kt3, rfl, K3, V3, g_t3, s3, N3⟩ := q3
  have N0 := Fr.app N0 N3
  have ne_b_t3 : b ≠ t3 := Nat.ne_of_lt (Nat.lt_of_lt_of_le V.lt s3)
  have sz_t3 : h0.size ≤ t3 := Nat.le_trans K0.1 s3
  have K0 := K0.trans K3 (fun x hx => nomatch hx)
  have V := V.keep K3 nin0
  have Z0 : n0 ≤ T3.heap.size := Nat.le_trans Z0 K3.1
  show Gd p e below _ T3 (mkF m 16 #[.val (.ref b), .val (.int (0 : Int32)), .val (.int p2)] [(.ref t3)])
  refine g_areturn X3 hx hby hret rfl (fun _ => rfl) hlk rfl i35_16 (by decide) (by decide) ?_
  exact ⟨_, rfl, t3, _, rfl, K0, V3, g_t3, sz_t3, N0⟩
theorem i33_0 : Ins1 jdk_42_method_150_code 0 (.aload_n 0) 1 1 := ⟨by decide +kernel, rfl⟩
theorem i33_1 : Ins1 jdk_42_method_150_code 1 (.invokespecial 1) 3 4 := ⟨by decide +kernel, rfl⟩
theorem i33_4 : Ins1 jdk_42_method_150_code 4 (.aload_n 1) 1 5 := ⟨by decide +kernel, rfl⟩
theorem i33_5 : Ins1 jdk_42_method_150_code 5 (.invokevirtual 552) 3 8 := ⟨by decide +kernel, rfl⟩
theorem i33_8 : Ins1 jdk_42_method_150_code 8 (.astore_n 3) 1 9 := ⟨by decide +kernel, rfl⟩
theorem i33_9 : Ins1 jdk_42_method_150_code 9 (.aload_n 1) 1 10 := ⟨by decide +kernel, rfl⟩
theorem i33_10 : Ins1 jdk_42_method_150_code 10 (.invokevirtual 549) 3 13 := ⟨by decide +kernel, rfl⟩
theorem i33_13 : Ins1 jdk_42_method_150_code 13 (.istore 4) 2 15 := ⟨by decide +kernel, rfl⟩
theorem i33_15 : Ins1 jdk_42_method_150_code 15 (.aload_n 1) 1 16 := ⟨by decide +kernel, rfl⟩
theorem i33_16 : Ins1 jdk_42_method_150_code 16 (.invokevirtual 1047) 3 19 := ⟨by decide +kernel, rfl⟩
theorem i33_19 : InsB jdk_42_method_150_code 19 (.ifCond .eq 22) 22 22 41 := ⟨by decide +kernel, rfl, by decide, by decide⟩
theorem i33_22 : Ins1 jdk_42_method_150_code 22 (.aload_n 0) 1 23 := ⟨by decide +kernel, rfl⟩
theorem i33_23 : Ins1 jdk_42_method_150_code 23 (.iconst 0) 1 24 := ⟨by decide +kernel, rfl⟩
theorem i33_24 : Ins1 jdk_42_method_150_code 24 (.putfield 15) 3 27 := ⟨by decide +kernel, rfl⟩
theorem i33_27 : Ins1 jdk_42_method_150_code 27 (.aload_n 0) 1 28 := ⟨by decide +kernel, rfl⟩
theorem i33_28 : Ins1 jdk_42_method_150_code 28 (.aload_n 3) 1 29 := ⟨by decide +kernel, rfl⟩
theorem i33_29 : Ins1 jdk_42_method_150_code 29 (.iconst 0) 1 30 := ⟨by decide +kernel, rfl⟩
theorem i33_30 : Ins1 jdk_42_method_150_code 30 (.iload 4) 2 32 := ⟨by decide +kernel, rfl⟩
theorem i33_32 : Ins1 jdk_42_method_150_code 32 (.invokestatic 54) 3 35 := ⟨by decide +kernel, rfl⟩
theorem i33_35 : Ins1 jdk_42_method_150_code 35 (.putfield 9) 3 38 := ⟨by decide +kernel, rfl⟩
theorem i33_38 : InsB jdk_42_method_150_code 38 (.goto 59) 59 41 97 := ⟨by decide +kernel, rfl, by decide, by decide⟩
theorem i33_41 : Ins1 jdk_42_method_150_code 41 (.getstatic 38) 3 44 := ⟨by decide +kernel, rfl⟩
theorem i33_44 : InsB jdk_42_method_150_code 44 (.ifCond .eq 35) 35 47 79 := ⟨by decide +kernel, rfl, by decide, by decide⟩
theorem i33_47 : Ins1 jdk_42_method_150_code 47 (.aload_n 1) 1 48 := ⟨by decide +kernel, rfl⟩
theorem i33_48 : Ins1 jdk_42_method_150_code 48 (.getfield 1048) 3 51 := ⟨by decide +kernel, rfl⟩
theorem i33_51 : InsB jdk_42_method_150_code 51 (.ifCond .eq 28) 28 54 79 := ⟨by decide +kernel, rfl, by decide, by decide⟩
theorem i33_54 : Ins1 jdk_42_method_150_code 54 (.aload_n 0) 1 55 := ⟨by decide +kernel, rfl⟩
theorem i33_55 : Ins1 jdk_42_method_150_code 55 (.aload_n 3) 1 56 := ⟨by decide +kernel, rfl⟩
theorem i33_56 : Ins1 jdk_42_method_150_code 56 (.iconst 0) 1 57 := ⟨by decide +kernel, rfl⟩
theorem i33_57 : Ins1 jdk_42_method_150_code 57 (.iload 4) 2 59 := ⟨by decide +kernel, rfl⟩
theorem i33_59 : Ins1 jdk_42_method_150_code 59 (.invokestatic 1051) 3 62 := ⟨by decide +kernel, rfl⟩
theorem i33_62 : Ins1 jdk_42_method_150_code 62 (.putfield 9) 3 65 := ⟨by decide +kernel, rfl⟩
theorem i33_65 : Ins1 jdk_42_method_150_code 65 (.aload_n 0) 1 66 := ⟨by decide +kernel, rfl⟩
theorem i33_66 : Ins1 jdk_42_method_150_code 66 (.aload_n 0) 1 67 := ⟨by decide +kernel, rfl⟩
theorem i33_67 : Ins1 jdk_42_method_150_code 67 (.getfield 9) 3 70 := ⟨by decide +kernel, rfl⟩
theorem i33_70 : Ins1 jdk_42_method_150_code 70 (.iload 4) 2 72 := ⟨by decide +kernel, rfl⟩
theorem i33_72 : Ins1 jdk_42_method_150_code 72 (.invokestatic 47) 3 75 := ⟨by decide +kernel, rfl⟩
theorem i33_75 : Ins1 jdk_42_method_150_code 75 (.putfield 15) 3 78 := ⟨by decide +kernel, rfl⟩
theorem i33_78 : Ins1 jdk_42_method_150_code 78 (.return_) 1 79 := ⟨by decide +kernel, rfl⟩
theorem i33_79 : Ins1 jdk_42_method_150_code 79 (.aload_n 0) 1 80 := ⟨by decide +kernel, rfl⟩
theorem i33_80 : Ins1 jdk_42_method_150_code 80 (.iconst 1) 1 81 := ⟨by decide +kernel, rfl⟩
theorem i33_81 : Ins1 jdk_42_method_150_code 81 (.putfield 15) 3 84 := ⟨by decide +kernel, rfl⟩
theorem i33_84 : Ins1 jdk_42_method_150_code 84 (.aload_n 0) 1 85 := ⟨by decide +kernel, rfl⟩
theorem i33_85 : Ins1 jdk_42_method_150_code 85 (.aload_n 3) 1 86 := ⟨by decide +kernel, rfl⟩
theorem i33_86 : Ins1 jdk_42_method_150_code 86 (.iconst 0) 1 87 := ⟨by decide +kernel, rfl⟩
theorem i33_87 : Ins1 jdk_42_method_150_code 87 (.iload 4) 2 89 := ⟨by decide +kernel, rfl⟩
theorem i33_89 : Ins1 jdk_42_method_150_code 89 (.iconst 1) 1 90 := ⟨by decide +kernel, rfl⟩
theorem i33_90 : Ins1 jdk_42_method_150_code 90 (.ishl) 1 91 := ⟨by decide +kernel, rfl⟩
theorem i33_91 : Ins1 jdk_42_method_150_code 91 (.invokestatic 54) 3 94 := ⟨by decide +kernel, rfl⟩
theorem i33_94 : Ins1 jdk_42_method_150_code 94 (.putfield 9) 3 97 := ⟨by decide +kernel, rfl⟩
theorem i33_97 : Ins1 jdk_42_method_150_code 97 (.return_) 1 98 := ⟨by decide +kernel, rfl⟩
theorem ef_33 (m : MethodId) (a : Addr) (o : Addr) : entryFrame m #[(.ref a), (.ref o), .null] 5 = mkF m 0 #[.val (.ref a), .val (.ref o), .val .null, .unset, .unset] [] := by first | (simp [entryFrame, mkF, argsToLocals, Value.category]; done) | rfl
theorem pd_22 : parseMethodDescriptor "()[B" = some ⟨[], some (.array .byte)⟩ := by decide +kernel
set_option maxRecDepth 65536 in
set_option maxHeartbeats 40000000 in
theorem rm33 (l : Launch) (Z : State) (a0 : Array Value) (hw : ∀ d ∈ tables_1, d.before a0 Z = true) (ws : List Jvm.Cond) (a : Addr) (o : Addr) (cz : Int32) (ob : Addr) (kob : ClassId) (vd_o : List Value) (on : Int32) (zn : Nat) (h0 : Heap) (n0 : Nat) (Z0 : n0 ≤ h0.size) (S0 : Sta Z Z.heap "java/lang/String" "COMPACT_STRINGS" "Z" (.int cz)) (hcz : ¬ cz = (0 : Int32)) (O : Old Z n0 h0) (E_a : Exa Z h0 a "java/lang/String") (FV : Fld Z h0 a "java/lang/String" "value" "[B" .null) (FC : Fld Z h0 a "java/lang/String" "coder" "B" (.int 0)) (g_a : n0 ≤ a) (hoa : o ≠ a) (hoba : ob ≠ a) (E_o : Exa Z h0 o "java/lang/StringBuilder") (FV_o : Fld Z h0 o "java/lang/AbstractStringBuilder" "value" "[B" (.ref ob)) (FC_o : Fld Z h0 o "java/lang/AbstractStringBuilder" "coder" "B" (.int 0)) (FN_o : Fld Z h0 o "java/lang/AbstractStringBuilder" "count" "I" (.int on)) (V_o : Arv Z h0 ob kob .byte (16 : Int32) vd_o (.int (0 : Int32))) (hz0 : ¬ on < (0 : Int32)) (hlt : on < (16 : Int32)) (hzn : on.toNatClampNeg = zn) (hle2 : zn ≤ 16) :
    Met1 l (⟨"java/lang/String", "<init>", "(Ljava/lang/AbstractStringBuilder;Ljava/lang/Void;)V"⟩ : MethodName) jdk_42_method_150_code 5 none ws ({ frames := 3, cells := 1, slots := 16, locals := 49 } : Room) #[(.ref a), (.ref o), .null] Z h0 (RN fun h L => Keep h0 h [a] ∧ ∃ tb kt, Exa Z h a "java/lang/String" ∧ Fld Z h a "java/lang/String" "value" "[B" (.ref tb) ∧ Fld Z h a "java/lang/String" "coder" "B" (.int 0) ∧ Arv Z h tb kt .byte on (own_us zn vd_o) (.int (0 : Int32)) ∧ n0 ≤ tb ∧ h0.size ≤ tb ∧ a ≠ tb ∧ Fr n0 L) := by
  refine met_of (plainFor_of_name pn_java_lang_String) ?_
  intro p e s m below meth c T0 X0 hx hby hml hZ hown hnm hret hlk e0 es
  have N0 := Fr.nil n0
  refine Gd.cast (ef_33 m a o) ?_
  have K0 : Keep h0 h0 [a] := Keep.refl _ _
  refine g_aloadN X0 hx hby i33_0 rfl rfl ?_
  refine g_objInit X0 hx hby hZ hown (hw _ (List.mem_of_getElem? (i := 48) rfl)) (hw _ (List.mem_of_getElem? (i := 7) rfl)) (hw _ (List.mem_of_getElem? (i := 8) rfl)) e0 (by rw [hml]; rfl) i33_1 0 rfl (by decide) (by decide) fun T1 X1 e1 => ?_
  refine g_aloadN X1 hx hby i33_4 rfl rfl ?_
  refine g_callV0 X1 hx hby hZ (y0 := (⟨"java/lang/AbstractStringBuilder", "getValue", "()[B"⟩ : MethodName)) (y := (⟨"java/lang/AbstractStringBuilder", "getValue", "()[B"⟩ : MethodName)) (argsL := []) (rest := []) hown (hw _ (List.mem_of_getElem? (i := 187) rfl)) (hw _ (List.mem_of_getElem? (i := 188) rfl)) (notFace_of_selects (args := #[]) (mvT hZ (hw _ (List.mem_of_getElem? (i := 190) rfl)))) (hw _ (List.mem_of_getElem? (i := 190) rfl)) (hw _ (List.mem_of_getElem? (i := 189) rfl)) (hw _ (List.mem_of_getElem? (i := 19) rfl)) (hw _ (List.mem_of_getElem? (i := 191) rfl)) (by decide) (a := o) E_o (rm34 l Z a0 hw [] o ob kob _ on h0 n0 Z0 E_o FV_o FC_o FN_o V_o) e1 (by rw [hml]; rfl) pd_22 rfl rfl i33_5 (by decide) 0 rfl (by decide) (by decide) (by decide) fun T2 v2 L2 X2 q2 => ?_
  obtain ⟨_, rfl, rfl, e2, N2⟩ := q2
  have N0 := Fr.app N0 N2
  show Gd p e below _ T2 (mkF m 8 #[.val (.ref a), .val (.ref o), .val .null, .unset, .unset] [(.ref ob)])
  refine g_astoreN X2 hx hby i33_8 rfl (l' := #[.val (.ref a), .val (.ref o), .val .null, .val (.ref ob), .unset]) rfl ?_
  refine g_aloadN X2 hx hby i33_9 rfl rfl ?_
  refine g_callV0 X2 hx hby hZ (y0 := (⟨"java/lang/AbstractStringBuilder", "length", "()I"⟩ : MethodName)) (y := (⟨"java/lang/StringBuilder", "length", "()I"⟩ : MethodName)) (argsL := []) (rest := []) hown (hw _ (List.mem_of_getElem? (i := 192) rfl)) (hw _ (List.mem_of_getElem? (i := 144) rfl)) (nf_super (args := #[]) (mvT hZ (hw _ (List.mem_of_getElem? (i := 135) rfl)))) (hw _ (List.mem_of_getElem? (i := 146) rfl)) (hw _ (List.mem_of_getElem? (i := 147) rfl)) (hw _ (List.mem_of_getElem? (i := 11) rfl)) (hw _ (List.mem_of_getElem? (i := 148) rfl)) (by decide) (a := o) E_o (rm25 l Z a0 hw [] o ob kob _ on h0 n0 Z0 E_o FV_o FC_o FN_o V_o) e2 (by rw [hml]; rfl) pd_6 rfl rfl i33_10 (by decide) 0 rfl (by decide) (by decide) (by decide) fun T3 v3 L3 X3 q3 => ?_
  obtain ⟨_, rfl, rfl, e3, N3⟩ := q3
  have N0 := Fr.app N0 N3
  show Gd p e below _ T3 (mkF m 13 #[.val (.ref a), .val (.ref o), .val .null, .val (.ref ob), .unset] [(.int on)])
  refine g_istore X3 hx hby i33_13 (l' := #[.val (.ref a), .val (.ref o), .val .null, .val (.ref ob), .val (.int on)]) rfl ?_
  refine g_aloadN X3 hx hby i33_15 rfl rfl ?_
  refine g_callV0 X3 hx hby hZ (y0 := (⟨"java/lang/AbstractStringBuilder", "isLatin1", "()Z"⟩ : MethodName)) (y := (⟨"java/lang/AbstractStringBuilder", "isLatin1", "()Z"⟩ : MethodName)) (argsL := []) (rest := []) hown (hw _ (List.mem_of_getElem? (i := 193) rfl)) (hw _ (List.mem_of_getElem? (i := 115) rfl)) (notFace_of_selects (args := #[]) (mvT hZ (hw _ (List.mem_of_getElem? (i := 117) rfl)))) (hw _ (List.mem_of_getElem? (i := 117) rfl)) (hw _ (List.mem_of_getElem? (i := 116) rfl)) (hw _ (List.mem_of_getElem? (i := 19) rfl)) (hw _ (List.mem_of_getElem? (i := 118) rfl)) (by decide) (a := o) E_o (rm20 l Z a0 hw [] o cz ob kob _ on h0 n0 Z0 S0 hcz O E_o FV_o FC_o FN_o V_o) e3 (by rw [hml]; rfl) pd_10 rfl rfl i33_16 (by decide) 0 rfl (by decide) (by decide) (by decide) fun T4 v4 L4 X4 q4 => ?_
  obtain ⟨_, rfl, rfl, e4, N4⟩ := q4
  have N0 := Fr.app N0 N4
  show Gd p e below _ T4 (mkF m 19 #[.val (.ref a), .val (.ref o), .val .null, .val (.ref ob), .val (.int on)] [(.int (1 : Int32))])
  refine g_if_eq X4 hx hby i33_19 (fun c19_5 => False.elim (absurd c19_5 (by decide))) fun c19_5 => ?_
  refine g_aloadN X4 hx hby i33_22 rfl rfl ?_
  refine g_iconst X4 hx hby i33_23 (z := (0 : Int32)) (by decide) ?_
  refine g_putfieldN X4 hx hby hZ hown (hw _ (List.mem_of_getElem? (i := 51) rfl)) Via.refl e4 FC E_a (Or.inr ⟨(hw _ (List.mem_of_getElem? (i := 52) rfl)), rfl, hnm⟩) (hw _ (List.mem_of_getElem? (i := 40) rfl)) (ty := .byte) (v' := (.int (nar .byte (0 : Int32)))) (by decide) rfl (fits_nar_byte _) i33_24 fun T6 h6 X6 e6 W6 => ?_
  have FC := FC.same W6
  have E_a := E_a.wr W6
  have FV := FV.other W6 (Or.inr (slot_ne (Or.inr (hw _ (List.mem_of_getElem? (i := 50) rfl))) (Or.inr (hw _ (List.mem_of_getElem? (i := 52) rfl))) (by decide) (t := (.array .byte)) (t' := .byte) (by decide) (by decide)))
  have E_o := E_o.wr W6
  have FV_o := FV_o.other W6 (Or.inl hoa)
  have FC_o := FC_o.other W6 (Or.inl hoa)
  have FN_o := FN_o.other W6 (Or.inl hoa)
  have V_o := V_o.other W6 hoba
  have O := O.wr W6 g_a
  have Z0 : n0 ≤ h6.size := Nat.le_trans Z0 (Nat.le_of_eq W6.size.symm)
  have N0 := Fr.snoc X6 N0 g_a
  have K0 := K0.wr W6 (Or.inl (List.mem_singleton.mpr rfl))
  refine g_aloadN X6 hx hby i33_27 rfl rfl ?_
  refine g_aloadN X6 hx hby i33_28 rfl rfl ?_
  refine g_iconst X6 hx hby i33_29 (z := (0 : Int32)) (by decide) ?_
  refine g_iload X6 hx hby i33_30 rfl ?_
  refine g_callS0 X6 hx hby hZ (y := (⟨"java/util/Arrays", "copyOfRange", "([BII)[B"⟩ : MethodName)) (argsL := [(.ref ob), (.int (0 : Int32)), (.int on)]) (rest := [(.ref a)]) hown (hw _ (List.mem_of_getElem? (i := 194) rfl)) (hw _ (List.mem_of_getElem? (i := 195) rfl)) (hw _ (List.mem_of_getElem? (i := 196) rfl)) (hw _ (List.mem_of_getElem? (i := 197) rfl)) (by decide) (rm35 l Z a0 hw [] ob (0 : Int32) on kob _ zn h6 n0 Z0 V_o rfl hz0 hlt hzn hle2) e6 (by rw [hml]; rfl) pd_21 rfl rfl i33_32 (by decide) 1 rfl (by decide) (by decide) (by decide) fun T7 v7 L7 X7 q7 => ?_
  obtain ⟨_, rfl, t7, kt7, rfl, K7, V7, g_t7, s7, N7⟩ := q7
  have N0 := Fr.app N0 N7
  have ne_a_t7 : a ≠ t7 := Nat.ne_of_lt (Nat.lt_of_lt_of_le E_a.lt s7)
  have ne_o_t7 : o ≠ t7 := Nat.ne_of_lt (Nat.lt_of_lt_of_le E_o.lt s7)
  have ne_ob_t7 : ob ≠ t7 := Nat.ne_of_lt (Nat.lt_of_lt_of_le V_o.lt s7)
  have sz_t7 : h0.size ≤ t7 := Nat.le_trans K0.1 s7
  have K0 := K0.trans K7 (fun x hx => nomatch hx)
  have E_a := E_a.keep K7
  have FV := FV.keep K7 nin0
  have FC := FC.keep K7 nin0
  have E_o := E_o.keep K7
  have FV_o := FV_o.keep K7 nin0
  have FC_o := FC_o.keep K7 nin0
  have FN_o := FN_o.keep K7 nin0
  have V_o := V_o.keep K7 nin0
  have O := O.keep K7 all0
  have Z0 : n0 ≤ T7.heap.size := Nat.le_trans Z0 K7.1
  show Gd p e below _ T7 (mkF m 35 #[.val (.ref a), .val (.ref o), .val .null, .val (.ref ob), .val (.int on)] [(.ref t7), (.ref a)])
  refine g_putfield X7 hx hby hZ hown (host := "") (Or.inl (hw _ (List.mem_of_getElem? (i := 49) rfl))) Via.refl rfl FV E_a (Or.inr ⟨(hw _ (List.mem_of_getElem? (i := 50) rfl)), rfl, hnm⟩) (hw _ (List.mem_of_getElem? (i := 40) rfl)) (ty := (.array .byte)) (by decide) rfl rfl i33_35 fun T8 h8 X8 e8 W8 => ?_
  have FV := FV.same W8
  have E_a := E_a.wr W8
  have FC := FC.other W8 (Or.inr (slot_ne (Or.inr (hw _ (List.mem_of_getElem? (i := 52) rfl))) (Or.inr (hw _ (List.mem_of_getElem? (i := 50) rfl))) (by decide) (t := .byte) (t' := (.array .byte)) (by decide) (by decide)))
  have E_o := E_o.wr W8
  have FV_o := FV_o.other W8 (Or.inl hoa)
  have FC_o := FC_o.other W8 (Or.inl hoa)
  have FN_o := FN_o.other W8 (Or.inl hoa)
  have V_o := V_o.other W8 hoba
  have V7 := V7.other W8 (Ne.symm ne_a_t7)
  have O := O.wr W8 g_a
  have Z0 : n0 ≤ h8.size := Nat.le_trans Z0 (Nat.le_of_eq W8.size.symm)
  have N0 := Fr.snoc X8 N0 g_a
  have K0 := K0.wr W8 (Or.inl (List.mem_singleton.mpr rfl))
  refine g_goto X8 hx hby i33_38 ?_
  refine g_return X8 hx hby hret hlk i33_97 (by decide) (by decide) ?_
  rw [e8]
  exact ⟨rfl, K0, t7, _, E_a, FV, FC, V7, g_t7, sz_t7, ne_a_t7, N0⟩
theorem i32_0 : Ins1 jdk_42_method_53_code 0 (.aload_n 0) 1 1 := ⟨by decide +kernel, rfl⟩
theorem i32_1 : Ins1 jdk_42_method_53_code 1 (.aload_n 1) 1 2 := ⟨by decide +kernel, rfl⟩
theorem i32_2 : Ins1 jdk_42_method_53_code 2 (.aconst_null) 1 3 := ⟨by decide +kernel, rfl⟩
theorem i32_3 : Ins1 jdk_42_method_53_code 3 (.invokespecial 489) 3 6 := ⟨by decide +kernel, rfl⟩
theorem i32_6 : Ins1 jdk_42_method_53_code 6 (.return_) 1 7 := ⟨by decide +kernel, rfl⟩
theorem ef_32 (m : MethodId) (a : Addr) (o : Addr) : entryFrame m #[(.ref a), (.ref o)] 2 = mkF m 0 #[.val (.ref a), .val (.ref o)] [] := by first | (simp [entryFrame, mkF, argsToLocals, Value.category]; done) | rfl
theorem pd_23 : parseMethodDescriptor "(Ljava/lang/AbstractStringBuilder;Ljava/lang/Void;)V" = some ⟨[(.object "java/lang/AbstractStringBuilder"), (.object "java/lang/Void")], none⟩ := by decide +kernel
set_option maxRecDepth 65536 in
set_option maxHeartbeats 40000000 in
theorem rm32 (l : Launch) (Z : State) (a0 : Array Value) (hw : ∀ d ∈ tables_1, d.before a0 Z = true) (ws : List Jvm.Cond) (a : Addr) (o : Addr) (cz : Int32) (ob : Addr) (kob : ClassId) (vd_o : List Value) (on : Int32) (zn : Nat) (h0 : Heap) (n0 : Nat) (Z0 : n0 ≤ h0.size) (S0 : Sta Z Z.heap "java/lang/String" "COMPACT_STRINGS" "Z" (.int cz)) (hcz : ¬ cz = (0 : Int32)) (O : Old Z n0 h0) (E_a : Exa Z h0 a "java/lang/String") (FV : Fld Z h0 a "java/lang/String" "value" "[B" .null) (FC : Fld Z h0 a "java/lang/String" "coder" "B" (.int 0)) (g_a : n0 ≤ a) (hoa : o ≠ a) (hoba : ob ≠ a) (E_o : Exa Z h0 o "java/lang/StringBuilder") (FV_o : Fld Z h0 o "java/lang/AbstractStringBuilder" "value" "[B" (.ref ob)) (FC_o : Fld Z h0 o "java/lang/AbstractStringBuilder" "coder" "B" (.int 0)) (FN_o : Fld Z h0 o "java/lang/AbstractStringBuilder" "count" "I" (.int on)) (V_o : Arv Z h0 ob kob .byte (16 : Int32) vd_o (.int (0 : Int32))) (hz0 : ¬ on < (0 : Int32)) (hlt : on < (16 : Int32)) (hzn : on.toNatClampNeg = zn) (hle2 : zn ≤ 16) :
    Met1 l (⟨"java/lang/String", "<init>", "(Ljava/lang/StringBuilder;)V"⟩ : MethodName) jdk_42_method_53_code 2 none ws ({ frames := 4, cells := 1, slots := 16, locals := 65 } : Room) #[(.ref a), (.ref o)] Z h0 (RN fun h L => Keep h0 h [a] ∧ ∃ tb kt, Exa Z h a "java/lang/String" ∧ Fld Z h a "java/lang/String" "value" "[B" (.ref tb) ∧ Fld Z h a "java/lang/String" "coder" "B" (.int 0) ∧ Arv Z h tb kt .byte on (own_us zn vd_o) (.int (0 : Int32)) ∧ n0 ≤ tb ∧ h0.size ≤ tb ∧ a ≠ tb ∧ Fr n0 L) := by
  refine met_of (plainFor_of_name pn_java_lang_String) ?_
  intro p e s m below meth c T0 X0 hx hby hml hZ hown hnm hret hlk e0 es
  have N0 := Fr.nil n0
  refine Gd.cast (ef_32 m a o) ?_
  have K0 : Keep h0 h0 [a] := Keep.refl _ _
  refine g_aloadN X0 hx hby i32_0 rfl rfl ?_
  refine g_aloadN X0 hx hby i32_1 rfl rfl ?_
  refine g_aconst_null X0 hx hby i32_2 ?_
  refine g_callInit0 X0 hx hby hZ (y := (⟨"java/lang/String", "<init>", "(Ljava/lang/AbstractStringBuilder;Ljava/lang/Void;)V"⟩ : MethodName)) (argsL := [(.ref o), .null]) (rest := []) rfl hown (hw _ (List.mem_of_getElem? (i := 184) rfl)) (hw _ (List.mem_of_getElem? (i := 185) rfl)) (hw _ (List.mem_of_getElem? (i := 23) rfl)) (hw _ (List.mem_of_getElem? (i := 186) rfl)) (by decide) (a := a) (rm33 l Z a0 hw [] a o cz ob kob _ on zn h0 n0 Z0 S0 hcz O E_a FV FC g_a hoa hoba E_o FV_o FC_o FN_o V_o hz0 hlt hzn hle2) e0 (by rw [hml]; rfl) pd_23 rfl rfl i32_3 (by decide) 0 rfl (by decide) (by decide) (by decide) fun T1 v1 L1 X1 q1 => ?_
  obtain ⟨rfl, K1, tb1, kt1, E1, FV1, FC1, V1, g_tb1, stb1, nab1, N1⟩ := q1
  have N0 := Fr.app N0 N1
  have ne_a_tb1 : a ≠ tb1 := Nat.ne_of_lt (Nat.lt_of_lt_of_le E_a.lt stb1)
  have ne_o_tb1 : o ≠ tb1 := Nat.ne_of_lt (Nat.lt_of_lt_of_le E_o.lt stb1)
  have ne_ob_tb1 : ob ≠ tb1 := Nat.ne_of_lt (Nat.lt_of_lt_of_le V_o.lt stb1)
  have sz_tb1 : h0.size ≤ tb1 := Nat.le_trans K0.1 stb1
  have K0 := K0.trans K1 (fun x hx => Or.inl hx)
  have E_a := E_a.keep K1
  have E_o := E_o.keep K1
  have FV_o := FV_o.keep K1 (ninS hoa nin0)
  have FC_o := FC_o.keep K1 (ninS hoa nin0)
  have FN_o := FN_o.keep K1 (ninS hoa nin0)
  have V_o := V_o.keep K1 (ninS hoba nin0)
  have O := O.keep K1 (allS g_a all0)
  have Z0 : n0 ≤ T1.heap.size := Nat.le_trans Z0 K1.1
  show Gd p e below _ T1 (mkF m 6 #[.val (.ref a), .val (.ref o)] [])
  refine g_return X1 hx hby hret hlk i32_6 (by decide) (by decide) ?_
  exact ⟨rfl, K0, tb1, _, E_a, FV1, FC1, V1, g_tb1, sz_tb1, ne_a_tb1, N0⟩
theorem i31_0 : Ins1 jdk_67_method_42_code 0 (.new 18) 3 3 := ⟨by decide +kernel, rfl⟩
theorem i31_3 : Ins1 jdk_67_method_42_code 3 (.dup) 1 4 := ⟨by decide +kernel, rfl⟩
theorem i31_4 : Ins1 jdk_67_method_42_code 4 (.aload_n 0) 1 5 := ⟨by decide +kernel, rfl⟩
theorem i31_5 : Ins1 jdk_67_method_42_code 5 (.invokespecial 137) 3 8 := ⟨by decide +kernel, rfl⟩
theorem i31_8 : Ins1 jdk_67_method_42_code 8 (.areturn) 1 9 := ⟨by decide +kernel, rfl⟩
theorem ef_31 (m : MethodId) (o : Addr) : entryFrame m #[(.ref o)] 1 = mkF m 0 #[.val (.ref o)] [] := by first | (simp [entryFrame, mkF, argsToLocals, Value.category]; done) | rfl
theorem pd_24 : parseMethodDescriptor "(Ljava/lang/StringBuilder;)V" = some ⟨[(.object "java/lang/StringBuilder")], none⟩ := by decide +kernel
set_option maxRecDepth 65536 in
set_option maxHeartbeats 40000000 in
theorem rm31 (l : Launch) (Z : State) (a0 : Array Value) (hw : ∀ d ∈ tables_1, d.before a0 Z = true) (ws : List Jvm.Cond) (o : Addr) (cz : Int32) (ob : Addr) (kob : ClassId) (vd_o : List Value) (on : Int32) (zn : Nat) (h0 : Heap) (n0 : Nat) (Z0 : n0 ≤ h0.size) (S0 : Sta Z Z.heap "java/lang/String" "COMPACT_STRINGS" "Z" (.int cz)) (hcz : ¬ cz = (0 : Int32)) (O : Old Z n0 h0) (E_o : Exa Z h0 o "java/lang/StringBuilder") (FV_o : Fld Z h0 o "java/lang/AbstractStringBuilder" "value" "[B" (.ref ob)) (FC_o : Fld Z h0 o "java/lang/AbstractStringBuilder" "coder" "B" (.int 0)) (FN_o : Fld Z h0 o "java/lang/AbstractStringBuilder" "count" "I" (.int on)) (V_o : Arv Z h0 ob kob .byte (16 : Int32) vd_o (.int (0 : Int32))) (hz0 : ¬ on < (0 : Int32)) (hlt : on < (16 : Int32)) (hzn : on.toNatClampNeg = zn) (hle2 : zn ≤ 16) :
    Met1 l (⟨"java/lang/StringBuilder", "toString", "()Ljava/lang/String;"⟩ : MethodName) jdk_67_method_42_code 1 (some (.object "java/lang/String")) ws ({ frames := 5, cells := 2, slots := 20, locals := 79 } : Room) #[(.ref o)] Z h0 (RV fun vv h L => Keep h0 h [] ∧ ∃ t tb kt, vv = .ref t ∧ n0 ≤ t ∧ h0.size ≤ t ∧ Exa Z h t "java/lang/String" ∧ Fld Z h t "java/lang/String" "value" "[B" (.ref tb) ∧ Fld Z h t "java/lang/String" "coder" "B" (.int 0) ∧ Arv Z h tb kt .byte on (own_us zn vd_o) (.int (0 : Int32)) ∧ n0 ≤ tb ∧ h0.size ≤ tb ∧ t ≠ tb ∧ Fr n0 L) := by
  refine met_of (plainFor_of_name pn_java_lang_StringBuilder) ?_
  intro p e s m below meth c T0 X0 hx hby hml hZ hown hnm hret hlk e0 es
  have N0 := Fr.nil n0
  refine Gd.cast (ef_31 m o) ?_
  have K0 : Keep h0 h0 [] := Keep.refl _ _
  refine g_new X0 hx hby hZ hown (hw _ (List.mem_of_getElem? (i := 180) rfl)) (hw _ (List.mem_of_getElem? (i := 40) rfl)) (hw _ (List.mem_of_getElem? (i := 23) rfl)) e0 i31_0 (by decide) (by decide) fun T1 h1 b1 X1 e1 E1 hb1 A1 D1 => ?_
  have ne_o_b1 : o ≠ b1 := Nat.ne_of_lt (Nat.lt_of_lt_of_le E_o.lt (Nat.le_of_eq hb1.symm))
  have ne_ob_b1 : ob ≠ b1 := Nat.ne_of_lt (Nat.lt_of_lt_of_le V_o.lt (Nat.le_of_eq hb1.symm))
  have g_b1 : n0 ≤ b1 := Nat.le_trans Z0 (Nat.le_of_eq hb1.symm)
  have E_o := E_o.ext E1
  have FV_o := FV_o.ext E1
  have FC_o := FC_o.ext E1
  have FN_o := FN_o.ext E1
  have V_o := V_o.ext E1
  have O := O.ext E1
  have sz_b1 : h0.size ≤ b1 := Nat.le_trans K0.1 (Nat.le_of_eq hb1.symm)
  have K0 := K0.ext E1
  have Z0 : n0 ≤ h1.size := Nat.le_trans Z0 E1.1
  have F1_value : Fld Z h1 b1 "java/lang/String" "value" "[B" .null := D1 (Or.inr (hw _ (List.mem_of_getElem? (i := 50) rfl))) (ty := (.array .byte)) (by decide)
  have F1_coder : Fld Z h1 b1 "java/lang/String" "coder" "B" (.int (0 : Int32)) := D1 (Or.inr (hw _ (List.mem_of_getElem? (i := 52) rfl))) (ty := .byte) (by decide)
  refine g_dup X1 hx hby i31_3 rfl ?_
  refine g_aloadN X1 hx hby i31_4 rfl rfl ?_
  refine g_callInit0 X1 hx hby hZ (y := (⟨"java/lang/String", "<init>", "(Ljava/lang/StringBuilder;)V"⟩ : MethodName)) (argsL := [(.ref o)]) (rest := [(.ref b1)]) rfl hown (hw _ (List.mem_of_getElem? (i := 181) rfl)) (hw _ (List.mem_of_getElem? (i := 182) rfl)) (hw _ (List.mem_of_getElem? (i := 23) rfl)) (hw _ (List.mem_of_getElem? (i := 183) rfl)) (by decide) (a := b1) (rm32 l Z a0 hw [] b1 o cz ob kob _ on zn h1 n0 Z0 S0 hcz O A1 F1_value F1_coder g_b1 ne_o_b1 ne_ob_b1 E_o FV_o FC_o FN_o V_o hz0 hlt hzn hle2) e1 (by rw [hml]; rfl) pd_24 rfl rfl i31_5 (by decide) 1 rfl (by decide) (by decide) (by decide) fun T2 v2 L2 X2 q2 => ?_
  obtain ⟨rfl, K2, tb2, kt2, E2, FV2, FC2, V2, g_tb2, stb2, nab2, N2⟩ := q2
  have N0 := Fr.app N0 N2
  have ne_o_tb2 : o ≠ tb2 := Nat.ne_of_lt (Nat.lt_of_lt_of_le E_o.lt stb2)
  have ne_ob_tb2 : ob ≠ tb2 := Nat.ne_of_lt (Nat.lt_of_lt_of_le V_o.lt stb2)
  have ne_b1_tb2 : b1 ≠ tb2 := Nat.ne_of_lt (Nat.lt_of_lt_of_le A1.lt stb2)
  have sz_tb2 : h0.size ≤ tb2 := Nat.le_trans K0.1 stb2
  have K0 := K0.trans K2 (fun x hx => Or.inr (by cases hx with | head => exact sz_b1 | tail _ q => cases q))
  have E_o := E_o.keep K2
  have FV_o := FV_o.keep K2 (ninS ne_o_b1 nin0)
  have FC_o := FC_o.keep K2 (ninS ne_o_b1 nin0)
  have FN_o := FN_o.keep K2 (ninS ne_o_b1 nin0)
  have V_o := V_o.keep K2 (ninS ne_ob_b1 nin0)
  have A1 := A1.keep K2
  have O := O.keep K2 (allS g_b1 all0)
  have Z0 : n0 ≤ T2.heap.size := Nat.le_trans Z0 K2.1
  show Gd p e below _ T2 (mkF m 8 #[.val (.ref o)] [(.ref b1)])
  refine g_areturn X2 hx hby hret rfl (fun _ => rfl) hlk rfl i31_8 (by decide) (by decide) ?_
  exact ⟨_, rfl, K0, b1, tb2, _, rfl, g_b1, sz_b1, A1, FV2, FC2, V2, g_tb2, sz_tb2, ne_b1_tb2, N0⟩
theorem i30_0 : Ins1 prog_5_method_8_code 0 (.aload_n 0) 1 1 := ⟨by decide +kernel, rfl⟩
theorem i30_1 : Ins1 prog_5_method_8_code 1 (.getfield 10) 3 4 := ⟨by decide +kernel, rfl⟩
theorem i30_4 : Ins1 prog_5_method_8_code 4 (.invokevirtual 63) 3 7 := ⟨by decide +kernel, rfl⟩
theorem i30_7 : Ins1 prog_5_method_8_code 7 (.areturn) 1 8 := ⟨by decide +kernel, rfl⟩
theorem ef_30 (m : MethodId) (r : Addr) : entryFrame m #[(.ref r)] 1 = mkF m 0 #[.val (.ref r)] [] := by first | (simp [entryFrame, mkF, argsToLocals, Value.category]; done) | rfl
theorem pd_25 : parseMethodDescriptor "()Ljava/lang/String;" = some ⟨[], some (.object "java/lang/String")⟩ := by decide +kernel
set_option maxRecDepth 65536 in
set_option maxHeartbeats 40000000 in
theorem rm30 (l : Launch) (Z : State) (a0 : Array Value) (hw : ∀ d ∈ tables_1, d.before a0 Z = true) (ws : List Jvm.Cond) (r : Addr) (cz : Int32) (o : Addr) (ob : Addr) (kob : ClassId) (vd_o : List Value) (on : Int32) (zn : Nat) (h0 : Heap) (n0 : Nat) (Z0 : n0 ≤ h0.size) (S0 : Sta Z Z.heap "java/lang/String" "COMPACT_STRINGS" "Z" (.int cz)) (hcz : ¬ cz = (0 : Int32)) (O : Old Z n0 h0) (FL : Fld Z h0 r "com/example/cloudgavel/cloudgavel/cli/Report" "lines" "Ljava/lang/StringBuilder;" (.ref o)) (E_o : Exa Z h0 o "java/lang/StringBuilder") (FV_o : Fld Z h0 o "java/lang/AbstractStringBuilder" "value" "[B" (.ref ob)) (FC_o : Fld Z h0 o "java/lang/AbstractStringBuilder" "coder" "B" (.int 0)) (FN_o : Fld Z h0 o "java/lang/AbstractStringBuilder" "count" "I" (.int on)) (V_o : Arv Z h0 ob kob .byte (16 : Int32) vd_o (.int (0 : Int32))) (hz0 : ¬ on < (0 : Int32)) (hlt : on < (16 : Int32)) (hzn : on.toNatClampNeg = zn) (hle2 : zn ≤ 16) :
    Met1 l (⟨"com/example/cloudgavel/cloudgavel/cli/Report", "toString", "()Ljava/lang/String;"⟩ : MethodName) prog_5_method_8_code 1 (some (.object "java/lang/String")) ws ({ frames := 6, cells := 2, slots := 20, locals := 91 } : Room) #[(.ref r)] Z h0 (RV fun vv h L => Keep h0 h [] ∧ ∃ t tb kt, vv = .ref t ∧ n0 ≤ t ∧ h0.size ≤ t ∧ Exa Z h t "java/lang/String" ∧ Fld Z h t "java/lang/String" "value" "[B" (.ref tb) ∧ Fld Z h t "java/lang/String" "coder" "B" (.int 0) ∧ Arv Z h tb kt .byte on (own_us zn vd_o) (.int (0 : Int32)) ∧ n0 ≤ tb ∧ h0.size ≤ tb ∧ t ≠ tb ∧ Fr n0 L) := by
  refine met_of (plainFor_of_name pn_com_example_cloudgavel_cloudgavel_cli_Report) ?_
  intro p e s m below meth c T0 X0 hx hby hml hZ hown hnm hret hlk e0 es
  have N0 := Fr.nil n0
  refine Gd.cast (ef_30 m r) ?_
  have K0 : Keep h0 h0 [] := Keep.refl _ _
  refine g_aloadN X0 hx hby i30_0 rfl rfl ?_
  refine g_getfield X0 hx hby hZ hown (host := "") (Or.inl (hw _ (List.mem_of_getElem? (i := 29) rfl))) Via.refl e0 FL i30_1 fun T1 X1 e1 => ?_
  refine g_callV0 X1 hx hby hZ (y0 := (⟨"java/lang/StringBuilder", "toString", "()Ljava/lang/String;"⟩ : MethodName)) (y := (⟨"java/lang/StringBuilder", "toString", "()Ljava/lang/String;"⟩ : MethodName)) (argsL := []) (rest := []) hown (hw _ (List.mem_of_getElem? (i := 175) rfl)) (hw _ (List.mem_of_getElem? (i := 176) rfl)) (notFace_of_selects (args := #[]) (mvT hZ (hw _ (List.mem_of_getElem? (i := 178) rfl)))) (hw _ (List.mem_of_getElem? (i := 178) rfl)) (hw _ (List.mem_of_getElem? (i := 177) rfl)) (hw _ (List.mem_of_getElem? (i := 11) rfl)) (hw _ (List.mem_of_getElem? (i := 179) rfl)) (by decide) (a := o) E_o (rm31 l Z a0 hw [] o cz ob kob _ on zn h0 n0 Z0 S0 hcz O E_o FV_o FC_o FN_o V_o hz0 hlt hzn hle2) e1 (by rw [hml]; rfl) pd_25 rfl rfl i30_4 (by decide) 0 rfl (by decide) (by decide) (by decide) fun T2 v2 L2 X2 q2 => ?_
  obtain ⟨_, rfl, K2, t2, tb2, kt2, rfl, g_t2, st2, E2, FV2, FC2, V2, g_tb2, stb2, ne_t2_tb2, N2⟩ := q2
  have N0 := Fr.app N0 N2
  have ne_r_t2 : r ≠ t2 := Nat.ne_of_lt (Nat.lt_of_lt_of_le FL.lt st2)
  have ne_o_t2 : o ≠ t2 := Nat.ne_of_lt (Nat.lt_of_lt_of_le E_o.lt st2)
  have ne_ob_t2 : ob ≠ t2 := Nat.ne_of_lt (Nat.lt_of_lt_of_le V_o.lt st2)
  have ne_r_tb2 : r ≠ tb2 := Nat.ne_of_lt (Nat.lt_of_lt_of_le FL.lt stb2)
  have ne_o_tb2 : o ≠ tb2 := Nat.ne_of_lt (Nat.lt_of_lt_of_le E_o.lt stb2)
  have ne_ob_tb2 : ob ≠ tb2 := Nat.ne_of_lt (Nat.lt_of_lt_of_le V_o.lt stb2)
  have sz_t2 : h0.size ≤ t2 := Nat.le_trans K0.1 st2
  have sz_tb2 : h0.size ≤ tb2 := Nat.le_trans K0.1 stb2
  have K0 := K0.trans K2 (fun x hx => nomatch hx)
  have FL := FL.keep K2 nin0
  have E_o := E_o.keep K2
  have FV_o := FV_o.keep K2 nin0
  have FC_o := FC_o.keep K2 nin0
  have FN_o := FN_o.keep K2 nin0
  have V_o := V_o.keep K2 nin0
  have O := O.keep K2 all0
  have Z0 : n0 ≤ T2.heap.size := Nat.le_trans Z0 K2.1
  show Gd p e below _ T2 (mkF m 7 #[.val (.ref r)] [(.ref t2)])
  refine g_areturn X2 hx hby hret rfl (fun _ => rfl) hlk rfl i30_7 (by decide) (by decide) ?_
  exact ⟨_, rfl, K0, t2, tb2, _, rfl, g_t2, sz_t2, E2, FV2, FC2, V2, g_tb2, sz_tb2, ne_t2_tb2, N0⟩
theorem i44_0 : Ins1 jdk_41_method_11_code 0 (.iload_n 0) 1 1 := ⟨by decide +kernel, rfl⟩
theorem i44_1 : InsB jdk_41_method_11_code 1 (.ifCond .lt 8) 8 4 9 := ⟨by decide +kernel, rfl, by decide, by decide⟩
theorem i44_4 : Ins1 jdk_41_method_11_code 4 (.iload_n 0) 1 5 := ⟨by decide +kernel, rfl⟩
theorem i44_5 : Ins1 jdk_41_method_11_code 5 (.iload_n 1) 1 6 := ⟨by decide +kernel, rfl⟩
theorem i44_6 : InsB jdk_41_method_11_code 6 (.if_icmp .lt 10) 10 9 16 := ⟨by decide +kernel, rfl, by decide, by decide⟩
theorem i44_9 : Ins1 jdk_41_method_11_code 9 (.aload_n 2) 1 10 := ⟨by decide +kernel, rfl⟩
theorem i44_10 : Ins1 jdk_41_method_11_code 10 (.iload_n 0) 1 11 := ⟨by decide +kernel, rfl⟩
theorem i44_11 : Ins1 jdk_41_method_11_code 11 (.iload_n 1) 1 12 := ⟨by decide +kernel, rfl⟩
theorem i44_12 : Ins1 jdk_41_method_11_code 12 (.invokestatic 95) 3 15 := ⟨by decide +kernel, rfl⟩
theorem i44_15 : Ins1 jdk_41_method_11_code 15 (.athrow) 1 16 := ⟨by decide +kernel, rfl⟩
theorem i44_16 : Ins1 jdk_41_method_11_code 16 (.iload_n 0) 1 17 := ⟨by decide +kernel, rfl⟩
theorem i44_17 : Ins1 jdk_41_method_11_code 17 (.ireturn) 1 18 := ⟨by decide +kernel, rfl⟩
theorem pn_jdk_internal_util_Preconditions : plainName "jdk/internal/util/Preconditions" = true := by first | (simp [plainName, overriddenIn]; done) | decide +kernel
theorem ef_44 (m : MethodId) (p0 : Int32) (p1 : Int32) (sv : Value) (hsv : sv.isRef = true) : entryFrame m #[(.int p0), (.int p1), sv] 3 = mkF m 0 #[.val (.int p0), .val (.int p1), .val sv] [] := by rcases ref_cases hsv with rfl | ⟨_, rfl⟩ <;> first | (simp [entryFrame, mkF, argsToLocals, Value.category]; done) | rfl
set_option maxRecDepth 65536 in
set_option maxHeartbeats 40000000 in
theorem rm44 (l : Launch) (Z : State) (a0 : Array Value) (hw : ∀ d ∈ tables_1, d.before a0 Z = true) (ws : List Jvm.Cond) (p0 : Int32) (p1 : Int32) (sv : Value)  (h0 : Heap) (n0 : Nat) (Z0 : n0 ≤ h0.size) (hsv : sv.isRef = true) (hj0 : ¬ p0 < 0) (hj1 : p0 < p1) :
    Met1 l (⟨"jdk/internal/util/Preconditions", "checkIndex", "(IILjava/util/function/BiFunction;)I"⟩ : MethodName) jdk_41_method_11_code 3 (some .int) ws ({ frames := 0, cells := 0, slots := 0, locals := 0 } : Room) #[(.int p0), (.int p1), sv] Z h0 (RV fun vv h L => vv = .int p0 ∧ h = h0 ∧ Fr n0 L) := by
  refine met_of (plainFor_of_name pn_jdk_internal_util_Preconditions) ?_
  intro p e s m below meth c T0 X0 hx hby hml hZ hown hnm hret hlk e0 es
  have N0 := Fr.nil n0
  refine Gd.cast (ef_44 m p0 p1 sv hsv) ?_
  refine g_iloadN X0 hx hby i44_0 rfl ?_
  refine g_if_lt X0 hx hby i44_1 (fun c1_1 => False.elim (hj0 c1_1)) fun c1_1 => ?_
  refine g_iloadN X0 hx hby i44_4 rfl ?_
  refine g_iloadN X0 hx hby i44_5 rfl ?_
  refine g_icmp_lt X0 hx hby i44_6 (fun c6_2 => ?_) (fun c6_2 => False.elim (c6_2 hj1))
  refine g_iloadN X0 hx hby i44_16 rfl ?_
  refine g_ireturn X0 hx hby hret hlk i44_17 (by decide) (by decide) ?_
  exact ⟨_, rfl, rfl, e0, N0⟩
theorem i43_0 : Ins1 jdk_42_method_155_code 0 (.iload_n 0) 1 1 := ⟨by decide +kernel, rfl⟩
theorem i43_1 : Ins1 jdk_42_method_155_code 1 (.iload_n 1) 1 2 := ⟨by decide +kernel, rfl⟩
theorem i43_2 : Ins1 jdk_42_method_155_code 2 (.getstatic 1053) 3 5 := ⟨by decide +kernel, rfl⟩
theorem i43_5 : Ins1 jdk_42_method_155_code 5 (.invokestatic 1059) 3 8 := ⟨by decide +kernel, rfl⟩
theorem i43_8 : Ins1 jdk_42_method_155_code 8 (.pop) 1 9 := ⟨by decide +kernel, rfl⟩
theorem i43_9 : Ins1 jdk_42_method_155_code 9 (.return_) 1 10 := ⟨by decide +kernel, rfl⟩
theorem ef_43 (m : MethodId) (p0 : Int32) (p1 : Int32) : entryFrame m #[(.int p0), (.int p1)] 2 = mkF m 0 #[.val (.int p0), .val (.int p1)] [] := by first | (simp [entryFrame, mkF, argsToLocals, Value.category]; done) | rfl
theorem pd_26 : parseMethodDescriptor "(IILjava/util/function/BiFunction;)I" = some ⟨[.int, .int, (.object "java/util/function/BiFunction")], some .int⟩ := by decide +kernel
set_option maxRecDepth 65536 in
set_option maxHeartbeats 40000000 in
theorem rm43 (l : Launch) (Z : State) (a0 : Array Value) (hw : ∀ d ∈ tables_1, d.before a0 Z = true) (ws : List Jvm.Cond) (p0 : Int32) (p1 : Int32) (cz : Int32) (sv : Value)  (h0 : Heap) (n0 : Nat) (Z0 : n0 ≤ h0.size) (S0 : Sta Z Z.heap "java/lang/String" "COMPACT_STRINGS" "Z" (.int cz)) (hcz : ¬ cz = (0 : Int32)) (O : Old Z n0 h0) (hsv : sv.isRef = true) (S1 : Sta Z Z.heap "jdk/internal/util/Preconditions" "SIOOBE_FORMATTER" "Ljava/util/function/BiFunction;" sv) (hj0 : ¬ p0 < 0) (hj1 : p0 < p1) :
    Met1 l (⟨"java/lang/String", "checkIndex", "(II)V"⟩ : MethodName) jdk_42_method_155_code 2 none ws ({ frames := 1, cells := 0, slots := 0, locals := 14 } : Room) #[(.int p0), (.int p1)] Z h0 (RN fun h L => h = h0 ∧ Fr n0 L) := by
  refine met_of (plainFor_of_name pn_java_lang_String) ?_
  intro p e s m below meth c T0 X0 hx hby hml hZ hown hnm hret hlk e0 es
  have N0 := Fr.nil n0
  refine Gd.cast (ef_43 m p0 p1) ?_
  refine g_iloadN X0 hx hby i43_0 rfl ?_
  refine g_iloadN X0 hx hby i43_1 rfl ?_
  refine g_getstatic X0 hx hby hZ hown (host := "") (Or.inl (hw _ (List.mem_of_getElem? (i := 230) rfl))) Via.refl e0 (S1.ext O.2) i43_2 fun T1 X1 e1 => ?_
  refine g_callS0 X1 hx hby hZ (y := (⟨"jdk/internal/util/Preconditions", "checkIndex", "(IILjava/util/function/BiFunction;)I"⟩ : MethodName)) (argsL := [(.int p0), (.int p1), sv]) (rest := []) hown (hw _ (List.mem_of_getElem? (i := 232) rfl)) (hw _ (List.mem_of_getElem? (i := 233) rfl)) (hw _ (List.mem_of_getElem? (i := 231) rfl)) (hw _ (List.mem_of_getElem? (i := 234) rfl)) (by decide) (rm44 l Z a0 hw [] p0 p1 sv  h0 n0 Z0 hsv hj0 hj1) e1 (by rw [hml]; rfl) pd_26 rfl rfl i43_5 (by decide) 0 rfl (by decide) (by decide) (by decide) fun T2 v2 L2 X2 q2 => ?_
  obtain ⟨_, rfl, rfl, e2, N2⟩ := q2
  have N0 := Fr.app N0 N2
  show Gd p e below _ T2 (mkF m 8 #[.val (.int p0), .val (.int p1)] [(.int p0)])
  refine g_pop X2 hx hby i43_8 rfl ?_
  refine g_return X2 hx hby hret hlk i43_9 (by decide) (by decide) ?_
  exact ⟨rfl, e2, N0⟩
theorem i42_0 : Ins1 jdk_43_method_2_code 0 (.iload_n 1) 1 1 := ⟨by decide +kernel, rfl⟩
theorem i42_1 : Ins1 jdk_43_method_2_code 1 (.aload_n 0) 1 2 := ⟨by decide +kernel, rfl⟩
theorem i42_2 : Ins1 jdk_43_method_2_code 2 (.arraylength) 1 3 := ⟨by decide +kernel, rfl⟩
theorem i42_3 : Ins1 jdk_43_method_2_code 3 (.invokestatic 9) 3 6 := ⟨by decide +kernel, rfl⟩
theorem i42_6 : Ins1 jdk_43_method_2_code 6 (.aload_n 0) 1 7 := ⟨by decide +kernel, rfl⟩
theorem i42_7 : Ins1 jdk_43_method_2_code 7 (.iload_n 1) 1 8 := ⟨by decide +kernel, rfl⟩
theorem i42_8 : Ins1 jdk_43_method_2_code 8 (.baload) 1 9 := ⟨by decide +kernel, rfl⟩
theorem i42_9 : Ins1 jdk_43_method_2_code 9 (.sipush 255) 3 12 := ⟨by decide +kernel, rfl⟩
theorem i42_12 : Ins1 jdk_43_method_2_code 12 (.iand) 1 13 := ⟨by decide +kernel, rfl⟩
theorem i42_13 : Ins1 jdk_43_method_2_code 13 (.i2c) 1 14 := ⟨by decide +kernel, rfl⟩
theorem i42_14 : Ins1 jdk_43_method_2_code 14 (.ireturn) 1 15 := ⟨by decide +kernel, rfl⟩
theorem ef_42 (m : MethodId) (b : Addr) (p1 : Int32) : entryFrame m #[(.ref b), (.int p1)] 2 = mkF m 0 #[.val (.ref b), .val (.int p1)] [] := by first | (simp [entryFrame, mkF, argsToLocals, Value.category]; done) | rfl
set_option maxRecDepth 65536 in
set_option maxHeartbeats 40000000 in
theorem rm42 (l : Launch) (Z : State) (a0 : Array Value) (hw : ∀ d ∈ tables_1, d.before a0 Z = true) (ws : List Jvm.Cond) (b : Addr) (p1 : Int32) (cz : Int32) (sv : Value) (kb : ClassId) (z : Int32) (vs : List Value) (i : Nat) (x : Int32) (h0 : Heap) (n0 : Nat) (Z0 : n0 ≤ h0.size) (S0 : Sta Z Z.heap "java/lang/String" "COMPACT_STRINGS" "Z" (.int cz)) (hcz : ¬ cz = (0 : Int32)) (O : Old Z n0 h0) (hsv : sv.isRef = true) (S1 : Sta Z Z.heap "jdk/internal/util/Preconditions" "SIOOBE_FORMATTER" "Ljava/util/function/BiFunction;" sv) (V : Arv Z h0 b kb .byte z vs (.int (0 : Int32))) (hj0 : ¬ p1 < 0) (hj1 : p1 < z) (hji : p1.toNatClampNeg = i) (hv : vs.getD i (.int (0 : Int32)) = .int x) :
    Met1 l (⟨"java/lang/StringLatin1", "charAt", "([BI)C"⟩ : MethodName) jdk_43_method_2_code 2 (some .char) ws ({ frames := 2, cells := 0, slots := 0, locals := 27 } : Room) #[(.ref b), (.int p1)] Z h0 (RV fun vv h L => vv = .int (nar .char ((x &&& (255 : Int32)).toUInt32.toUInt16.toUInt32.toInt32)) ∧ h = h0 ∧ Fr n0 L) := by
  refine met_of (plainFor_of_name pn_java_lang_StringLatin1) ?_
  intro p e s m below meth c T0 X0 hx hby hml hZ hown hnm hret hlk e0 es
  have N0 := Fr.nil n0
  refine Gd.cast (ef_42 m b p1) ?_
  refine g_iloadN X0 hx hby i42_0 rfl ?_
  refine g_aloadN X0 hx hby i42_1 rfl rfl ?_
  refine g_arraylength X0 hx hby hZ e0 V i42_2 ?_
  refine g_callS0 X0 hx hby hZ (y := (⟨"java/lang/String", "checkIndex", "(II)V"⟩ : MethodName)) (argsL := [(.int p1), (.int z)]) (rest := []) hown (hw _ (List.mem_of_getElem? (i := 227) rfl)) (hw _ (List.mem_of_getElem? (i := 228) rfl)) (hw _ (List.mem_of_getElem? (i := 23) rfl)) (hw _ (List.mem_of_getElem? (i := 229) rfl)) (by decide) (rm43 l Z a0 hw [] p1 z cz sv h0 n0 Z0 S0 hcz O hsv S1 hj0 hj1) e0 (by rw [hml]; rfl) pd_19 rfl rfl i42_3 (by decide) 0 rfl (by decide) (by decide) (by decide) fun T1 v1 L1 X1 q1 => ?_
  obtain ⟨rfl, e1, N1⟩ := q1
  have N0 := Fr.app N0 N1
  show Gd p e below _ T1 (mkF m 6 #[.val (.ref b), .val (.int p1)] [])
  refine g_aloadN X1 hx hby i42_6 rfl rfl ?_
  refine g_iloadN X1 hx hby i42_7 rfl ?_
  refine g_baload X1 hx hby hZ e1 V (i := i) (v := .int x) hj0 hj1 hji hv i42_8 ?_
  refine g_sipush X1 hx hby i42_9 (z := (255 : Int32)) (by decide) ?_
  refine g_iand X1 hx hby i42_12 ?_
  refine g_i2c X1 hx hby i42_13 ?_
  refine g_ireturnN X1 hx hby (ty := .char) hret (by simp) hlk i42_14 (by decide) (by decide) ?_
  exact ⟨_, rfl, rfl, e1, N0⟩
theorem i40_0 : Ins1 jdk_42_method_56_code 0 (.aload_n 0) 1 1 := ⟨by decide +kernel, rfl⟩
theorem i40_1 : Ins1 jdk_42_method_56_code 1 (.invokevirtual 492) 3 4 := ⟨by decide +kernel, rfl⟩
theorem i40_4 : InsB jdk_42_method_56_code 4 (.ifCond .eq 12) 12 7 16 := ⟨by decide +kernel, rfl, by decide, by decide⟩
theorem i40_7 : Ins1 jdk_42_method_56_code 7 (.aload_n 0) 1 8 := ⟨by decide +kernel, rfl⟩
theorem i40_8 : Ins1 jdk_42_method_56_code 8 (.getfield 9) 3 11 := ⟨by decide +kernel, rfl⟩
theorem i40_11 : Ins1 jdk_42_method_56_code 11 (.iload_n 1) 1 12 := ⟨by decide +kernel, rfl⟩
theorem i40_12 : Ins1 jdk_42_method_56_code 12 (.invokestatic 495) 3 15 := ⟨by decide +kernel, rfl⟩
theorem i40_15 : Ins1 jdk_42_method_56_code 15 (.ireturn) 1 16 := ⟨by decide +kernel, rfl⟩
theorem i40_16 : Ins1 jdk_42_method_56_code 16 (.aload_n 0) 1 17 := ⟨by decide +kernel, rfl⟩
theorem i40_17 : Ins1 jdk_42_method_56_code 17 (.getfield 9) 3 20 := ⟨by decide +kernel, rfl⟩
theorem i40_20 : Ins1 jdk_42_method_56_code 20 (.iload_n 1) 1 21 := ⟨by decide +kernel, rfl⟩
theorem i40_21 : Ins1 jdk_42_method_56_code 21 (.invokestatic 498) 3 24 := ⟨by decide +kernel, rfl⟩
theorem i40_24 : Ins1 jdk_42_method_56_code 24 (.ireturn) 1 25 := ⟨by decide +kernel, rfl⟩
theorem ef_40 (m : MethodId) (a : Addr) (p1 : Int32) : entryFrame m #[(.ref a), (.int p1)] 2 = mkF m 0 #[.val (.ref a), .val (.int p1)] [] := by first | (simp [entryFrame, mkF, argsToLocals, Value.category]; done) | rfl
theorem pd_27 : parseMethodDescriptor "([BI)C" = some ⟨[(.array .byte), .int], some .char⟩ := by decide +kernel
set_option maxRecDepth 65536 in
set_option maxHeartbeats 40000000 in
theorem rm40 (l : Launch) (Z : State) (a0 : Array Value) (hw : ∀ d ∈ tables_1, d.before a0 Z = true) (ws : List Jvm.Cond) (a : Addr) (p1 : Int32) (cz : Int32) (sv : Value) (b : Addr) (kb : ClassId) (z : Int32) (vs : List Value) (i : Nat) (x : Int32) (h0 : Heap) (n0 : Nat) (Z0 : n0 ≤ h0.size) (S0 : Sta Z Z.heap "java/lang/String" "COMPACT_STRINGS" "Z" (.int cz)) (hcz : ¬ cz = (0 : Int32)) (O : Old Z n0 h0) (hsv : sv.isRef = true) (S1 : Sta Z Z.heap "jdk/internal/util/Preconditions" "SIOOBE_FORMATTER" "Ljava/util/function/BiFunction;" sv) (E : Exa Z h0 a "java/lang/String") (FV : Fld Z h0 a "java/lang/String" "value" "[B" (.ref b)) (FC : Fld Z h0 a "java/lang/String" "coder" "B" (.int 0)) (V : Arv Z h0 b kb .byte z vs (.int (0 : Int32))) (hj0 : ¬ p1 < 0) (hj1 : p1 < z) (hji : p1.toNatClampNeg = i) (hv : vs.getD i (.int (0 : Int32)) = .int x) :
    Met1 l (⟨"java/lang/String", "charAt", "(I)C"⟩ : MethodName) jdk_42_method_56_code 2 (some .char) ws ({ frames := 3, cells := 0, slots := 0, locals := 40 } : Room) #[(.ref a), (.int p1)] Z h0 (RV fun vv h L => vv = .int (nar .char (nar .char ((x &&& (255 : Int32)).toUInt32.toUInt16.toUInt32.toInt32))) ∧ h = h0 ∧ Fr n0 L) := by
  refine met_of (plainFor_of_name pn_java_lang_String) ?_
  intro p e s m below meth c T0 X0 hx hby hml hZ hown hnm hret hlk e0 es
  have N0 := Fr.nil n0
  refine Gd.cast (ef_40 m a p1) ?_
  refine g_aloadN X0 hx hby i40_0 rfl rfl ?_
  refine g_callV0 X0 hx hby hZ (y0 := (⟨"java/lang/String", "isLatin1", "()Z"⟩ : MethodName)) (y := (⟨"java/lang/String", "isLatin1", "()Z"⟩ : MethodName)) (argsL := []) (rest := []) hown (hw _ (List.mem_of_getElem? (i := 219) rfl)) (hw _ (List.mem_of_getElem? (i := 220) rfl)) (notFace_of_selects (args := #[]) (mvT hZ (hw _ (List.mem_of_getElem? (i := 222) rfl)))) (hw _ (List.mem_of_getElem? (i := 222) rfl)) (hw _ (List.mem_of_getElem? (i := 221) rfl)) (hw _ (List.mem_of_getElem? (i := 23) rfl)) (hw _ (List.mem_of_getElem? (i := 223) rfl)) (by decide) (a := a) E (rm41 l Z a0 hw [] a cz  h0 n0 Z0 S0 hcz O FC) e0 (by rw [hml]; rfl) pd_10 rfl rfl i40_1 (by decide) 0 rfl (by decide) (by decide) (by decide) fun T1 v1 L1 X1 q1 => ?_
  obtain ⟨_, rfl, rfl, e1, N1⟩ := q1
  have N0 := Fr.app N0 N1
  show Gd p e below _ T1 (mkF m 4 #[.val (.ref a), .val (.int p1)] [(.int (1 : Int32))])
  refine g_if_eq X1 hx hby i40_4 (fun c4_2 => False.elim (absurd c4_2 (by decide))) fun c4_2 => ?_
  refine g_aloadN X1 hx hby i40_7 rfl rfl ?_
  refine g_getfield X1 hx hby hZ hown (host := "") (Or.inl (hw _ (List.mem_of_getElem? (i := 49) rfl))) Via.refl e1 FV i40_8 fun T3 X3 e3 => ?_
  refine g_iloadN X3 hx hby i40_11 rfl ?_
  refine g_callS0 X3 hx hby hZ (y := (⟨"java/lang/StringLatin1", "charAt", "([BI)C"⟩ : MethodName)) (argsL := [(.ref b), (.int p1)]) (rest := []) hown (hw _ (List.mem_of_getElem? (i := 224) rfl)) (hw _ (List.mem_of_getElem? (i := 225) rfl)) (hw _ (List.mem_of_getElem? (i := 37) rfl)) (hw _ (List.mem_of_getElem? (i := 226) rfl)) (by decide) (rm42 l Z a0 hw [] b p1 cz sv kb z _ i x h0 n0 Z0 S0 hcz O hsv S1 V hj0 hj1 hji hv) e3 (by rw [hml]; rfl) pd_27 rfl rfl i40_12 (by decide) 0 rfl (by decide) (by decide) (by decide) fun T4 v4 L4 X4 q4 => ?_
  obtain ⟨_, rfl, rfl, e4, N4⟩ := q4
  have N0 := Fr.app N0 N4
  show Gd p e below _ T4 (mkF m 15 #[.val (.ref a), .val (.int p1)] [(.int (nar .char ((x &&& (255 : Int32)).toUInt32.toUInt16.toUInt32.toInt32)))])
  refine g_ireturnN X4 hx hby (ty := .char) hret (by simp) hlk i40_15 (by decide) (by decide) ?_
  exact ⟨_, rfl, rfl, e4, N0⟩
theorem i39_0 : Ins1 method_3_code 0 (.aload_n 0) 1 1 := ⟨by decide +kernel, rfl⟩
theorem i39_1 : Ins1 method_3_code 1 (.invokevirtual 34) 3 4 := ⟨by decide +kernel, rfl⟩
theorem i39_4 : Ins1 method_3_code 4 (.iload_n 2) 1 5 := ⟨by decide +kernel, rfl⟩
theorem i39_5 : InsB method_3_code 5 (.if_icmp .eq 5) 5 8 10 := ⟨by decide +kernel, rfl, by decide, by decide⟩
theorem i39_8 : Ins1 method_3_code 8 (.iconst 0) 1 9 := ⟨by decide +kernel, rfl⟩
theorem i39_9 : Ins1 method_3_code 9 (.ireturn) 1 10 := ⟨by decide +kernel, rfl⟩
theorem i39_10 : Ins1 method_3_code 10 (.iconst 1) 1 11 := ⟨by decide +kernel, rfl⟩
theorem i39_11 : Ins1 method_3_code 11 (.istore_n 3) 1 12 := ⟨by decide +kernel, rfl⟩
theorem i39_12 : Ins1 method_3_code 12 (.iload_n 2) 1 13 := ⟨by decide +kernel, rfl⟩
theorem i39_13 : InsB method_3_code 13 (.ifCond .le 24) 24 16 37 := ⟨by decide +kernel, rfl, by decide, by decide⟩
theorem i39_16 : Ins1 method_3_code 16 (.iload_n 3) 1 17 := ⟨by decide +kernel, rfl⟩
theorem i39_17 : InsB method_3_code 17 (.ifCond .eq 18) 18 20 35 := ⟨by decide +kernel, rfl, by decide, by decide⟩
theorem i39_20 : Ins1 method_3_code 20 (.aload_n 0) 1 21 := ⟨by decide +kernel, rfl⟩
theorem i39_21 : Ins1 method_3_code 21 (.iconst 0) 1 22 := ⟨by decide +kernel, rfl⟩
theorem i39_22 : Ins1 method_3_code 22 (.invokevirtual 38) 3 25 := ⟨by decide +kernel, rfl⟩
theorem i39_25 : Ins1 method_3_code 25 (.aload_n 1) 1 26 := ⟨by decide +kernel, rfl⟩
theorem i39_26 : Ins1 method_3_code 26 (.iconst 0) 1 27 := ⟨by decide +kernel, rfl⟩
theorem i39_27 : Ins1 method_3_code 27 (.caload) 1 28 := ⟨by decide +kernel, rfl⟩
theorem i39_28 : InsB method_3_code 28 (.if_icmp .ne 7) 7 31 35 := ⟨by decide +kernel, rfl, by decide, by decide⟩
theorem i39_31 : Ins1 method_3_code 31 (.iconst 1) 1 32 := ⟨by decide +kernel, rfl⟩
theorem i39_32 : InsB method_3_code 32 (.goto 4) 4 35 36 := ⟨by decide +kernel, rfl, by decide, by decide⟩
theorem i39_35 : Ins1 method_3_code 35 (.iconst 0) 1 36 := ⟨by decide +kernel, rfl⟩
theorem i39_36 : Ins1 method_3_code 36 (.istore_n 3) 1 37 := ⟨by decide +kernel, rfl⟩
theorem i39_37 : Ins1 method_3_code 37 (.iload_n 2) 1 38 := ⟨by decide +kernel, rfl⟩
theorem i39_38 : Ins1 method_3_code 38 (.iconst 1) 1 39 := ⟨by decide +kernel, rfl⟩
theorem i39_39 : InsB method_3_code 39 (.if_icmp .le 24) 24 42 63 := ⟨by decide +kernel, rfl, by decide, by decide⟩
theorem i39_42 : Ins1 method_3_code 42 (.iload_n 3) 1 43 := ⟨by decide +kernel, rfl⟩
theorem i39_43 : InsB method_3_code 43 (.ifCond .eq 18) 18 46 61 := ⟨by decide +kernel, rfl, by decide, by decide⟩
theorem i39_46 : Ins1 method_3_code 46 (.aload_n 0) 1 47 := ⟨by decide +kernel, rfl⟩
theorem i39_47 : Ins1 method_3_code 47 (.iconst 1) 1 48 := ⟨by decide +kernel, rfl⟩
theorem i39_48 : Ins1 method_3_code 48 (.invokevirtual 38) 3 51 := ⟨by decide +kernel, rfl⟩
theorem i39_51 : Ins1 method_3_code 51 (.aload_n 1) 1 52 := ⟨by decide +kernel, rfl⟩
theorem i39_52 : Ins1 method_3_code 52 (.iconst 1) 1 53 := ⟨by decide +kernel, rfl⟩
theorem i39_53 : Ins1 method_3_code 53 (.caload) 1 54 := ⟨by decide +kernel, rfl⟩
theorem i39_54 : InsB method_3_code 54 (.if_icmp .ne 7) 7 57 61 := ⟨by decide +kernel, rfl, by decide, by decide⟩
theorem i39_57 : Ins1 method_3_code 57 (.iconst 1) 1 58 := ⟨by decide +kernel, rfl⟩
theorem i39_58 : InsB method_3_code 58 (.goto 4) 4 61 62 := ⟨by decide +kernel, rfl, by decide, by decide⟩
theorem i39_61 : Ins1 method_3_code 61 (.iconst 0) 1 62 := ⟨by decide +kernel, rfl⟩
theorem i39_62 : Ins1 method_3_code 62 (.istore_n 3) 1 63 := ⟨by decide +kernel, rfl⟩
theorem i39_63 : Ins1 method_3_code 63 (.iload_n 2) 1 64 := ⟨by decide +kernel, rfl⟩
theorem i39_64 : Ins1 method_3_code 64 (.iconst 2) 1 65 := ⟨by decide +kernel, rfl⟩
theorem i39_65 : InsB method_3_code 65 (.if_icmp .le 24) 24 68 89 := ⟨by decide +kernel, rfl, by decide, by decide⟩
theorem i39_68 : Ins1 method_3_code 68 (.iload_n 3) 1 69 := ⟨by decide +kernel, rfl⟩
theorem i39_69 : InsB method_3_code 69 (.ifCond .eq 18) 18 72 87 := ⟨by decide +kernel, rfl, by decide, by decide⟩
theorem i39_72 : Ins1 method_3_code 72 (.aload_n 0) 1 73 := ⟨by decide +kernel, rfl⟩
theorem i39_73 : Ins1 method_3_code 73 (.iconst 2) 1 74 := ⟨by decide +kernel, rfl⟩
theorem i39_74 : Ins1 method_3_code 74 (.invokevirtual 38) 3 77 := ⟨by decide +kernel, rfl⟩
theorem i39_77 : Ins1 method_3_code 77 (.aload_n 1) 1 78 := ⟨by decide +kernel, rfl⟩
theorem i39_78 : Ins1 method_3_code 78 (.iconst 2) 1 79 := ⟨by decide +kernel, rfl⟩
theorem i39_79 : Ins1 method_3_code 79 (.caload) 1 80 := ⟨by decide +kernel, rfl⟩
theorem i39_80 : InsB method_3_code 80 (.if_icmp .ne 7) 7 83 87 := ⟨by decide +kernel, rfl, by decide, by decide⟩
theorem i39_83 : Ins1 method_3_code 83 (.iconst 1) 1 84 := ⟨by decide +kernel, rfl⟩
theorem i39_84 : InsB method_3_code 84 (.goto 4) 4 87 88 := ⟨by decide +kernel, rfl, by decide, by decide⟩
theorem i39_87 : Ins1 method_3_code 87 (.iconst 0) 1 88 := ⟨by decide +kernel, rfl⟩
theorem i39_88 : Ins1 method_3_code 88 (.istore_n 3) 1 89 := ⟨by decide +kernel, rfl⟩
theorem i39_89 : Ins1 method_3_code 89 (.iload_n 2) 1 90 := ⟨by decide +kernel, rfl⟩
theorem i39_90 : Ins1 method_3_code 90 (.iconst 3) 1 91 := ⟨by decide +kernel, rfl⟩
theorem i39_91 : InsB method_3_code 91 (.if_icmp .le 24) 24 94 115 := ⟨by decide +kernel, rfl, by decide, by decide⟩
theorem i39_94 : Ins1 method_3_code 94 (.iload_n 3) 1 95 := ⟨by decide +kernel, rfl⟩
theorem i39_95 : InsB method_3_code 95 (.ifCond .eq 18) 18 98 113 := ⟨by decide +kernel, rfl, by decide, by decide⟩
theorem i39_98 : Ins1 method_3_code 98 (.aload_n 0) 1 99 := ⟨by decide +kernel, rfl⟩
theorem i39_99 : Ins1 method_3_code 99 (.iconst 3) 1 100 := ⟨by decide +kernel, rfl⟩
theorem i39_100 : Ins1 method_3_code 100 (.invokevirtual 38) 3 103 := ⟨by decide +kernel, rfl⟩
theorem i39_103 : Ins1 method_3_code 103 (.aload_n 1) 1 104 := ⟨by decide +kernel, rfl⟩
theorem i39_104 : Ins1 method_3_code 104 (.iconst 3) 1 105 := ⟨by decide +kernel, rfl⟩
theorem i39_105 : Ins1 method_3_code 105 (.caload) 1 106 := ⟨by decide +kernel, rfl⟩
theorem i39_106 : InsB method_3_code 106 (.if_icmp .ne 7) 7 109 113 := ⟨by decide +kernel, rfl, by decide, by decide⟩
theorem i39_109 : Ins1 method_3_code 109 (.iconst 1) 1 110 := ⟨by decide +kernel, rfl⟩
theorem i39_110 : InsB method_3_code 110 (.goto 4) 4 113 114 := ⟨by decide +kernel, rfl, by decide, by decide⟩
theorem i39_113 : Ins1 method_3_code 113 (.iconst 0) 1 114 := ⟨by decide +kernel, rfl⟩
theorem i39_114 : Ins1 method_3_code 114 (.istore_n 3) 1 115 := ⟨by decide +kernel, rfl⟩
theorem i39_115 : Ins1 method_3_code 115 (.iload_n 2) 1 116 := ⟨by decide +kernel, rfl⟩
theorem i39_116 : Ins1 method_3_code 116 (.iconst 4) 1 117 := ⟨by decide +kernel, rfl⟩
theorem i39_117 : InsB method_3_code 117 (.if_icmp .le 24) 24 120 141 := ⟨by decide +kernel, rfl, by decide, by decide⟩
theorem i39_120 : Ins1 method_3_code 120 (.iload_n 3) 1 121 := ⟨by decide +kernel, rfl⟩
theorem i39_121 : InsB method_3_code 121 (.ifCond .eq 18) 18 124 139 := ⟨by decide +kernel, rfl, by decide, by decide⟩
theorem i39_124 : Ins1 method_3_code 124 (.aload_n 0) 1 125 := ⟨by decide +kernel, rfl⟩
theorem i39_125 : Ins1 method_3_code 125 (.iconst 4) 1 126 := ⟨by decide +kernel, rfl⟩
theorem i39_126 : Ins1 method_3_code 126 (.invokevirtual 38) 3 129 := ⟨by decide +kernel, rfl⟩
theorem i39_129 : Ins1 method_3_code 129 (.aload_n 1) 1 130 := ⟨by decide +kernel, rfl⟩
theorem i39_130 : Ins1 method_3_code 130 (.iconst 4) 1 131 := ⟨by decide +kernel, rfl⟩
theorem i39_131 : Ins1 method_3_code 131 (.caload) 1 132 := ⟨by decide +kernel, rfl⟩
theorem i39_132 : InsB method_3_code 132 (.if_icmp .ne 7) 7 135 139 := ⟨by decide +kernel, rfl, by decide, by decide⟩
theorem i39_135 : Ins1 method_3_code 135 (.iconst 1) 1 136 := ⟨by decide +kernel, rfl⟩
theorem i39_136 : InsB method_3_code 136 (.goto 4) 4 139 140 := ⟨by decide +kernel, rfl, by decide, by decide⟩
theorem i39_139 : Ins1 method_3_code 139 (.iconst 0) 1 140 := ⟨by decide +kernel, rfl⟩
theorem i39_140 : Ins1 method_3_code 140 (.istore_n 3) 1 141 := ⟨by decide +kernel, rfl⟩
theorem i39_141 : Ins1 method_3_code 141 (.iload_n 2) 1 142 := ⟨by decide +kernel, rfl⟩
theorem i39_142 : Ins1 method_3_code 142 (.iconst 5) 1 143 := ⟨by decide +kernel, rfl⟩
theorem i39_143 : InsB method_3_code 143 (.if_icmp .le 24) 24 146 167 := ⟨by decide +kernel, rfl, by decide, by decide⟩
theorem i39_146 : Ins1 method_3_code 146 (.iload_n 3) 1 147 := ⟨by decide +kernel, rfl⟩
theorem i39_147 : InsB method_3_code 147 (.ifCond .eq 18) 18 150 165 := ⟨by decide +kernel, rfl, by decide, by decide⟩
theorem i39_150 : Ins1 method_3_code 150 (.aload_n 0) 1 151 := ⟨by decide +kernel, rfl⟩
theorem i39_151 : Ins1 method_3_code 151 (.iconst 5) 1 152 := ⟨by decide +kernel, rfl⟩
theorem i39_152 : Ins1 method_3_code 152 (.invokevirtual 38) 3 155 := ⟨by decide +kernel, rfl⟩
theorem i39_155 : Ins1 method_3_code 155 (.aload_n 1) 1 156 := ⟨by decide +kernel, rfl⟩
theorem i39_156 : Ins1 method_3_code 156 (.iconst 5) 1 157 := ⟨by decide +kernel, rfl⟩
theorem i39_157 : Ins1 method_3_code 157 (.caload) 1 158 := ⟨by decide +kernel, rfl⟩
theorem i39_158 : InsB method_3_code 158 (.if_icmp .ne 7) 7 161 165 := ⟨by decide +kernel, rfl, by decide, by decide⟩
theorem i39_161 : Ins1 method_3_code 161 (.iconst 1) 1 162 := ⟨by decide +kernel, rfl⟩
theorem i39_162 : InsB method_3_code 162 (.goto 4) 4 165 166 := ⟨by decide +kernel, rfl, by decide, by decide⟩
theorem i39_165 : Ins1 method_3_code 165 (.iconst 0) 1 166 := ⟨by decide +kernel, rfl⟩
theorem i39_166 : Ins1 method_3_code 166 (.istore_n 3) 1 167 := ⟨by decide +kernel, rfl⟩
theorem i39_167 : Ins1 method_3_code 167 (.iload_n 2) 1 168 := ⟨by decide +kernel, rfl⟩
theorem i39_168 : Ins1 method_3_code 168 (.bipush 6) 2 170 := ⟨by decide +kernel, rfl⟩
theorem i39_170 : InsB method_3_code 170 (.if_icmp .le 26) 26 173 196 := ⟨by decide +kernel, rfl, by decide, by decide⟩
theorem i39_173 : Ins1 method_3_code 173 (.iload_n 3) 1 174 := ⟨by decide +kernel, rfl⟩
theorem i39_174 : InsB method_3_code 174 (.ifCond .eq 20) 20 177 194 := ⟨by decide +kernel, rfl, by decide, by decide⟩
theorem i39_177 : Ins1 method_3_code 177 (.aload_n 0) 1 178 := ⟨by decide +kernel, rfl⟩
theorem i39_178 : Ins1 method_3_code 178 (.bipush 6) 2 180 := ⟨by decide +kernel, rfl⟩
theorem i39_180 : Ins1 method_3_code 180 (.invokevirtual 38) 3 183 := ⟨by decide +kernel, rfl⟩
theorem i39_183 : Ins1 method_3_code 183 (.aload_n 1) 1 184 := ⟨by decide +kernel, rfl⟩
theorem i39_184 : Ins1 method_3_code 184 (.bipush 6) 2 186 := ⟨by decide +kernel, rfl⟩
theorem i39_186 : Ins1 method_3_code 186 (.caload) 1 187 := ⟨by decide +kernel, rfl⟩
theorem i39_187 : InsB method_3_code 187 (.if_icmp .ne 7) 7 190 194 := ⟨by decide +kernel, rfl, by decide, by decide⟩
theorem i39_190 : Ins1 method_3_code 190 (.iconst 1) 1 191 := ⟨by decide +kernel, rfl⟩
theorem i39_191 : InsB method_3_code 191 (.goto 4) 4 194 195 := ⟨by decide +kernel, rfl, by decide, by decide⟩
theorem i39_194 : Ins1 method_3_code 194 (.iconst 0) 1 195 := ⟨by decide +kernel, rfl⟩
theorem i39_195 : Ins1 method_3_code 195 (.istore_n 3) 1 196 := ⟨by decide +kernel, rfl⟩
theorem i39_196 : Ins1 method_3_code 196 (.iload_n 2) 1 197 := ⟨by decide +kernel, rfl⟩
theorem i39_197 : Ins1 method_3_code 197 (.bipush 7) 2 199 := ⟨by decide +kernel, rfl⟩
theorem i39_199 : InsB method_3_code 199 (.if_icmp .le 26) 26 202 225 := ⟨by decide +kernel, rfl, by decide, by decide⟩
theorem i39_202 : Ins1 method_3_code 202 (.iload_n 3) 1 203 := ⟨by decide +kernel, rfl⟩
theorem i39_203 : InsB method_3_code 203 (.ifCond .eq 20) 20 206 223 := ⟨by decide +kernel, rfl, by decide, by decide⟩
theorem i39_206 : Ins1 method_3_code 206 (.aload_n 0) 1 207 := ⟨by decide +kernel, rfl⟩
theorem i39_207 : Ins1 method_3_code 207 (.bipush 7) 2 209 := ⟨by decide +kernel, rfl⟩
theorem i39_209 : Ins1 method_3_code 209 (.invokevirtual 38) 3 212 := ⟨by decide +kernel, rfl⟩
theorem i39_212 : Ins1 method_3_code 212 (.aload_n 1) 1 213 := ⟨by decide +kernel, rfl⟩
theorem i39_213 : Ins1 method_3_code 213 (.bipush 7) 2 215 := ⟨by decide +kernel, rfl⟩
theorem i39_215 : Ins1 method_3_code 215 (.caload) 1 216 := ⟨by decide +kernel, rfl⟩
theorem i39_216 : InsB method_3_code 216 (.if_icmp .ne 7) 7 219 223 := ⟨by decide +kernel, rfl, by decide, by decide⟩
theorem i39_219 : Ins1 method_3_code 219 (.iconst 1) 1 220 := ⟨by decide +kernel, rfl⟩
theorem i39_220 : InsB method_3_code 220 (.goto 4) 4 223 224 := ⟨by decide +kernel, rfl, by decide, by decide⟩
theorem i39_223 : Ins1 method_3_code 223 (.iconst 0) 1 224 := ⟨by decide +kernel, rfl⟩
theorem i39_224 : Ins1 method_3_code 224 (.istore_n 3) 1 225 := ⟨by decide +kernel, rfl⟩
theorem i39_225 : Ins1 method_3_code 225 (.iload_n 3) 1 226 := ⟨by decide +kernel, rfl⟩
theorem i39_226 : Ins1 method_3_code 226 (.ireturn) 1 227 := ⟨by decide +kernel, rfl⟩
theorem pn_com_example_cloudgavel_cloudgavel_cli_ReportLinesPinLaw : plainName "com/example/cloudgavel/cloudgavel/cli/ReportLinesPinLaw" = true := by first | (simp [plainName, overriddenIn]; done) | decide +kernel
theorem ef_39_0 (m : MethodId) (a : Addr) (ca : Addr) (p2 : Int32) : entryFrame m #[(.ref a), (.ref ca), (.int p2)] 4 = mkF m 0 #[.val (.ref a), .val (.ref ca), .val (.int p2), .unset] [] := by first | (simp [entryFrame, mkF, argsToLocals, Value.category]; done) | rfl
set_option maxRecDepth 65536 in
set_option maxHeartbeats 40000000 in
theorem rm39_0 (l : Launch) (Z : State) (a0 : Array Value) (hw : ∀ d ∈ tables_1, d.before a0 Z = true) (ws : List Jvm.Cond) (a : Addr) (ca : Addr) (p2 : Int32) (cz : Int32) (sv : Value) (b : Addr) (kb : ClassId) (kc : ClassId) (e_0 e_1 e_2 e_3 e_4 e_5 e_6 e_7 : Int32) (h0 : Heap) (n0 : Nat) (Z0 : n0 ≤ h0.size) (S0 : Sta Z Z.heap "java/lang/String" "COMPACT_STRINGS" "Z" (.int cz)) (hcz : ¬ cz = (0 : Int32)) (O : Old Z n0 h0) (hsv : sv.isRef = true) (S1 : Sta Z Z.heap "jdk/internal/util/Preconditions" "SIOOBE_FORMATTER" "Ljava/util/function/BiFunction;" sv) (E : Exa Z h0 a "java/lang/String") (FV : Fld Z h0 a "java/lang/String" "value" "[B" (.ref b)) (FC : Fld Z h0 a "java/lang/String" "coder" "B" (.int 0)) (V : Arv Z h0 b kb .byte (0 : Int32) [] (.int (0 : Int32))) (Vc : Arv Z h0 ca kc .char (8 : Int32) [(.int e_0), (.int e_1), (.int e_2), (.int e_3), (.int e_4), (.int e_5), (.int e_6), (.int e_7)] (.int (0 : Int32))) (hp2 : p2 = 0) :
    Met1 l (⟨"com/example/cloudgavel/cloudgavel/cli/ReportLinesPinLaw", "same", "(Ljava/lang/String;[CI)Z"⟩ : MethodName) method_3_code 4 (some .boolean) ws ({ frames := 4, cells := 0, slots := 0, locals := 53 } : Room) #[(.ref a), (.ref ca), (.int p2)] Z h0 (RV fun vv h L => vv = .int 1 ∧ h = h0 ∧ Fr n0 L) := by
  refine met_of (plainFor_of_name pn_com_example_cloudgavel_cloudgavel_cli_ReportLinesPinLaw) ?_
  intro p e s m below meth c T0 X0 hx hby hml hZ hown hnm hret hlk e0 es
  have N0 := Fr.nil n0
  refine Gd.cast (ef_39_0 m a ca p2) ?_
  subst hp2
  refine g_aloadN X0 hx hby i39_0 rfl rfl ?_
  refine g_callV0 X0 hx hby hZ (y0 := (⟨"java/lang/String", "length", "()I"⟩ : MethodName)) (y := (⟨"java/lang/String", "length", "()I"⟩ : MethodName)) (argsL := []) (rest := []) hown (hw _ (List.mem_of_getElem? (i := 213) rfl)) (hw _ (List.mem_of_getElem? (i := 69) rfl)) (notFace_of_selects (args := #[]) (mvT hZ (hw _ (List.mem_of_getElem? (i := 71) rfl)))) (hw _ (List.mem_of_getElem? (i := 71) rfl)) (hw _ (List.mem_of_getElem? (i := 70) rfl)) (hw _ (List.mem_of_getElem? (i := 23) rfl)) (hw _ (List.mem_of_getElem? (i := 72) rfl)) (by decide) (a := a) E (rm12 l Z a0 hw [] a cz b kb (0 : Int32) _ h0 n0 Z0 S0 hcz O E FV FC V) e0 (by rw [hml]; rfl) pd_6 rfl rfl i39_1 (by decide) 0 rfl (by decide) (by decide) (by decide) fun T1 v1 L1 X1 q1 => ?_
  obtain ⟨_, rfl, rfl, e1, N1⟩ := q1
  have N0 := Fr.app N0 N1
  show Gd p e below _ T1 (mkF m 4 #[.val (.ref a), .val (.ref ca), .val (.int (0 : Int32)), .unset] [(.int (0 : Int32))])
  refine g_iloadN X1 hx hby i39_4 rfl ?_
  refine g_icmp_eq X1 hx hby i39_5 (fun c5_2 => ?_) (fun c5_2 => False.elim (absurd c5_2 (by decide)))
  refine g_iconst X1 hx hby i39_10 (z := (1 : Int32)) (by decide) ?_
  refine g_istoreN X1 hx hby i39_11 (l' := #[.val (.ref a), .val (.ref ca), .val (.int (0 : Int32)), .val (.int (1 : Int32))]) rfl ?_
  refine g_iloadN X1 hx hby i39_12 rfl ?_
  refine g_if_le X1 hx hby i39_13 (fun c13_3 => ?_) (fun c13_3 => False.elim (absurd c13_3 (by decide)))
  refine g_iloadN X1 hx hby i39_37 rfl ?_
  refine g_iconst X1 hx hby i39_38 (z := (1 : Int32)) (by decide) ?_
  refine g_icmp_le X1 hx hby i39_39 (fun c39_4 => ?_) (fun c39_4 => False.elim (absurd c39_4 (by decide)))
  refine g_iloadN X1 hx hby i39_63 rfl ?_
  refine g_iconst X1 hx hby i39_64 (z := (2 : Int32)) (by decide) ?_
  refine g_icmp_le X1 hx hby i39_65 (fun c65_5 => ?_) (fun c65_5 => False.elim (absurd c65_5 (by decide)))
  refine g_iloadN X1 hx hby i39_89 rfl ?_
  refine g_iconst X1 hx hby i39_90 (z := (3 : Int32)) (by decide) ?_
  refine g_icmp_le X1 hx hby i39_91 (fun c91_6 => ?_) (fun c91_6 => False.elim (absurd c91_6 (by decide)))
  refine g_iloadN X1 hx hby i39_115 rfl ?_
  refine g_iconst X1 hx hby i39_116 (z := (4 : Int32)) (by decide) ?_
  refine g_icmp_le X1 hx hby i39_117 (fun c117_7 => ?_) (fun c117_7 => False.elim (absurd c117_7 (by decide)))
  refine g_iloadN X1 hx hby i39_141 rfl ?_
  refine g_iconst X1 hx hby i39_142 (z := (5 : Int32)) (by decide) ?_
  refine g_icmp_le X1 hx hby i39_143 (fun c143_8 => ?_) (fun c143_8 => False.elim (absurd c143_8 (by decide)))
  refine g_iloadN X1 hx hby i39_167 rfl ?_
  refine g_bipush X1 hx hby i39_168 (z := (6 : Int32)) (by decide) ?_
  refine g_icmp_le X1 hx hby i39_170 (fun c170_9 => ?_) (fun c170_9 => False.elim (absurd c170_9 (by decide)))
  refine g_iloadN X1 hx hby i39_196 rfl ?_
  refine g_bipush X1 hx hby i39_197 (z := (7 : Int32)) (by decide) ?_
  refine g_icmp_le X1 hx hby i39_199 (fun c199_10 => ?_) (fun c199_10 => False.elim (absurd c199_10 (by decide)))
  refine g_iloadN X1 hx hby i39_225 rfl ?_
  refine g_ireturnN X1 hx hby (ty := .boolean) hret (by simp) hlk i39_226 (by decide) (by decide) ?_
  exact ⟨_, rfl, rfl, e1, N0⟩
theorem pd_28 : parseMethodDescriptor "(I)C" = some ⟨[.int], some .char⟩ := by decide +kernel
set_option maxRecDepth 65536 in
set_option maxHeartbeats 40000000 in
theorem rm39_4 (l : Launch) (Z : State) (a0 : Array Value) (hw : ∀ d ∈ tables_1, d.before a0 Z = true) (ws : List Jvm.Cond) (a : Addr) (ca : Addr) (p2 : Int32) (cz : Int32) (sv : Value) (b : Addr) (kb : ClassId) (x0 x1 x2 x3 : Int32) (kc : ClassId) (e_0 e_1 e_2 e_3 e_4 e_5 e_6 e_7 : Int32) (h0 : Heap) (n0 : Nat) (Z0 : n0 ≤ h0.size) (S0 : Sta Z Z.heap "java/lang/String" "COMPACT_STRINGS" "Z" (.int cz)) (hcz : ¬ cz = (0 : Int32)) (O : Old Z n0 h0) (hsv : sv.isRef = true) (S1 : Sta Z Z.heap "jdk/internal/util/Preconditions" "SIOOBE_FORMATTER" "Ljava/util/function/BiFunction;" sv) (E : Exa Z h0 a "java/lang/String") (FV : Fld Z h0 a "java/lang/String" "value" "[B" (.ref b)) (FC : Fld Z h0 a "java/lang/String" "coder" "B" (.int 0)) (V : Arv Z h0 b kb .byte (4 : Int32) [(.int x0), (.int x1), (.int x2), (.int x3)] (.int (0 : Int32))) (Vc : Arv Z h0 ca kc .char (8 : Int32) [(.int e_0), (.int e_1), (.int e_2), (.int e_3), (.int e_4), (.int e_5), (.int e_6), (.int e_7)] (.int (0 : Int32))) (hp2 : p2 = 4) (q0_ : nar .char (nar .char ((x0 &&& (255 : Int32)).toUInt32.toUInt16.toUInt32.toInt32)) = e_0) (q1_ : nar .char (nar .char ((x1 &&& (255 : Int32)).toUInt32.toUInt16.toUInt32.toInt32)) = e_1) (q2_ : nar .char (nar .char ((x2 &&& (255 : Int32)).toUInt32.toUInt16.toUInt32.toInt32)) = e_2) (q3_ : nar .char (nar .char ((x3 &&& (255 : Int32)).toUInt32.toUInt16.toUInt32.toInt32)) = e_3) :
    Met1 l (⟨"com/example/cloudgavel/cloudgavel/cli/ReportLinesPinLaw", "same", "(Ljava/lang/String;[CI)Z"⟩ : MethodName) method_3_code 4 (some .boolean) ws ({ frames := 4, cells := 0, slots := 0, locals := 53 } : Room) #[(.ref a), (.ref ca), (.int p2)] Z h0 (RV fun vv h L => vv = .int 1 ∧ h = h0 ∧ Fr n0 L) := by
  refine met_of (plainFor_of_name pn_com_example_cloudgavel_cloudgavel_cli_ReportLinesPinLaw) ?_
  intro p e s m below meth c T0 X0 hx hby hml hZ hown hnm hret hlk e0 es
  have N0 := Fr.nil n0
  refine Gd.cast (ef_39_0 m a ca p2) ?_
  subst hp2
  refine g_aloadN X0 hx hby i39_0 rfl rfl ?_
  refine g_callV0 X0 hx hby hZ (y0 := (⟨"java/lang/String", "length", "()I"⟩ : MethodName)) (y := (⟨"java/lang/String", "length", "()I"⟩ : MethodName)) (argsL := []) (rest := []) hown (hw _ (List.mem_of_getElem? (i := 213) rfl)) (hw _ (List.mem_of_getElem? (i := 69) rfl)) (notFace_of_selects (args := #[]) (mvT hZ (hw _ (List.mem_of_getElem? (i := 71) rfl)))) (hw _ (List.mem_of_getElem? (i := 71) rfl)) (hw _ (List.mem_of_getElem? (i := 70) rfl)) (hw _ (List.mem_of_getElem? (i := 23) rfl)) (hw _ (List.mem_of_getElem? (i := 72) rfl)) (by decide) (a := a) E (rm12 l Z a0 hw [] a cz b kb (4 : Int32) _ h0 n0 Z0 S0 hcz O E FV FC V) e0 (by rw [hml]; rfl) pd_6 rfl rfl i39_1 (by decide) 0 rfl (by decide) (by decide) (by decide) fun T1 v1 L1 X1 q1 => ?_
  obtain ⟨_, rfl, rfl, e1, N1⟩ := q1
  have N0 := Fr.app N0 N1
  show Gd p e below _ T1 (mkF m 4 #[.val (.ref a), .val (.ref ca), .val (.int (4 : Int32)), .unset] [(.int (4 : Int32))])
  refine g_iloadN X1 hx hby i39_4 rfl ?_
  refine g_icmp_eq X1 hx hby i39_5 (fun c5_2 => ?_) (fun c5_2 => False.elim (absurd c5_2 (by decide)))
  refine g_iconst X1 hx hby i39_10 (z := (1 : Int32)) (by decide) ?_
  refine g_istoreN X1 hx hby i39_11 (l' := #[.val (.ref a), .val (.ref ca), .val (.int (4 : Int32)), .val (.int (1 : Int32))]) rfl ?_
  refine g_iloadN X1 hx hby i39_12 rfl ?_
  refine g_if_le X1 hx hby i39_13 (fun c13_3 => False.elim (absurd c13_3 (by decide))) fun c13_3 => ?_
  refine g_iloadN X1 hx hby i39_16 rfl ?_
  refine g_if_eq X1 hx hby i39_17 (fun c17_4 => False.elim (absurd c17_4 (by decide))) fun c17_4 => ?_
  refine g_aloadN X1 hx hby i39_20 rfl rfl ?_
  refine g_iconst X1 hx hby i39_21 (z := (0 : Int32)) (by decide) ?_
  refine g_callV0 X1 hx hby hZ (y0 := (⟨"java/lang/String", "charAt", "(I)C"⟩ : MethodName)) (y := (⟨"java/lang/String", "charAt", "(I)C"⟩ : MethodName)) (argsL := [(.int (0 : Int32))]) (rest := []) hown (hw _ (List.mem_of_getElem? (i := 214) rfl)) (hw _ (List.mem_of_getElem? (i := 215) rfl)) (notFace_of_selects (args := #[]) (mvT hZ (hw _ (List.mem_of_getElem? (i := 217) rfl)))) (hw _ (List.mem_of_getElem? (i := 217) rfl)) (hw _ (List.mem_of_getElem? (i := 216) rfl)) (hw _ (List.mem_of_getElem? (i := 23) rfl)) (hw _ (List.mem_of_getElem? (i := 218) rfl)) (by decide) (a := a) E (rm40 l Z a0 hw [] a (0 : Int32) cz sv b kb (4 : Int32) _ 0 x0 h0 n0 Z0 S0 hcz O hsv S1 E FV FC V (by decide) (by decide) (by decide) rfl) e1 (by rw [hml]; rfl) pd_28 rfl rfl i39_22 (by decide) 0 rfl (by decide) (by decide) (by decide) fun T5 v5 L5 X5 q5 => ?_
  obtain ⟨_, rfl, rfl, e5, N5⟩ := q5
  have N0 := Fr.app N0 N5
  show Gd p e below _ T5 (mkF m 25 #[.val (.ref a), .val (.ref ca), .val (.int (4 : Int32)), .val (.int (1 : Int32))] [(.int (nar .char (nar .char ((x0 &&& (255 : Int32)).toUInt32.toUInt16.toUInt32.toInt32))))])
  refine g_aloadN X5 hx hby i39_25 rfl rfl ?_
  refine g_iconst X5 hx hby i39_26 (z := (0 : Int32)) (by decide) ?_
  refine g_caload X5 hx hby hZ e5 Vc (i := 0) (by decide) (by decide) (by decide) rfl i39_27 ?_
  refine g_icmp_ne X5 hx hby i39_28 (fun c28_6 => False.elim (c28_6 q0_)) fun c28_6 => ?_
  refine g_iconst X5 hx hby i39_31 (z := (1 : Int32)) (by decide) ?_
  refine g_goto X5 hx hby i39_32 ?_
  refine g_istoreN X5 hx hby i39_36 (l' := #[.val (.ref a), .val (.ref ca), .val (.int (4 : Int32)), .val (.int (1 : Int32))]) rfl ?_
  refine g_iloadN X5 hx hby i39_37 rfl ?_
  refine g_iconst X5 hx hby i39_38 (z := (1 : Int32)) (by decide) ?_
  refine g_icmp_le X5 hx hby i39_39 (fun c39_7 => False.elim (absurd c39_7 (by decide))) fun c39_7 => ?_
  refine g_iloadN X5 hx hby i39_42 rfl ?_
  refine g_if_eq X5 hx hby i39_43 (fun c43_8 => False.elim (absurd c43_8 (by decide))) fun c43_8 => ?_
  refine g_aloadN X5 hx hby i39_46 rfl rfl ?_
  refine g_iconst X5 hx hby i39_47 (z := (1 : Int32)) (by decide) ?_
  refine g_callV0 X5 hx hby hZ (y0 := (⟨"java/lang/String", "charAt", "(I)C"⟩ : MethodName)) (y := (⟨"java/lang/String", "charAt", "(I)C"⟩ : MethodName)) (argsL := [(.int (1 : Int32))]) (rest := []) hown (hw _ (List.mem_of_getElem? (i := 214) rfl)) (hw _ (List.mem_of_getElem? (i := 215) rfl)) (notFace_of_selects (args := #[]) (mvT hZ (hw _ (List.mem_of_getElem? (i := 217) rfl)))) (hw _ (List.mem_of_getElem? (i := 217) rfl)) (hw _ (List.mem_of_getElem? (i := 216) rfl)) (hw _ (List.mem_of_getElem? (i := 23) rfl)) (hw _ (List.mem_of_getElem? (i := 218) rfl)) (by decide) (a := a) E (rm40 l Z a0 hw [] a (1 : Int32) cz sv b kb (4 : Int32) _ 1 x1 h0 n0 Z0 S0 hcz O hsv S1 E FV FC V (by decide) (by decide) (by decide) rfl) e5 (by rw [hml]; rfl) pd_28 rfl rfl i39_48 (by decide) 0 rfl (by decide) (by decide) (by decide) fun T9 v9 L9 X9 q9 => ?_
  obtain ⟨_, rfl, rfl, e9, N9⟩ := q9
  have N0 := Fr.app N0 N9
  show Gd p e below _ T9 (mkF m 51 #[.val (.ref a), .val (.ref ca), .val (.int (4 : Int32)), .val (.int (1 : Int32))] [(.int (nar .char (nar .char ((x1 &&& (255 : Int32)).toUInt32.toUInt16.toUInt32.toInt32))))])
  refine g_aloadN X9 hx hby i39_51 rfl rfl ?_
  refine g_iconst X9 hx hby i39_52 (z := (1 : Int32)) (by decide) ?_
  refine g_caload X9 hx hby hZ e9 Vc (i := 1) (by decide) (by decide) (by decide) rfl i39_53 ?_
  refine g_icmp_ne X9 hx hby i39_54 (fun c54_10 => False.elim (c54_10 q1_)) fun c54_10 => ?_
  refine g_iconst X9 hx hby i39_57 (z := (1 : Int32)) (by decide) ?_
  refine g_goto X9 hx hby i39_58 ?_
  refine g_istoreN X9 hx hby i39_62 (l' := #[.val (.ref a), .val (.ref ca), .val (.int (4 : Int32)), .val (.int (1 : Int32))]) rfl ?_
  refine g_iloadN X9 hx hby i39_63 rfl ?_
  refine g_iconst X9 hx hby i39_64 (z := (2 : Int32)) (by decide) ?_
  refine g_icmp_le X9 hx hby i39_65 (fun c65_11 => False.elim (absurd c65_11 (by decide))) fun c65_11 => ?_
  refine g_iloadN X9 hx hby i39_68 rfl ?_
  refine g_if_eq X9 hx hby i39_69 (fun c69_12 => False.elim (absurd c69_12 (by decide))) fun c69_12 => ?_
  refine g_aloadN X9 hx hby i39_72 rfl rfl ?_
  refine g_iconst X9 hx hby i39_73 (z := (2 : Int32)) (by decide) ?_
  refine g_callV0 X9 hx hby hZ (y0 := (⟨"java/lang/String", "charAt", "(I)C"⟩ : MethodName)) (y := (⟨"java/lang/String", "charAt", "(I)C"⟩ : MethodName)) (argsL := [(.int (2 : Int32))]) (rest := []) hown (hw _ (List.mem_of_getElem? (i := 214) rfl)) (hw _ (List.mem_of_getElem? (i := 215) rfl)) (notFace_of_selects (args := #[]) (mvT hZ (hw _ (List.mem_of_getElem? (i := 217) rfl)))) (hw _ (List.mem_of_getElem? (i := 217) rfl)) (hw _ (List.mem_of_getElem? (i := 216) rfl)) (hw _ (List.mem_of_getElem? (i := 23) rfl)) (hw _ (List.mem_of_getElem? (i := 218) rfl)) (by decide) (a := a) E (rm40 l Z a0 hw [] a (2 : Int32) cz sv b kb (4 : Int32) _ 2 x2 h0 n0 Z0 S0 hcz O hsv S1 E FV FC V (by decide) (by decide) (by decide) rfl) e9 (by rw [hml]; rfl) pd_28 rfl rfl i39_74 (by decide) 0 rfl (by decide) (by decide) (by decide) fun T13 v13 L13 X13 q13 => ?_
  obtain ⟨_, rfl, rfl, e13, N13⟩ := q13
  have N0 := Fr.app N0 N13
  show Gd p e below _ T13 (mkF m 77 #[.val (.ref a), .val (.ref ca), .val (.int (4 : Int32)), .val (.int (1 : Int32))] [(.int (nar .char (nar .char ((x2 &&& (255 : Int32)).toUInt32.toUInt16.toUInt32.toInt32))))])
  refine g_aloadN X13 hx hby i39_77 rfl rfl ?_
  refine g_iconst X13 hx hby i39_78 (z := (2 : Int32)) (by decide) ?_
  refine g_caload X13 hx hby hZ e13 Vc (i := 2) (by decide) (by decide) (by decide) rfl i39_79 ?_
  refine g_icmp_ne X13 hx hby i39_80 (fun c80_14 => False.elim (c80_14 q2_)) fun c80_14 => ?_
  refine g_iconst X13 hx hby i39_83 (z := (1 : Int32)) (by decide) ?_
  refine g_goto X13 hx hby i39_84 ?_
  refine g_istoreN X13 hx hby i39_88 (l' := #[.val (.ref a), .val (.ref ca), .val (.int (4 : Int32)), .val (.int (1 : Int32))]) rfl ?_
  refine g_iloadN X13 hx hby i39_89 rfl ?_
  refine g_iconst X13 hx hby i39_90 (z := (3 : Int32)) (by decide) ?_
  refine g_icmp_le X13 hx hby i39_91 (fun c91_15 => False.elim (absurd c91_15 (by decide))) fun c91_15 => ?_
  refine g_iloadN X13 hx hby i39_94 rfl ?_
  refine g_if_eq X13 hx hby i39_95 (fun c95_16 => False.elim (absurd c95_16 (by decide))) fun c95_16 => ?_
  refine g_aloadN X13 hx hby i39_98 rfl rfl ?_
  refine g_iconst X13 hx hby i39_99 (z := (3 : Int32)) (by decide) ?_
  refine g_callV0 X13 hx hby hZ (y0 := (⟨"java/lang/String", "charAt", "(I)C"⟩ : MethodName)) (y := (⟨"java/lang/String", "charAt", "(I)C"⟩ : MethodName)) (argsL := [(.int (3 : Int32))]) (rest := []) hown (hw _ (List.mem_of_getElem? (i := 214) rfl)) (hw _ (List.mem_of_getElem? (i := 215) rfl)) (notFace_of_selects (args := #[]) (mvT hZ (hw _ (List.mem_of_getElem? (i := 217) rfl)))) (hw _ (List.mem_of_getElem? (i := 217) rfl)) (hw _ (List.mem_of_getElem? (i := 216) rfl)) (hw _ (List.mem_of_getElem? (i := 23) rfl)) (hw _ (List.mem_of_getElem? (i := 218) rfl)) (by decide) (a := a) E (rm40 l Z a0 hw [] a (3 : Int32) cz sv b kb (4 : Int32) _ 3 x3 h0 n0 Z0 S0 hcz O hsv S1 E FV FC V (by decide) (by decide) (by decide) rfl) e13 (by rw [hml]; rfl) pd_28 rfl rfl i39_100 (by decide) 0 rfl (by decide) (by decide) (by decide) fun T17 v17 L17 X17 q17 => ?_
  obtain ⟨_, rfl, rfl, e17, N17⟩ := q17
  have N0 := Fr.app N0 N17
  show Gd p e below _ T17 (mkF m 103 #[.val (.ref a), .val (.ref ca), .val (.int (4 : Int32)), .val (.int (1 : Int32))] [(.int (nar .char (nar .char ((x3 &&& (255 : Int32)).toUInt32.toUInt16.toUInt32.toInt32))))])
  refine g_aloadN X17 hx hby i39_103 rfl rfl ?_
  refine g_iconst X17 hx hby i39_104 (z := (3 : Int32)) (by decide) ?_
  refine g_caload X17 hx hby hZ e17 Vc (i := 3) (by decide) (by decide) (by decide) rfl i39_105 ?_
  refine g_icmp_ne X17 hx hby i39_106 (fun c106_18 => False.elim (c106_18 q3_)) fun c106_18 => ?_
  refine g_iconst X17 hx hby i39_109 (z := (1 : Int32)) (by decide) ?_
  refine g_goto X17 hx hby i39_110 ?_
  refine g_istoreN X17 hx hby i39_114 (l' := #[.val (.ref a), .val (.ref ca), .val (.int (4 : Int32)), .val (.int (1 : Int32))]) rfl ?_
  refine g_iloadN X17 hx hby i39_115 rfl ?_
  refine g_iconst X17 hx hby i39_116 (z := (4 : Int32)) (by decide) ?_
  refine g_icmp_le X17 hx hby i39_117 (fun c117_19 => ?_) (fun c117_19 => False.elim (absurd c117_19 (by decide)))
  refine g_iloadN X17 hx hby i39_141 rfl ?_
  refine g_iconst X17 hx hby i39_142 (z := (5 : Int32)) (by decide) ?_
  refine g_icmp_le X17 hx hby i39_143 (fun c143_20 => ?_) (fun c143_20 => False.elim (absurd c143_20 (by decide)))
  refine g_iloadN X17 hx hby i39_167 rfl ?_
  refine g_bipush X17 hx hby i39_168 (z := (6 : Int32)) (by decide) ?_
  refine g_icmp_le X17 hx hby i39_170 (fun c170_21 => ?_) (fun c170_21 => False.elim (absurd c170_21 (by decide)))
  refine g_iloadN X17 hx hby i39_196 rfl ?_
  refine g_bipush X17 hx hby i39_197 (z := (7 : Int32)) (by decide) ?_
  refine g_icmp_le X17 hx hby i39_199 (fun c199_22 => ?_) (fun c199_22 => False.elim (absurd c199_22 (by decide)))
  refine g_iloadN X17 hx hby i39_225 rfl ?_
  refine g_ireturnN X17 hx hby (ty := .boolean) hret (by simp) hlk i39_226 (by decide) (by decide) ?_
  exact ⟨_, rfl, rfl, e17, N0⟩
set_option maxRecDepth 65536 in
set_option maxHeartbeats 40000000 in
theorem rm39_8 (l : Launch) (Z : State) (a0 : Array Value) (hw : ∀ d ∈ tables_1, d.before a0 Z = true) (ws : List Jvm.Cond) (a : Addr) (ca : Addr) (p2 : Int32) (cz : Int32) (sv : Value) (b : Addr) (kb : ClassId) (x0 x1 x2 x3 x4 x5 x6 x7 : Int32) (kc : ClassId) (e_0 e_1 e_2 e_3 e_4 e_5 e_6 e_7 : Int32) (h0 : Heap) (n0 : Nat) (Z0 : n0 ≤ h0.size) (S0 : Sta Z Z.heap "java/lang/String" "COMPACT_STRINGS" "Z" (.int cz)) (hcz : ¬ cz = (0 : Int32)) (O : Old Z n0 h0) (hsv : sv.isRef = true) (S1 : Sta Z Z.heap "jdk/internal/util/Preconditions" "SIOOBE_FORMATTER" "Ljava/util/function/BiFunction;" sv) (E : Exa Z h0 a "java/lang/String") (FV : Fld Z h0 a "java/lang/String" "value" "[B" (.ref b)) (FC : Fld Z h0 a "java/lang/String" "coder" "B" (.int 0)) (V : Arv Z h0 b kb .byte (8 : Int32) [(.int x0), (.int x1), (.int x2), (.int x3), (.int x4), (.int x5), (.int x6), (.int x7)] (.int (0 : Int32))) (Vc : Arv Z h0 ca kc .char (8 : Int32) [(.int e_0), (.int e_1), (.int e_2), (.int e_3), (.int e_4), (.int e_5), (.int e_6), (.int e_7)] (.int (0 : Int32))) (hp2 : p2 = 8) (q0_ : nar .char (nar .char ((x0 &&& (255 : Int32)).toUInt32.toUInt16.toUInt32.toInt32)) = e_0) (q1_ : nar .char (nar .char ((x1 &&& (255 : Int32)).toUInt32.toUInt16.toUInt32.toInt32)) = e_1) (q2_ : nar .char (nar .char ((x2 &&& (255 : Int32)).toUInt32.toUInt16.toUInt32.toInt32)) = e_2) (q3_ : nar .char (nar .char ((x3 &&& (255 : Int32)).toUInt32.toUInt16.toUInt32.toInt32)) = e_3) (q4_ : nar .char (nar .char ((x4 &&& (255 : Int32)).toUInt32.toUInt16.toUInt32.toInt32)) = e_4) (q5_ : nar .char (nar .char ((x5 &&& (255 : Int32)).toUInt32.toUInt16.toUInt32.toInt32)) = e_5) (q6_ : nar .char (nar .char ((x6 &&& (255 : Int32)).toUInt32.toUInt16.toUInt32.toInt32)) = e_6) (q7_ : nar .char (nar .char ((x7 &&& (255 : Int32)).toUInt32.toUInt16.toUInt32.toInt32)) = e_7) :
    Met1 l (⟨"com/example/cloudgavel/cloudgavel/cli/ReportLinesPinLaw", "same", "(Ljava/lang/String;[CI)Z"⟩ : MethodName) method_3_code 4 (some .boolean) ws ({ frames := 4, cells := 0, slots := 0, locals := 53 } : Room) #[(.ref a), (.ref ca), (.int p2)] Z h0 (RV fun vv h L => vv = .int 1 ∧ h = h0 ∧ Fr n0 L) := by
  refine met_of (plainFor_of_name pn_com_example_cloudgavel_cloudgavel_cli_ReportLinesPinLaw) ?_
  intro p e s m below meth c T0 X0 hx hby hml hZ hown hnm hret hlk e0 es
  have N0 := Fr.nil n0
  refine Gd.cast (ef_39_0 m a ca p2) ?_
  subst hp2
  refine g_aloadN X0 hx hby i39_0 rfl rfl ?_
  refine g_callV0 X0 hx hby hZ (y0 := (⟨"java/lang/String", "length", "()I"⟩ : MethodName)) (y := (⟨"java/lang/String", "length", "()I"⟩ : MethodName)) (argsL := []) (rest := []) hown (hw _ (List.mem_of_getElem? (i := 213) rfl)) (hw _ (List.mem_of_getElem? (i := 69) rfl)) (notFace_of_selects (args := #[]) (mvT hZ (hw _ (List.mem_of_getElem? (i := 71) rfl)))) (hw _ (List.mem_of_getElem? (i := 71) rfl)) (hw _ (List.mem_of_getElem? (i := 70) rfl)) (hw _ (List.mem_of_getElem? (i := 23) rfl)) (hw _ (List.mem_of_getElem? (i := 72) rfl)) (by decide) (a := a) E (rm12 l Z a0 hw [] a cz b kb (8 : Int32) _ h0 n0 Z0 S0 hcz O E FV FC V) e0 (by rw [hml]; rfl) pd_6 rfl rfl i39_1 (by decide) 0 rfl (by decide) (by decide) (by decide) fun T1 v1 L1 X1 q1 => ?_
  obtain ⟨_, rfl, rfl, e1, N1⟩ := q1
  have N0 := Fr.app N0 N1
  show Gd p e below _ T1 (mkF m 4 #[.val (.ref a), .val (.ref ca), .val (.int (8 : Int32)), .unset] [(.int (8 : Int32))])
  refine g_iloadN X1 hx hby i39_4 rfl ?_
  refine g_icmp_eq X1 hx hby i39_5 (fun c5_2 => ?_) (fun c5_2 => False.elim (absurd c5_2 (by decide)))
  refine g_iconst X1 hx hby i39_10 (z := (1 : Int32)) (by decide) ?_
  refine g_istoreN X1 hx hby i39_11 (l' := #[.val (.ref a), .val (.ref ca), .val (.int (8 : Int32)), .val (.int (1 : Int32))]) rfl ?_
  refine g_iloadN X1 hx hby i39_12 rfl ?_
  refine g_if_le X1 hx hby i39_13 (fun c13_3 => False.elim (absurd c13_3 (by decide))) fun c13_3 => ?_
  refine g_iloadN X1 hx hby i39_16 rfl ?_
  refine g_if_eq X1 hx hby i39_17 (fun c17_4 => False.elim (absurd c17_4 (by decide))) fun c17_4 => ?_
  refine g_aloadN X1 hx hby i39_20 rfl rfl ?_
  refine g_iconst X1 hx hby i39_21 (z := (0 : Int32)) (by decide) ?_
  refine g_callV0 X1 hx hby hZ (y0 := (⟨"java/lang/String", "charAt", "(I)C"⟩ : MethodName)) (y := (⟨"java/lang/String", "charAt", "(I)C"⟩ : MethodName)) (argsL := [(.int (0 : Int32))]) (rest := []) hown (hw _ (List.mem_of_getElem? (i := 214) rfl)) (hw _ (List.mem_of_getElem? (i := 215) rfl)) (notFace_of_selects (args := #[]) (mvT hZ (hw _ (List.mem_of_getElem? (i := 217) rfl)))) (hw _ (List.mem_of_getElem? (i := 217) rfl)) (hw _ (List.mem_of_getElem? (i := 216) rfl)) (hw _ (List.mem_of_getElem? (i := 23) rfl)) (hw _ (List.mem_of_getElem? (i := 218) rfl)) (by decide) (a := a) E (rm40 l Z a0 hw [] a (0 : Int32) cz sv b kb (8 : Int32) _ 0 x0 h0 n0 Z0 S0 hcz O hsv S1 E FV FC V (by decide) (by decide) (by decide) rfl) e1 (by rw [hml]; rfl) pd_28 rfl rfl i39_22 (by decide) 0 rfl (by decide) (by decide) (by decide) fun T5 v5 L5 X5 q5 => ?_
  obtain ⟨_, rfl, rfl, e5, N5⟩ := q5
  have N0 := Fr.app N0 N5
  show Gd p e below _ T5 (mkF m 25 #[.val (.ref a), .val (.ref ca), .val (.int (8 : Int32)), .val (.int (1 : Int32))] [(.int (nar .char (nar .char ((x0 &&& (255 : Int32)).toUInt32.toUInt16.toUInt32.toInt32))))])
  refine g_aloadN X5 hx hby i39_25 rfl rfl ?_
  refine g_iconst X5 hx hby i39_26 (z := (0 : Int32)) (by decide) ?_
  refine g_caload X5 hx hby hZ e5 Vc (i := 0) (by decide) (by decide) (by decide) rfl i39_27 ?_
  refine g_icmp_ne X5 hx hby i39_28 (fun c28_6 => False.elim (c28_6 q0_)) fun c28_6 => ?_
  refine g_iconst X5 hx hby i39_31 (z := (1 : Int32)) (by decide) ?_
  refine g_goto X5 hx hby i39_32 ?_
  refine g_istoreN X5 hx hby i39_36 (l' := #[.val (.ref a), .val (.ref ca), .val (.int (8 : Int32)), .val (.int (1 : Int32))]) rfl ?_
  refine g_iloadN X5 hx hby i39_37 rfl ?_
  refine g_iconst X5 hx hby i39_38 (z := (1 : Int32)) (by decide) ?_
  refine g_icmp_le X5 hx hby i39_39 (fun c39_7 => False.elim (absurd c39_7 (by decide))) fun c39_7 => ?_
  refine g_iloadN X5 hx hby i39_42 rfl ?_
  refine g_if_eq X5 hx hby i39_43 (fun c43_8 => False.elim (absurd c43_8 (by decide))) fun c43_8 => ?_
  refine g_aloadN X5 hx hby i39_46 rfl rfl ?_
  refine g_iconst X5 hx hby i39_47 (z := (1 : Int32)) (by decide) ?_
  refine g_callV0 X5 hx hby hZ (y0 := (⟨"java/lang/String", "charAt", "(I)C"⟩ : MethodName)) (y := (⟨"java/lang/String", "charAt", "(I)C"⟩ : MethodName)) (argsL := [(.int (1 : Int32))]) (rest := []) hown (hw _ (List.mem_of_getElem? (i := 214) rfl)) (hw _ (List.mem_of_getElem? (i := 215) rfl)) (notFace_of_selects (args := #[]) (mvT hZ (hw _ (List.mem_of_getElem? (i := 217) rfl)))) (hw _ (List.mem_of_getElem? (i := 217) rfl)) (hw _ (List.mem_of_getElem? (i := 216) rfl)) (hw _ (List.mem_of_getElem? (i := 23) rfl)) (hw _ (List.mem_of_getElem? (i := 218) rfl)) (by decide) (a := a) E (rm40 l Z a0 hw [] a (1 : Int32) cz sv b kb (8 : Int32) _ 1 x1 h0 n0 Z0 S0 hcz O hsv S1 E FV FC V (by decide) (by decide) (by decide) rfl) e5 (by rw [hml]; rfl) pd_28 rfl rfl i39_48 (by decide) 0 rfl (by decide) (by decide) (by decide) fun T9 v9 L9 X9 q9 => ?_
  obtain ⟨_, rfl, rfl, e9, N9⟩ := q9
  have N0 := Fr.app N0 N9
  show Gd p e below _ T9 (mkF m 51 #[.val (.ref a), .val (.ref ca), .val (.int (8 : Int32)), .val (.int (1 : Int32))] [(.int (nar .char (nar .char ((x1 &&& (255 : Int32)).toUInt32.toUInt16.toUInt32.toInt32))))])
  refine g_aloadN X9 hx hby i39_51 rfl rfl ?_
  refine g_iconst X9 hx hby i39_52 (z := (1 : Int32)) (by decide) ?_
  refine g_caload X9 hx hby hZ e9 Vc (i := 1) (by decide) (by decide) (by decide) rfl i39_53 ?_
  refine g_icmp_ne X9 hx hby i39_54 (fun c54_10 => False.elim (c54_10 q1_)) fun c54_10 => ?_
  refine g_iconst X9 hx hby i39_57 (z := (1 : Int32)) (by decide) ?_
  refine g_goto X9 hx hby i39_58 ?_
  refine g_istoreN X9 hx hby i39_62 (l' := #[.val (.ref a), .val (.ref ca), .val (.int (8 : Int32)), .val (.int (1 : Int32))]) rfl ?_
  refine g_iloadN X9 hx hby i39_63 rfl ?_
  refine g_iconst X9 hx hby i39_64 (z := (2 : Int32)) (by decide) ?_
  refine g_icmp_le X9 hx hby i39_65 (fun c65_11 => False.elim (absurd c65_11 (by decide))) fun c65_11 => ?_
  refine g_iloadN X9 hx hby i39_68 rfl ?_
  refine g_if_eq X9 hx hby i39_69 (fun c69_12 => False.elim (absurd c69_12 (by decide))) fun c69_12 => ?_
  refine g_aloadN X9 hx hby i39_72 rfl rfl ?_
  refine g_iconst X9 hx hby i39_73 (z := (2 : Int32)) (by decide) ?_
  refine g_callV0 X9 hx hby hZ (y0 := (⟨"java/lang/String", "charAt", "(I)C"⟩ : MethodName)) (y := (⟨"java/lang/String", "charAt", "(I)C"⟩ : MethodName)) (argsL := [(.int (2 : Int32))]) (rest := []) hown (hw _ (List.mem_of_getElem? (i := 214) rfl)) (hw _ (List.mem_of_getElem? (i := 215) rfl)) (notFace_of_selects (args := #[]) (mvT hZ (hw _ (List.mem_of_getElem? (i := 217) rfl)))) (hw _ (List.mem_of_getElem? (i := 217) rfl)) (hw _ (List.mem_of_getElem? (i := 216) rfl)) (hw _ (List.mem_of_getElem? (i := 23) rfl)) (hw _ (List.mem_of_getElem? (i := 218) rfl)) (by decide) (a := a) E (rm40 l Z a0 hw [] a (2 : Int32) cz sv b kb (8 : Int32) _ 2 x2 h0 n0 Z0 S0 hcz O hsv S1 E FV FC V (by decide) (by decide) (by decide) rfl) e9 (by rw [hml]; rfl) pd_28 rfl rfl i39_74 (by decide) 0 rfl (by decide) (by decide) (by decide) fun T13 v13 L13 X13 q13 => ?_
  obtain ⟨_, rfl, rfl, e13, N13⟩ := q13
  have N0 := Fr.app N0 N13
  show Gd p e below _ T13 (mkF m 77 #[.val (.ref a), .val (.ref ca), .val (.int (8 : Int32)), .val (.int (1 : Int32))] [(.int (nar .char (nar .char ((x2 &&& (255 : Int32)).toUInt32.toUInt16.toUInt32.toInt32))))])
  refine g_aloadN X13 hx hby i39_77 rfl rfl ?_
  refine g_iconst X13 hx hby i39_78 (z := (2 : Int32)) (by decide) ?_
  refine g_caload X13 hx hby hZ e13 Vc (i := 2) (by decide) (by decide) (by decide) rfl i39_79 ?_
  refine g_icmp_ne X13 hx hby i39_80 (fun c80_14 => False.elim (c80_14 q2_)) fun c80_14 => ?_
  refine g_iconst X13 hx hby i39_83 (z := (1 : Int32)) (by decide) ?_
  refine g_goto X13 hx hby i39_84 ?_
  refine g_istoreN X13 hx hby i39_88 (l' := #[.val (.ref a), .val (.ref ca), .val (.int (8 : Int32)), .val (.int (1 : Int32))]) rfl ?_
  refine g_iloadN X13 hx hby i39_89 rfl ?_
  refine g_iconst X13 hx hby i39_90 (z := (3 : Int32)) (by decide) ?_
  refine g_icmp_le X13 hx hby i39_91 (fun c91_15 => False.elim (absurd c91_15 (by decide))) fun c91_15 => ?_
  refine g_iloadN X13 hx hby i39_94 rfl ?_
  refine g_if_eq X13 hx hby i39_95 (fun c95_16 => False.elim (absurd c95_16 (by decide))) fun c95_16 => ?_
  refine g_aloadN X13 hx hby i39_98 rfl rfl ?_
  refine g_iconst X13 hx hby i39_99 (z := (3 : Int32)) (by decide) ?_
  refine g_callV0 X13 hx hby hZ (y0 := (⟨"java/lang/String", "charAt", "(I)C"⟩ : MethodName)) (y := (⟨"java/lang/String", "charAt", "(I)C"⟩ : MethodName)) (argsL := [(.int (3 : Int32))]) (rest := []) hown (hw _ (List.mem_of_getElem? (i := 214) rfl)) (hw _ (List.mem_of_getElem? (i := 215) rfl)) (notFace_of_selects (args := #[]) (mvT hZ (hw _ (List.mem_of_getElem? (i := 217) rfl)))) (hw _ (List.mem_of_getElem? (i := 217) rfl)) (hw _ (List.mem_of_getElem? (i := 216) rfl)) (hw _ (List.mem_of_getElem? (i := 23) rfl)) (hw _ (List.mem_of_getElem? (i := 218) rfl)) (by decide) (a := a) E (rm40 l Z a0 hw [] a (3 : Int32) cz sv b kb (8 : Int32) _ 3 x3 h0 n0 Z0 S0 hcz O hsv S1 E FV FC V (by decide) (by decide) (by decide) rfl) e13 (by rw [hml]; rfl) pd_28 rfl rfl i39_100 (by decide) 0 rfl (by decide) (by decide) (by decide) fun T17 v17 L17 X17 q17 => ?_
  obtain ⟨_, rfl, rfl, e17, N17⟩ := q17
  have N0 := Fr.app N0 N17
  show Gd p e below _ T17 (mkF m 103 #[.val (.ref a), .val (.ref ca), .val (.int (8 : Int32)), .val (.int (1 : Int32))] [(.int (nar .char (nar .char ((x3 &&& (255 : Int32)).toUInt32.toUInt16.toUInt32.toInt32))))])
  refine g_aloadN X17 hx hby i39_103 rfl rfl ?_
  refine g_iconst X17 hx hby i39_104 (z := (3 : Int32)) (by decide) ?_
  refine g_caload X17 hx hby hZ e17 Vc (i := 3) (by decide) (by decide) (by decide) rfl i39_105 ?_
  refine g_icmp_ne X17 hx hby i39_106 (fun c106_18 => False.elim (c106_18 q3_)) fun c106_18 => ?_
  refine g_iconst X17 hx hby i39_109 (z := (1 : Int32)) (by decide) ?_
  refine g_goto X17 hx hby i39_110 ?_
  refine g_istoreN X17 hx hby i39_114 (l' := #[.val (.ref a), .val (.ref ca), .val (.int (8 : Int32)), .val (.int (1 : Int32))]) rfl ?_
  refine g_iloadN X17 hx hby i39_115 rfl ?_
  refine g_iconst X17 hx hby i39_116 (z := (4 : Int32)) (by decide) ?_
  refine g_icmp_le X17 hx hby i39_117 (fun c117_19 => False.elim (absurd c117_19 (by decide))) fun c117_19 => ?_
  refine g_iloadN X17 hx hby i39_120 rfl ?_
  refine g_if_eq X17 hx hby i39_121 (fun c121_20 => False.elim (absurd c121_20 (by decide))) fun c121_20 => ?_
  refine g_aloadN X17 hx hby i39_124 rfl rfl ?_
  refine g_iconst X17 hx hby i39_125 (z := (4 : Int32)) (by decide) ?_
  refine g_callV0 X17 hx hby hZ (y0 := (⟨"java/lang/String", "charAt", "(I)C"⟩ : MethodName)) (y := (⟨"java/lang/String", "charAt", "(I)C"⟩ : MethodName)) (argsL := [(.int (4 : Int32))]) (rest := []) hown (hw _ (List.mem_of_getElem? (i := 214) rfl)) (hw _ (List.mem_of_getElem? (i := 215) rfl)) (notFace_of_selects (args := #[]) (mvT hZ (hw _ (List.mem_of_getElem? (i := 217) rfl)))) (hw _ (List.mem_of_getElem? (i := 217) rfl)) (hw _ (List.mem_of_getElem? (i := 216) rfl)) (hw _ (List.mem_of_getElem? (i := 23) rfl)) (hw _ (List.mem_of_getElem? (i := 218) rfl)) (by decide) (a := a) E (rm40 l Z a0 hw [] a (4 : Int32) cz sv b kb (8 : Int32) _ 4 x4 h0 n0 Z0 S0 hcz O hsv S1 E FV FC V (by decide) (by decide) (by decide) rfl) e17 (by rw [hml]; rfl) pd_28 rfl rfl i39_126 (by decide) 0 rfl (by decide) (by decide) (by decide) fun T21 v21 L21 X21 q21 => ?_
  obtain ⟨_, rfl, rfl, e21, N21⟩ := q21
  have N0 := Fr.app N0 N21
  show Gd p e below _ T21 (mkF m 129 #[.val (.ref a), .val (.ref ca), .val (.int (8 : Int32)), .val (.int (1 : Int32))] [(.int (nar .char (nar .char ((x4 &&& (255 : Int32)).toUInt32.toUInt16.toUInt32.toInt32))))])
  refine g_aloadN X21 hx hby i39_129 rfl rfl ?_
  refine g_iconst X21 hx hby i39_130 (z := (4 : Int32)) (by decide) ?_
  refine g_caload X21 hx hby hZ e21 Vc (i := 4) (by decide) (by decide) (by decide) rfl i39_131 ?_
  refine g_icmp_ne X21 hx hby i39_132 (fun c132_22 => False.elim (c132_22 q4_)) fun c132_22 => ?_
  refine g_iconst X21 hx hby i39_135 (z := (1 : Int32)) (by decide) ?_
  refine g_goto X21 hx hby i39_136 ?_
  refine g_istoreN X21 hx hby i39_140 (l' := #[.val (.ref a), .val (.ref ca), .val (.int (8 : Int32)), .val (.int (1 : Int32))]) rfl ?_
  refine g_iloadN X21 hx hby i39_141 rfl ?_
  refine g_iconst X21 hx hby i39_142 (z := (5 : Int32)) (by decide) ?_
  refine g_icmp_le X21 hx hby i39_143 (fun c143_23 => False.elim (absurd c143_23 (by decide))) fun c143_23 => ?_
  refine g_iloadN X21 hx hby i39_146 rfl ?_
  refine g_if_eq X21 hx hby i39_147 (fun c147_24 => False.elim (absurd c147_24 (by decide))) fun c147_24 => ?_
  refine g_aloadN X21 hx hby i39_150 rfl rfl ?_
  refine g_iconst X21 hx hby i39_151 (z := (5 : Int32)) (by decide) ?_
  refine g_callV0 X21 hx hby hZ (y0 := (⟨"java/lang/String", "charAt", "(I)C"⟩ : MethodName)) (y := (⟨"java/lang/String", "charAt", "(I)C"⟩ : MethodName)) (argsL := [(.int (5 : Int32))]) (rest := []) hown (hw _ (List.mem_of_getElem? (i := 214) rfl)) (hw _ (List.mem_of_getElem? (i := 215) rfl)) (notFace_of_selects (args := #[]) (mvT hZ (hw _ (List.mem_of_getElem? (i := 217) rfl)))) (hw _ (List.mem_of_getElem? (i := 217) rfl)) (hw _ (List.mem_of_getElem? (i := 216) rfl)) (hw _ (List.mem_of_getElem? (i := 23) rfl)) (hw _ (List.mem_of_getElem? (i := 218) rfl)) (by decide) (a := a) E (rm40 l Z a0 hw [] a (5 : Int32) cz sv b kb (8 : Int32) _ 5 x5 h0 n0 Z0 S0 hcz O hsv S1 E FV FC V (by decide) (by decide) (by decide) rfl) e21 (by rw [hml]; rfl) pd_28 rfl rfl i39_152 (by decide) 0 rfl (by decide) (by decide) (by decide) fun T25 v25 L25 X25 q25 => ?_
  obtain ⟨_, rfl, rfl, e25, N25⟩ := q25
  have N0 := Fr.app N0 N25
  show Gd p e below _ T25 (mkF m 155 #[.val (.ref a), .val (.ref ca), .val (.int (8 : Int32)), .val (.int (1 : Int32))] [(.int (nar .char (nar .char ((x5 &&& (255 : Int32)).toUInt32.toUInt16.toUInt32.toInt32))))])
  refine g_aloadN X25 hx hby i39_155 rfl rfl ?_
  refine g_iconst X25 hx hby i39_156 (z := (5 : Int32)) (by decide) ?_
  refine g_caload X25 hx hby hZ e25 Vc (i := 5) (by decide) (by decide) (by decide) rfl i39_157 ?_
  refine g_icmp_ne X25 hx hby i39_158 (fun c158_26 => False.elim (c158_26 q5_)) fun c158_26 => ?_
  refine g_iconst X25 hx hby i39_161 (z := (1 : Int32)) (by decide) ?_
  refine g_goto X25 hx hby i39_162 ?_
  refine g_istoreN X25 hx hby i39_166 (l' := #[.val (.ref a), .val (.ref ca), .val (.int (8 : Int32)), .val (.int (1 : Int32))]) rfl ?_
  refine g_iloadN X25 hx hby i39_167 rfl ?_
  refine g_bipush X25 hx hby i39_168 (z := (6 : Int32)) (by decide) ?_
  refine g_icmp_le X25 hx hby i39_170 (fun c170_27 => False.elim (absurd c170_27 (by decide))) fun c170_27 => ?_
  refine g_iloadN X25 hx hby i39_173 rfl ?_
  refine g_if_eq X25 hx hby i39_174 (fun c174_28 => False.elim (absurd c174_28 (by decide))) fun c174_28 => ?_
  refine g_aloadN X25 hx hby i39_177 rfl rfl ?_
  refine g_bipush X25 hx hby i39_178 (z := (6 : Int32)) (by decide) ?_
  refine g_callV0 X25 hx hby hZ (y0 := (⟨"java/lang/String", "charAt", "(I)C"⟩ : MethodName)) (y := (⟨"java/lang/String", "charAt", "(I)C"⟩ : MethodName)) (argsL := [(.int (6 : Int32))]) (rest := []) hown (hw _ (List.mem_of_getElem? (i := 214) rfl)) (hw _ (List.mem_of_getElem? (i := 215) rfl)) (notFace_of_selects (args := #[]) (mvT hZ (hw _ (List.mem_of_getElem? (i := 217) rfl)))) (hw _ (List.mem_of_getElem? (i := 217) rfl)) (hw _ (List.mem_of_getElem? (i := 216) rfl)) (hw _ (List.mem_of_getElem? (i := 23) rfl)) (hw _ (List.mem_of_getElem? (i := 218) rfl)) (by decide) (a := a) E (rm40 l Z a0 hw [] a (6 : Int32) cz sv b kb (8 : Int32) _ 6 x6 h0 n0 Z0 S0 hcz O hsv S1 E FV FC V (by decide) (by decide) (by decide) rfl) e25 (by rw [hml]; rfl) pd_28 rfl rfl i39_180 (by decide) 0 rfl (by decide) (by decide) (by decide) fun T29 v29 L29 X29 q29 => ?_
  obtain ⟨_, rfl, rfl, e29, N29⟩ := q29
  have N0 := Fr.app N0 N29
  show Gd p e below _ T29 (mkF m 183 #[.val (.ref a), .val (.ref ca), .val (.int (8 : Int32)), .val (.int (1 : Int32))] [(.int (nar .char (nar .char ((x6 &&& (255 : Int32)).toUInt32.toUInt16.toUInt32.toInt32))))])
  refine g_aloadN X29 hx hby i39_183 rfl rfl ?_
  refine g_bipush X29 hx hby i39_184 (z := (6 : Int32)) (by decide) ?_
  refine g_caload X29 hx hby hZ e29 Vc (i := 6) (by decide) (by decide) (by decide) rfl i39_186 ?_
  refine g_icmp_ne X29 hx hby i39_187 (fun c187_30 => False.elim (c187_30 q6_)) fun c187_30 => ?_
  refine g_iconst X29 hx hby i39_190 (z := (1 : Int32)) (by decide) ?_
  refine g_goto X29 hx hby i39_191 ?_
  refine g_istoreN X29 hx hby i39_195 (l' := #[.val (.ref a), .val (.ref ca), .val (.int (8 : Int32)), .val (.int (1 : Int32))]) rfl ?_
  refine g_iloadN X29 hx hby i39_196 rfl ?_
  refine g_bipush X29 hx hby i39_197 (z := (7 : Int32)) (by decide) ?_
  refine g_icmp_le X29 hx hby i39_199 (fun c199_31 => False.elim (absurd c199_31 (by decide))) fun c199_31 => ?_
  refine g_iloadN X29 hx hby i39_202 rfl ?_
  refine g_if_eq X29 hx hby i39_203 (fun c203_32 => False.elim (absurd c203_32 (by decide))) fun c203_32 => ?_
  refine g_aloadN X29 hx hby i39_206 rfl rfl ?_
  refine g_bipush X29 hx hby i39_207 (z := (7 : Int32)) (by decide) ?_
  refine g_callV0 X29 hx hby hZ (y0 := (⟨"java/lang/String", "charAt", "(I)C"⟩ : MethodName)) (y := (⟨"java/lang/String", "charAt", "(I)C"⟩ : MethodName)) (argsL := [(.int (7 : Int32))]) (rest := []) hown (hw _ (List.mem_of_getElem? (i := 214) rfl)) (hw _ (List.mem_of_getElem? (i := 215) rfl)) (notFace_of_selects (args := #[]) (mvT hZ (hw _ (List.mem_of_getElem? (i := 217) rfl)))) (hw _ (List.mem_of_getElem? (i := 217) rfl)) (hw _ (List.mem_of_getElem? (i := 216) rfl)) (hw _ (List.mem_of_getElem? (i := 23) rfl)) (hw _ (List.mem_of_getElem? (i := 218) rfl)) (by decide) (a := a) E (rm40 l Z a0 hw [] a (7 : Int32) cz sv b kb (8 : Int32) _ 7 x7 h0 n0 Z0 S0 hcz O hsv S1 E FV FC V (by decide) (by decide) (by decide) rfl) e29 (by rw [hml]; rfl) pd_28 rfl rfl i39_209 (by decide) 0 rfl (by decide) (by decide) (by decide) fun T33 v33 L33 X33 q33 => ?_
  obtain ⟨_, rfl, rfl, e33, N33⟩ := q33
  have N0 := Fr.app N0 N33
  show Gd p e below _ T33 (mkF m 212 #[.val (.ref a), .val (.ref ca), .val (.int (8 : Int32)), .val (.int (1 : Int32))] [(.int (nar .char (nar .char ((x7 &&& (255 : Int32)).toUInt32.toUInt16.toUInt32.toInt32))))])
  refine g_aloadN X33 hx hby i39_212 rfl rfl ?_
  refine g_bipush X33 hx hby i39_213 (z := (7 : Int32)) (by decide) ?_
  refine g_caload X33 hx hby hZ e33 Vc (i := 7) (by decide) (by decide) (by decide) rfl i39_215 ?_
  refine g_icmp_ne X33 hx hby i39_216 (fun c216_34 => False.elim (c216_34 q7_)) fun c216_34 => ?_
  refine g_iconst X33 hx hby i39_219 (z := (1 : Int32)) (by decide) ?_
  refine g_goto X33 hx hby i39_220 ?_
  refine g_istoreN X33 hx hby i39_224 (l' := #[.val (.ref a), .val (.ref ca), .val (.int (8 : Int32)), .val (.int (1 : Int32))]) rfl ?_
  refine g_iloadN X33 hx hby i39_225 rfl ?_
  refine g_ireturnN X33 hx hby (ty := .boolean) hret (by simp) hlk i39_226 (by decide) (by decide) ?_
  exact ⟨_, rfl, rfl, e33, N0⟩
theorem i0_0 : Ins1 code 0 (.iload_n 2) 1 1 := ⟨at_0, rfl⟩
theorem i0_1 : Ins1 code 1 (.iconst 1) 1 2 := ⟨at_1, rfl⟩
theorem i0_2 : Ins1 code 2 (.iand) 1 3 := ⟨at_2, rfl⟩
theorem i0_3 : InsB code 3 (.ifCond .eq 7) 7 6 10 := ⟨at_3, rfl, by decide, by decide⟩
theorem i0_6 : Ins1 code 6 (.iconst 1) 1 7 := ⟨at_6, rfl⟩
theorem i0_7 : InsB code 7 (.goto 4) 4 10 11 := ⟨at_7, rfl, by decide, by decide⟩
theorem i0_10 : Ins1 code 10 (.iconst 0) 1 11 := ⟨at_10, rfl⟩
theorem i0_11 : Ins1 code 11 (.istore_n 3) 1 12 := ⟨at_11, rfl⟩
theorem i0_12 : Ins1 code 12 (.iload_n 2) 1 13 := ⟨at_12, rfl⟩
theorem i0_13 : Ins1 code 13 (.iconst 2) 1 14 := ⟨at_13, rfl⟩
theorem i0_14 : Ins1 code 14 (.iand) 1 15 := ⟨at_14, rfl⟩
theorem i0_15 : InsB code 15 (.ifCond .eq 7) 7 18 22 := ⟨at_15, rfl, by decide, by decide⟩
theorem i0_18 : Ins1 code 18 (.iconst 1) 1 19 := ⟨at_18, rfl⟩
theorem i0_19 : InsB code 19 (.goto 4) 4 22 23 := ⟨at_19, rfl, by decide, by decide⟩
theorem i0_22 : Ins1 code 22 (.iconst 0) 1 23 := ⟨at_22, rfl⟩
theorem i0_23 : Ins1 code 23 (.istore 4) 2 25 := ⟨at_23, rfl⟩
theorem i0_25 : Ins1 code 25 (.iload_n 0) 1 26 := ⟨at_25, rfl⟩
theorem i0_26 : Ins1 code 26 (.sipush 255) 3 29 := ⟨at_26, rfl⟩
theorem i0_29 : Ins1 code 29 (.iand) 1 30 := ⟨at_29, rfl⟩
theorem i0_30 : Ins1 code 30 (.i2c) 1 31 := ⟨at_30, rfl⟩
theorem i0_31 : Ins1 code 31 (.istore 5) 2 33 := ⟨at_31, rfl⟩
theorem i0_33 : Ins1 code 33 (.iload_n 0) 1 34 := ⟨at_33, rfl⟩
theorem i0_34 : Ins1 code 34 (.bipush 8) 2 36 := ⟨at_34, rfl⟩
theorem i0_36 : Ins1 code 36 (.iushr) 1 37 := ⟨at_36, rfl⟩
theorem i0_37 : Ins1 code 37 (.sipush 255) 3 40 := ⟨at_37, rfl⟩
theorem i0_40 : Ins1 code 40 (.iand) 1 41 := ⟨at_40, rfl⟩
theorem i0_41 : Ins1 code 41 (.i2c) 1 42 := ⟨at_41, rfl⟩
theorem i0_42 : Ins1 code 42 (.istore 6) 2 44 := ⟨at_42, rfl⟩
theorem i0_44 : Ins1 code 44 (.iload_n 1) 1 45 := ⟨at_44, rfl⟩
theorem i0_45 : Ins1 code 45 (.sipush 255) 3 48 := ⟨at_45, rfl⟩
theorem i0_48 : Ins1 code 48 (.iand) 1 49 := ⟨at_48, rfl⟩
theorem i0_49 : Ins1 code 49 (.i2c) 1 50 := ⟨at_49, rfl⟩
theorem i0_50 : Ins1 code 50 (.istore 7) 2 52 := ⟨at_50, rfl⟩
theorem i0_52 : Ins1 code 52 (.iload_n 1) 1 53 := ⟨at_52, rfl⟩
theorem i0_53 : Ins1 code 53 (.bipush 8) 2 55 := ⟨at_53, rfl⟩
theorem i0_55 : Ins1 code 55 (.iushr) 1 56 := ⟨at_55, rfl⟩
theorem i0_56 : Ins1 code 56 (.sipush 255) 3 59 := ⟨at_56, rfl⟩
theorem i0_59 : Ins1 code 59 (.iand) 1 60 := ⟨at_59, rfl⟩
theorem i0_60 : Ins1 code 60 (.i2c) 1 61 := ⟨at_60, rfl⟩
theorem i0_61 : Ins1 code 61 (.istore 8) 2 63 := ⟨at_61, rfl⟩
theorem i0_63 : Ins1 code 63 (.new 7) 3 66 := ⟨at_63, rfl⟩
theorem i0_66 : Ins1 code 66 (.dup) 1 67 := ⟨at_66, rfl⟩
theorem i0_67 : Ins1 code 67 (.invokespecial 9) 3 70 := ⟨at_67, rfl⟩
theorem i0_70 : Ins1 code 70 (.astore 9) 2 72 := ⟨at_70, rfl⟩
theorem i0_72 : Ins1 code 72 (.new 7) 3 75 := ⟨at_72, rfl⟩
theorem i0_75 : Ins1 code 75 (.dup) 1 76 := ⟨at_75, rfl⟩
theorem i0_76 : Ins1 code 76 (.invokespecial 9) 3 79 := ⟨at_76, rfl⟩
theorem i0_79 : Ins1 code 79 (.astore 10) 2 81 := ⟨at_79, rfl⟩
theorem i0_81 : Ins1 code 81 (.iload_n 3) 1 82 := ⟨at_81, rfl⟩
theorem i0_82 : InsB code 82 (.ifCond .eq 19) 19 85 101 := ⟨at_82, rfl, by decide, by decide⟩
theorem i0_85 : Ins1 code 85 (.aload 9) 2 87 := ⟨at_85, rfl⟩
theorem i0_87 : Ins1 code 87 (.iload 5) 2 89 := ⟨at_87, rfl⟩
theorem i0_89 : Ins1 code 89 (.invokestatic 10) 3 92 := ⟨at_89, rfl⟩
theorem i0_92 : Ins1 code 92 (.iload 6) 2 94 := ⟨at_92, rfl⟩
theorem i0_94 : Ins1 code 94 (.invokestatic 10) 3 97 := ⟨at_94, rfl⟩
theorem i0_97 : Ins1 code 97 (.invokevirtual 16) 3 100 := ⟨at_97, rfl⟩
theorem i0_100 : Ins1 code 100 (.pop) 1 101 := ⟨at_100, rfl⟩
theorem i0_101 : Ins1 code 101 (.iload 4) 2 103 := ⟨at_101, rfl⟩
theorem i0_103 : InsB code 103 (.ifCond .eq 19) 19 106 122 := ⟨at_103, rfl, by decide, by decide⟩
theorem i0_106 : Ins1 code 106 (.aload 10) 2 108 := ⟨at_106, rfl⟩
theorem i0_108 : Ins1 code 108 (.iload 7) 2 110 := ⟨at_108, rfl⟩
theorem i0_110 : Ins1 code 110 (.invokestatic 10) 3 113 := ⟨at_110, rfl⟩
theorem i0_113 : Ins1 code 113 (.iload 8) 2 115 := ⟨at_113, rfl⟩
theorem i0_115 : Ins1 code 115 (.invokestatic 10) 3 118 := ⟨at_115, rfl⟩
theorem i0_118 : Ins1 code 118 (.invokevirtual 16) 3 121 := ⟨at_118, rfl⟩
theorem i0_121 : Ins1 code 121 (.pop) 1 122 := ⟨at_121, rfl⟩
theorem i0_122 : Ins1 code 122 (.aload 9) 2 124 := ⟨at_122, rfl⟩
theorem i0_124 : Ins1 code 124 (.aload 10) 2 126 := ⟨at_124, rfl⟩
theorem i0_126 : Ins1 code 126 (.invokevirtual 20) 3 129 := ⟨at_126, rfl⟩
theorem i0_129 : Ins1 code 129 (.astore 11) 2 131 := ⟨at_129, rfl⟩
theorem i0_131 : Ins1 code 131 (.bipush 8) 2 133 := ⟨at_131, rfl⟩
theorem i0_133 : Ins1 code 133 (.newarray .char) 2 135 := ⟨at_133, rfl⟩
theorem i0_135 : Ins1 code 135 (.astore 12) 2 137 := ⟨at_135, rfl⟩
theorem i0_137 : Ins1 code 137 (.iconst 0) 1 138 := ⟨at_137, rfl⟩
theorem i0_138 : Ins1 code 138 (.istore 13) 2 140 := ⟨at_138, rfl⟩
theorem i0_140 : Ins1 code 140 (.iload_n 3) 1 141 := ⟨at_140, rfl⟩
theorem i0_141 : InsB code 141 (.ifCond .eq 30) 30 144 171 := ⟨at_141, rfl, by decide, by decide⟩
theorem i0_144 : Ins1 code 144 (.aload 12) 2 146 := ⟨at_144, rfl⟩
theorem i0_146 : Ins1 code 146 (.iconst 0) 1 147 := ⟨at_146, rfl⟩
theorem i0_147 : Ins1 code 147 (.iload 5) 2 149 := ⟨at_147, rfl⟩
theorem i0_149 : Ins1 code 149 (.castore) 1 150 := ⟨at_149, rfl⟩
theorem i0_150 : Ins1 code 150 (.aload 12) 2 152 := ⟨at_150, rfl⟩
theorem i0_152 : Ins1 code 152 (.iconst 1) 1 153 := ⟨at_152, rfl⟩
theorem i0_153 : Ins1 code 153 (.bipush 61) 2 155 := ⟨at_153, rfl⟩
theorem i0_155 : Ins1 code 155 (.castore) 1 156 := ⟨at_155, rfl⟩
theorem i0_156 : Ins1 code 156 (.aload 12) 2 158 := ⟨at_156, rfl⟩
theorem i0_158 : Ins1 code 158 (.iconst 2) 1 159 := ⟨at_158, rfl⟩
theorem i0_159 : Ins1 code 159 (.iload 6) 2 161 := ⟨at_159, rfl⟩
theorem i0_161 : Ins1 code 161 (.castore) 1 162 := ⟨at_161, rfl⟩
theorem i0_162 : Ins1 code 162 (.aload 12) 2 164 := ⟨at_162, rfl⟩
theorem i0_164 : Ins1 code 164 (.iconst 3) 1 165 := ⟨at_164, rfl⟩
theorem i0_165 : Ins1 code 165 (.bipush 10) 2 167 := ⟨at_165, rfl⟩
theorem i0_167 : Ins1 code 167 (.castore) 1 168 := ⟨at_167, rfl⟩
theorem i0_168 : Ins1 code 168 (.iconst 4) 1 169 := ⟨at_168, rfl⟩
theorem i0_169 : Ins1 code 169 (.istore 13) 2 171 := ⟨at_169, rfl⟩
theorem i0_171 : Ins1 code 171 (.iload 4) 2 173 := ⟨at_171, rfl⟩
theorem i0_173 : InsB code 173 (.ifCond .eq 43) 43 176 216 := ⟨at_173, rfl, by decide, by decide⟩
theorem i0_176 : Ins1 code 176 (.aload 12) 2 178 := ⟨at_176, rfl⟩
theorem i0_178 : Ins1 code 178 (.iload 13) 2 180 := ⟨at_178, rfl⟩
theorem i0_180 : Ins1 code 180 (.iload 7) 2 182 := ⟨at_180, rfl⟩
theorem i0_182 : Ins1 code 182 (.castore) 1 183 := ⟨at_182, rfl⟩
theorem i0_183 : Ins1 code 183 (.aload 12) 2 185 := ⟨at_183, rfl⟩
theorem i0_185 : Ins1 code 185 (.iload 13) 2 187 := ⟨at_185, rfl⟩
theorem i0_187 : Ins1 code 187 (.iconst 1) 1 188 := ⟨at_187, rfl⟩
theorem i0_188 : Ins1 code 188 (.iadd) 1 189 := ⟨at_188, rfl⟩
theorem i0_189 : Ins1 code 189 (.bipush 61) 2 191 := ⟨at_189, rfl⟩
theorem i0_191 : Ins1 code 191 (.castore) 1 192 := ⟨at_191, rfl⟩
theorem i0_192 : Ins1 code 192 (.aload 12) 2 194 := ⟨at_192, rfl⟩
theorem i0_194 : Ins1 code 194 (.iload 13) 2 196 := ⟨at_194, rfl⟩
theorem i0_196 : Ins1 code 196 (.iconst 2) 1 197 := ⟨at_196, rfl⟩
theorem i0_197 : Ins1 code 197 (.iadd) 1 198 := ⟨at_197, rfl⟩
theorem i0_198 : Ins1 code 198 (.iload 8) 2 200 := ⟨at_198, rfl⟩
theorem i0_200 : Ins1 code 200 (.castore) 1 201 := ⟨at_200, rfl⟩
theorem i0_201 : Ins1 code 201 (.aload 12) 2 203 := ⟨at_201, rfl⟩
theorem i0_203 : Ins1 code 203 (.iload 13) 2 205 := ⟨at_203, rfl⟩
theorem i0_205 : Ins1 code 205 (.iconst 3) 1 206 := ⟨at_205, rfl⟩
theorem i0_206 : Ins1 code 206 (.iadd) 1 207 := ⟨at_206, rfl⟩
theorem i0_207 : Ins1 code 207 (.bipush 10) 2 209 := ⟨at_207, rfl⟩
theorem i0_209 : Ins1 code 209 (.castore) 1 210 := ⟨at_209, rfl⟩
theorem i0_210 : Ins1 code 210 (.iload 13) 2 212 := ⟨at_210, rfl⟩
theorem i0_212 : Ins1 code 212 (.iconst 4) 1 213 := ⟨at_212, rfl⟩
theorem i0_213 : Ins1 code 213 (.iadd) 1 214 := ⟨at_213, rfl⟩
theorem i0_214 : Ins1 code 214 (.istore 13) 2 216 := ⟨at_214, rfl⟩
theorem i0_216 : Ins1 code 216 (.bipush 8) 2 218 := ⟨at_216, rfl⟩
theorem i0_218 : Ins1 code 218 (.newarray .char) 2 220 := ⟨at_218, rfl⟩
theorem i0_220 : Ins1 code 220 (.astore 14) 2 222 := ⟨at_220, rfl⟩
theorem i0_222 : Ins1 code 222 (.iconst 0) 1 223 := ⟨at_222, rfl⟩
theorem i0_223 : Ins1 code 223 (.istore 15) 2 225 := ⟨at_223, rfl⟩
theorem i0_225 : Ins1 code 225 (.iload 4) 2 227 := ⟨at_225, rfl⟩
theorem i0_227 : InsB code 227 (.ifCond .eq 30) 30 230 257 := ⟨at_227, rfl, by decide, by decide⟩
theorem i0_230 : Ins1 code 230 (.aload 14) 2 232 := ⟨at_230, rfl⟩
theorem i0_232 : Ins1 code 232 (.iconst 0) 1 233 := ⟨at_232, rfl⟩
theorem i0_233 : Ins1 code 233 (.iload 7) 2 235 := ⟨at_233, rfl⟩
theorem i0_235 : Ins1 code 235 (.castore) 1 236 := ⟨at_235, rfl⟩
theorem i0_236 : Ins1 code 236 (.aload 14) 2 238 := ⟨at_236, rfl⟩
theorem i0_238 : Ins1 code 238 (.iconst 1) 1 239 := ⟨at_238, rfl⟩
theorem i0_239 : Ins1 code 239 (.bipush 61) 2 241 := ⟨at_239, rfl⟩
theorem i0_241 : Ins1 code 241 (.castore) 1 242 := ⟨at_241, rfl⟩
theorem i0_242 : Ins1 code 242 (.aload 14) 2 244 := ⟨at_242, rfl⟩
theorem i0_244 : Ins1 code 244 (.iconst 2) 1 245 := ⟨at_244, rfl⟩
theorem i0_245 : Ins1 code 245 (.iload 8) 2 247 := ⟨at_245, rfl⟩
theorem i0_247 : Ins1 code 247 (.castore) 1 248 := ⟨at_247, rfl⟩
theorem i0_248 : Ins1 code 248 (.aload 14) 2 250 := ⟨at_248, rfl⟩
theorem i0_250 : Ins1 code 250 (.iconst 3) 1 251 := ⟨at_250, rfl⟩
theorem i0_251 : Ins1 code 251 (.bipush 10) 2 253 := ⟨at_251, rfl⟩
theorem i0_253 : Ins1 code 253 (.castore) 1 254 := ⟨at_253, rfl⟩
theorem i0_254 : Ins1 code 254 (.iconst 4) 1 255 := ⟨at_254, rfl⟩
theorem i0_255 : Ins1 code 255 (.istore 15) 2 257 := ⟨at_255, rfl⟩
theorem i0_257 : Ins1 code 257 (.aload 11) 2 259 := ⟨at_257, rfl⟩
theorem i0_259 : Ins1 code 259 (.aload 9) 2 261 := ⟨at_259, rfl⟩
theorem i0_261 : InsB code 261 (.if_acmp .ne 37) 37 264 298 := ⟨at_261, rfl, by decide, by decide⟩
theorem i0_264 : Ins1 code 264 (.aload 9) 2 266 := ⟨at_264, rfl⟩
theorem i0_266 : Ins1 code 266 (.invokevirtual 24) 3 269 := ⟨at_266, rfl⟩
theorem i0_269 : Ins1 code 269 (.aload 12) 2 271 := ⟨at_269, rfl⟩
theorem i0_271 : Ins1 code 271 (.iload 13) 2 273 := ⟨at_271, rfl⟩
theorem i0_273 : Ins1 code 273 (.invokestatic 28) 3 276 := ⟨at_273, rfl⟩
theorem i0_276 : InsB code 276 (.ifCond .eq 22) 22 279 298 := ⟨at_276, rfl, by decide, by decide⟩
theorem i0_279 : Ins1 code 279 (.aload 10) 2 281 := ⟨at_279, rfl⟩
theorem i0_281 : Ins1 code 281 (.invokevirtual 24) 3 284 := ⟨at_281, rfl⟩
theorem i0_284 : Ins1 code 284 (.aload 14) 2 286 := ⟨at_284, rfl⟩
theorem i0_286 : Ins1 code 286 (.iload 15) 2 288 := ⟨at_286, rfl⟩
theorem i0_288 : Ins1 code 288 (.invokestatic 28) 3 291 := ⟨at_288, rfl⟩
theorem i0_291 : InsB code 291 (.ifCond .eq 7) 7 294 298 := ⟨at_291, rfl, by decide, by decide⟩
theorem i0_294 : Ins1 code 294 (.iconst 1) 1 295 := ⟨at_294, rfl⟩
theorem i0_295 : InsB code 295 (.goto 4) 4 298 299 := ⟨at_295, rfl, by decide, by decide⟩
theorem i0_298 : Ins1 code 298 (.iconst 0) 1 299 := ⟨at_298, rfl⟩
theorem i0_299 : Ins1 code 299 (.ireturn) 1 300 := ⟨at_299, rfl⟩
theorem ef_0 (m : MethodId) (p0 : Int32) (p1 : Int32) (p2 : Int32) : entryFrame m #[(.int p0), (.int p1), (.int p2)] maxLocals = mkF m 0 #[.val (.int p0), .val (.int p1), .val (.int p2), .unset, .unset, .unset, .unset, .unset, .unset, .unset, .unset, .unset, .unset, .unset, .unset, .unset] [] := by first | (simp [entryFrame, mkF, argsToLocals, Value.category, maxLocals]; done) | rfl
theorem pd_29 : parseMethodDescriptor "(Lcom/example/cloudgavel/cloudgavel/cli/Report;)Lcom/example/cloudgavel/cloudgavel/cli/Report;" = some ⟨[(.object "com/example/cloudgavel/cloudgavel/cli/Report")], some (.object "com/example/cloudgavel/cloudgavel/cli/Report")⟩ := by decide +kernel
theorem pd_30 : parseMethodDescriptor "(Ljava/lang/String;[CI)Z" = some ⟨[(.object "java/lang/String"), (.array .char), .int], some .boolean⟩ := by decide +kernel
theorem pd_31 : parseMethodDescriptor "(C)Ljava/lang/String;" = some ⟨[.char], some (.object "java/lang/String")⟩ := by decide +kernel
theorem pd_32 : parseMethodDescriptor "(Ljava/lang/String;Ljava/lang/String;)Lcom/example/cloudgavel/cloudgavel/cli/Report;" = some ⟨[(.object "java/lang/String"), (.object "java/lang/String")], some (.object "com/example/cloudgavel/cloudgavel/cli/Report")⟩ := by decide +kernel
set_option maxRecDepth 65536 in
set_option maxHeartbeats 40000000 in
theorem rm0 (l : Launch) (Z : State) (a0 : Array Value) (hw : ∀ d ∈ tables_1, d.before a0 Z = true) (ws : List Jvm.Cond) (p0 : Int32) (p1 : Int32) (p2 : Int32) (cz : Int32) (sv : Value)  (h0 : Heap) (n0 : Nat) (Z0 : n0 ≤ h0.size) (S0 : Sta Z Z.heap "java/lang/String" "COMPACT_STRINGS" "Z" (.int cz)) (hcz : ¬ cz = (0 : Int32)) (O : Old Z n0 h0) (hsv : sv.isRef = true) (S1 : Sta Z Z.heap "jdk/internal/util/Preconditions" "SIOOBE_FORMATTER" "Ljava/util/function/BiFunction;" sv)  :
    Met1 l x code maxLocals ret ws room_1 #[(.int p0), (.int p1), (.int p2)] Z h0 (RV fun z _ L => z = .int 1 ∧ Fr n0 L) := by
  refine met_of (plainFor_of_name pn_com_example_cloudgavel_cloudgavel_cli_ReportLinesPinLaw) ?_
  intro p e s m below meth c T0 X0 hx hby hml hZ hown hnm hret hlk e0 es
  have N0 := Fr.nil n0
  refine Gd.cast (ef_0 m p0 p1 p2) ?_
  replace hown : s.vm.findClass "com/example/cloudgavel/cloudgavel/cli/ReportLinesPinLaw" = some m.cls := hown
  refine g_iloadN X0 hx hby i0_0 rfl ?_
  refine g_iconst X0 hx hby i0_1 (z := (1 : Int32)) (by decide) ?_
  refine g_iand X0 hx hby i0_2 ?_
  refine g_if_eq X0 hx hby i0_3 (fun c3_1 => ?_) (fun c3_1 => ?_)
  · refine g_iconst X0 hx hby i0_10 (z := (0 : Int32)) (by decide) ?_
    refine g_istoreN X0 hx hby i0_11 (l' := #[.val (.int p0), .val (.int p1), .val (.int p2), .val (.int (0 : Int32)), .unset, .unset, .unset, .unset, .unset, .unset, .unset, .unset, .unset, .unset, .unset, .unset]) rfl ?_
    refine g_iloadN X0 hx hby i0_12 rfl ?_
    refine g_iconst X0 hx hby i0_13 (z := (2 : Int32)) (by decide) ?_
    refine g_iand X0 hx hby i0_14 ?_
    refine g_if_eq X0 hx hby i0_15 (fun c15_2 => ?_) (fun c15_2 => ?_)
    · refine g_iconst X0 hx hby i0_22 (z := (0 : Int32)) (by decide) ?_
      refine g_istore X0 hx hby i0_23 (l' := #[.val (.int p0), .val (.int p1), .val (.int p2), .val (.int (0 : Int32)), .val (.int (0 : Int32)), .unset, .unset, .unset, .unset, .unset, .unset, .unset, .unset, .unset, .unset, .unset]) rfl ?_
      refine g_iloadN X0 hx hby i0_25 rfl ?_
      refine g_sipush X0 hx hby i0_26 (z := (255 : Int32)) (by decide) ?_
      refine g_iand X0 hx hby i0_29 ?_
      refine g_i2c X0 hx hby i0_30 ?_
      refine g_istoreW X0 hx hby i0_31 (l' := fun v3 => #[.val (.int p0), .val (.int p1), .val (.int p2), .val (.int (0 : Int32)), .val (.int (0 : Int32)), .val (.int v3), .unset, .unset, .unset, .unset, .unset, .unset, .unset, .unset, .unset, .unset]) (fun _ => rfl) fun v3 hv3 => ?_
      refine g_iloadN X0 hx hby i0_33 rfl ?_
      refine g_bipush X0 hx hby i0_34 (z := (8 : Int32)) (by decide) ?_
      refine g_iushr X0 hx hby i0_36 ?_
      refine g_sipush X0 hx hby i0_37 (z := (255 : Int32)) (by decide) ?_
      refine g_iand X0 hx hby i0_40 ?_
      refine g_i2c X0 hx hby i0_41 ?_
      refine g_istoreW X0 hx hby i0_42 (l' := fun v4 => #[.val (.int p0), .val (.int p1), .val (.int p2), .val (.int (0 : Int32)), .val (.int (0 : Int32)), .val (.int v3), .val (.int v4), .unset, .unset, .unset, .unset, .unset, .unset, .unset, .unset, .unset]) (fun _ => rfl) fun v4 hv4 => ?_
      refine g_iloadN X0 hx hby i0_44 rfl ?_
      refine g_sipush X0 hx hby i0_45 (z := (255 : Int32)) (by decide) ?_
      refine g_iand X0 hx hby i0_48 ?_
      refine g_i2c X0 hx hby i0_49 ?_
      refine g_istoreW X0 hx hby i0_50 (l' := fun v5 => #[.val (.int p0), .val (.int p1), .val (.int p2), .val (.int (0 : Int32)), .val (.int (0 : Int32)), .val (.int v3), .val (.int v4), .val (.int v5), .unset, .unset, .unset, .unset, .unset, .unset, .unset, .unset]) (fun _ => rfl) fun v5 hv5 => ?_
      refine g_iloadN X0 hx hby i0_52 rfl ?_
      refine g_bipush X0 hx hby i0_53 (z := (8 : Int32)) (by decide) ?_
      refine g_iushr X0 hx hby i0_55 ?_
      refine g_sipush X0 hx hby i0_56 (z := (255 : Int32)) (by decide) ?_
      refine g_iand X0 hx hby i0_59 ?_
      refine g_i2c X0 hx hby i0_60 ?_
      refine g_istoreW X0 hx hby i0_61 (l' := fun v6 => #[.val (.int p0), .val (.int p1), .val (.int p2), .val (.int (0 : Int32)), .val (.int (0 : Int32)), .val (.int v3), .val (.int v4), .val (.int v5), .val (.int v6), .unset, .unset, .unset, .unset, .unset, .unset, .unset]) (fun _ => rfl) fun v6 hv6 => ?_
      refine g_new X0 hx hby hZ hown (hw _ (List.mem_of_getElem? (i := 0) rfl)) (hw _ (List.mem_of_getElem? (i := 1) rfl)) (hw _ (List.mem_of_getElem? (i := 2) rfl)) e0 i0_63 (by decide) (by decide) fun T7 h7 b7 X7 e7 E7 hb7 A7 D7 => ?_
      have g_b7 : n0 ≤ b7 := Nat.le_trans Z0 (Nat.le_of_eq hb7.symm)
      have O := O.ext E7
      have Z0 : n0 ≤ h7.size := Nat.le_trans Z0 E7.1
      have F7_lines : Fld Z h7 b7 "com/example/cloudgavel/cloudgavel/cli/Report" "lines" "Ljava/lang/StringBuilder;" .null := D7 (Or.inr (hw _ (List.mem_of_getElem? (i := 30) rfl))) (ty := (.object "java/lang/StringBuilder")) (by decide)
      refine g_dup X7 hx hby i0_66 rfl ?_
      refine g_callInit0 X7 hx hby hZ (y := (⟨"com/example/cloudgavel/cloudgavel/cli/Report", "<init>", "()V"⟩ : MethodName)) (argsL := []) (rest := [(.ref b7)]) rfl hown (hw _ (List.mem_of_getElem? (i := 3) rfl)) (hw _ (List.mem_of_getElem? (i := 4) rfl)) (hw _ (List.mem_of_getElem? (i := 2) rfl)) (hw _ (List.mem_of_getElem? (i := 5) rfl)) (by decide) (a := b7) (rm1 l Z a0 hw [] b7 cz h7 n0 Z0 S0 hcz O A7 F7_lines g_b7) e7 (by rw [hml]; rfl) pd_14 rfl rfl i0_67 (by decide) 1 rfl (by decide) (by decide) (by decide) fun T8 v8 L8 X8 q8 => ?_
      obtain ⟨rfl, K8, a8, -, FL8, g_a8, sa8, b8, ne_a8_b8, kb8, E8, FV8, FC8, FN8, V8, FM8, g_b8, sb8, N8⟩ := q8
      have N0 := Fr.app N0 N8
      have ne_b7_a8 : b7 ≠ a8 := Nat.ne_of_lt (Nat.lt_of_lt_of_le A7.lt sa8)
      have ne_b7_b8 : b7 ≠ b8 := Nat.ne_of_lt (Nat.lt_of_lt_of_le A7.lt sb8)
      have A7 := A7.keep K8
      have O := O.keep K8 (allS g_b7 all0)
      have Z0 : n0 ≤ T8.heap.size := Nat.le_trans Z0 K8.1
      show Gd p e below _ T8 (mkF m 70 #[.val (.int p0), .val (.int p1), .val (.int p2), .val (.int (0 : Int32)), .val (.int (0 : Int32)), .val (.int v3), .val (.int v4), .val (.int v5), .val (.int v6), .unset, .unset, .unset, .unset, .unset, .unset, .unset] [(.ref b7)])
      refine g_astore X8 hx hby i0_70 rfl (l' := #[.val (.int p0), .val (.int p1), .val (.int p2), .val (.int (0 : Int32)), .val (.int (0 : Int32)), .val (.int v3), .val (.int v4), .val (.int v5), .val (.int v6), .val (.ref b7), .unset, .unset, .unset, .unset, .unset, .unset]) rfl ?_
      refine g_new X8 hx hby hZ hown (hw _ (List.mem_of_getElem? (i := 0) rfl)) (hw _ (List.mem_of_getElem? (i := 1) rfl)) (hw _ (List.mem_of_getElem? (i := 2) rfl)) rfl i0_72 (by decide) (by decide) fun T9 h9 b9 X9 e9 E9 hb9 A9 D9 => ?_
      have ne_b7_b9 : b7 ≠ b9 := Nat.ne_of_lt (Nat.lt_of_lt_of_le A7.lt (Nat.le_of_eq hb9.symm))
      have ne_a8_b9 : a8 ≠ b9 := Nat.ne_of_lt (Nat.lt_of_lt_of_le E8.lt (Nat.le_of_eq hb9.symm))
      have ne_b8_b9 : b8 ≠ b9 := Nat.ne_of_lt (Nat.lt_of_lt_of_le V8.lt (Nat.le_of_eq hb9.symm))
      have g_b9 : n0 ≤ b9 := Nat.le_trans Z0 (Nat.le_of_eq hb9.symm)
      have A7 := A7.ext E9
      have FL8 := FL8.ext E9
      have E8 := E8.ext E9
      have FV8 := FV8.ext E9
      have FC8 := FC8.ext E9
      have FN8 := FN8.ext E9
      have FM8 := FM8.ext E9
      have V8 := V8.ext E9
      have O := O.ext E9
      have Z0 : n0 ≤ h9.size := Nat.le_trans Z0 E9.1
      have F9_lines : Fld Z h9 b9 "com/example/cloudgavel/cloudgavel/cli/Report" "lines" "Ljava/lang/StringBuilder;" .null := D9 (Or.inr (hw _ (List.mem_of_getElem? (i := 30) rfl))) (ty := (.object "java/lang/StringBuilder")) (by decide)
      refine g_dup X9 hx hby i0_75 rfl ?_
      refine g_callInit0 X9 hx hby hZ (y := (⟨"com/example/cloudgavel/cloudgavel/cli/Report", "<init>", "()V"⟩ : MethodName)) (argsL := []) (rest := [(.ref b9)]) rfl hown (hw _ (List.mem_of_getElem? (i := 3) rfl)) (hw _ (List.mem_of_getElem? (i := 4) rfl)) (hw _ (List.mem_of_getElem? (i := 2) rfl)) (hw _ (List.mem_of_getElem? (i := 5) rfl)) (by decide) (a := b9) (rm1 l Z a0 hw [] b9 cz h9 n0 Z0 S0 hcz O A9 F9_lines g_b9) e9 (by rw [hml]; rfl) pd_14 rfl rfl i0_76 (by decide) 1 rfl (by decide) (by decide) (by decide) fun T10 v10 L10 X10 q10 => ?_
      obtain ⟨rfl, K10, a10, -, FL10, g_a10, sa10, b10, ne_a10_b10, kb10, E10, FV10, FC10, FN10, V10, FM10, g_b10, sb10, N10⟩ := q10
      have N0 := Fr.app N0 N10
      have ne_b7_a10 : b7 ≠ a10 := Nat.ne_of_lt (Nat.lt_of_lt_of_le A7.lt sa10)
      have ne_a8_a10 : a8 ≠ a10 := Nat.ne_of_lt (Nat.lt_of_lt_of_le E8.lt sa10)
      have ne_b8_a10 : b8 ≠ a10 := Nat.ne_of_lt (Nat.lt_of_lt_of_le V8.lt sa10)
      have ne_b9_a10 : b9 ≠ a10 := Nat.ne_of_lt (Nat.lt_of_lt_of_le A9.lt sa10)
      have ne_b7_b10 : b7 ≠ b10 := Nat.ne_of_lt (Nat.lt_of_lt_of_le A7.lt sb10)
      have ne_a8_b10 : a8 ≠ b10 := Nat.ne_of_lt (Nat.lt_of_lt_of_le E8.lt sb10)
      have ne_b8_b10 : b8 ≠ b10 := Nat.ne_of_lt (Nat.lt_of_lt_of_le V8.lt sb10)
      have ne_b9_b10 : b9 ≠ b10 := Nat.ne_of_lt (Nat.lt_of_lt_of_le A9.lt sb10)
      have A7 := A7.keep K10
      have FL8 := FL8.keep K10 (ninS ne_b7_b9 nin0)
      have E8 := E8.keep K10
      have FV8 := FV8.keep K10 (ninS ne_a8_b9 nin0)
      have FC8 := FC8.keep K10 (ninS ne_a8_b9 nin0)
      have FN8 := FN8.keep K10 (ninS ne_a8_b9 nin0)
      have FM8 := FM8.keep K10 (ninS ne_a8_b9 nin0)
      have V8 := V8.keep K10 (ninS ne_b8_b9 nin0)
      have A9 := A9.keep K10
      have O := O.keep K10 (allS g_b9 all0)
      have Z0 : n0 ≤ T10.heap.size := Nat.le_trans Z0 K10.1
      show Gd p e below _ T10 (mkF m 79 #[.val (.int p0), .val (.int p1), .val (.int p2), .val (.int (0 : Int32)), .val (.int (0 : Int32)), .val (.int v3), .val (.int v4), .val (.int v5), .val (.int v6), .val (.ref b7), .unset, .unset, .unset, .unset, .unset, .unset] [(.ref b9)])
      refine g_astore X10 hx hby i0_79 rfl (l' := #[.val (.int p0), .val (.int p1), .val (.int p2), .val (.int (0 : Int32)), .val (.int (0 : Int32)), .val (.int v3), .val (.int v4), .val (.int v5), .val (.int v6), .val (.ref b7), .val (.ref b9), .unset, .unset, .unset, .unset, .unset]) rfl ?_
      refine g_iloadN X10 hx hby i0_81 rfl ?_
      refine g_if_eq X10 hx hby i0_82 (fun c82_11 => ?_) (fun c82_11 => False.elim (absurd c82_11 (by decide)))
      refine g_iload X10 hx hby i0_101 rfl ?_
      refine g_if_eq X10 hx hby i0_103 (fun c103_12 => ?_) (fun c103_12 => False.elim (absurd c103_12 (by decide)))
      refine g_aload X10 hx hby i0_122 rfl rfl ?_
      refine g_aload X10 hx hby i0_124 rfl rfl ?_
      refine g_callV0 X10 hx hby hZ (y0 := (⟨"com/example/cloudgavel/cloudgavel/cli/Report", "lines", "(Lcom/example/cloudgavel/cloudgavel/cli/Report;)Lcom/example/cloudgavel/cloudgavel/cli/Report;"⟩ : MethodName)) (y := (⟨"com/example/cloudgavel/cloudgavel/cli/Report", "lines", "(Lcom/example/cloudgavel/cloudgavel/cli/Report;)Lcom/example/cloudgavel/cloudgavel/cli/Report;"⟩ : MethodName)) (argsL := [(.ref b9)]) (rest := []) hown (hw _ (List.mem_of_getElem? (i := 120) rfl)) (hw _ (List.mem_of_getElem? (i := 121) rfl)) (notFace_of_selects (args := #[]) (mvT hZ (hw _ (List.mem_of_getElem? (i := 123) rfl)))) (hw _ (List.mem_of_getElem? (i := 123) rfl)) (hw _ (List.mem_of_getElem? (i := 122) rfl)) (hw _ (List.mem_of_getElem? (i := 2) rfl)) (hw _ (List.mem_of_getElem? (i := 124) rfl)) (by decide) (a := b7) A7 (rm21 l Z a0 hw [] b7 b9 cz a8 b8 kb8 _ (0 : Int32) a10 b10 kb10 _ (0 : Int32) 0 0 T10.heap n0 Z0 S0 hcz O FL8 FL10 E8 FV8 FC8 FN8 V8 FM8 E10 FV10 FC10 FN10 V10 FM10 g_a8 g_b8 ne_a8_b8 (Ne.symm ne_a8_a10) (Ne.symm ne_b8_a10) (Ne.symm ne_a8_b10) (Ne.symm ne_b8_b10) (by decide) (by decide) (by decide) (by decide) (by decide) (by decide) rfl (by decide) (by decide) ne_b7_a8 ne_b7_b8 (Ne.symm ne_a8_b9) (Ne.symm ne_b8_b9)) rfl (by rw [hml]; rfl) pd_29 rfl rfl i0_126 (by decide) 0 rfl (by decide) (by decide) (by decide) fun T13 v13 L13 X13 q13 => ?_
      obtain ⟨_, rfl, rfl, K13, E13, FV13, FC13, FN13, V13, FM13, N13⟩ := q13
      have N0 := Fr.app N0 N13
      have A7 := A7.keep K13
      have FL8 := FL8.keep K13 (ninS ne_b7_a8 (ninS ne_b7_b8 nin0))
      have E8 := E8.keep K13
      have A9 := A9.keep K13
      have FL10 := FL10.keep K13 (ninS (Ne.symm ne_a8_b9) (ninS (Ne.symm ne_b8_b9) nin0))
      have E10 := E10.keep K13
      have FV10 := FV10.keep K13 (ninS (Ne.symm ne_a8_a10) (ninS (Ne.symm ne_b8_a10) nin0))
      have FC10 := FC10.keep K13 (ninS (Ne.symm ne_a8_a10) (ninS (Ne.symm ne_b8_a10) nin0))
      have FN10 := FN10.keep K13 (ninS (Ne.symm ne_a8_a10) (ninS (Ne.symm ne_b8_a10) nin0))
      have FM10 := FM10.keep K13 (ninS (Ne.symm ne_a8_a10) (ninS (Ne.symm ne_b8_a10) nin0))
      have V10 := V10.keep K13 (ninS (Ne.symm ne_a8_b10) (ninS (Ne.symm ne_b8_b10) nin0))
      have O := O.keep K13 (allS g_a8 (allS g_b8 all0))
      have Z0 : n0 ≤ T13.heap.size := Nat.le_trans Z0 K13.1
      rw [show (0 : Int32) + (0 : Int32) = (0 : Int32) from by decide] at FN13
      have V13 : Arv Z T13.heap b8 kb8 .byte (16 : Int32) [(.int (0 : Int32)), (.int (0 : Int32)), (.int (0 : Int32)), (.int (0 : Int32)), (.int (0 : Int32)), (.int (0 : Int32)), (.int (0 : Int32)), (.int (0 : Int32)), (.int (0 : Int32)), (.int (0 : Int32)), (.int (0 : Int32)), (.int (0 : Int32)), (.int (0 : Int32)), (.int (0 : Int32)), (.int (0 : Int32)), (.int (0 : Int32))] (.int (0 : Int32)) := V13
      show Gd p e below _ T13 (mkF m 129 #[.val (.int p0), .val (.int p1), .val (.int p2), .val (.int (0 : Int32)), .val (.int (0 : Int32)), .val (.int v3), .val (.int v4), .val (.int v5), .val (.int v6), .val (.ref b7), .val (.ref b9), .unset, .unset, .unset, .unset, .unset] [(.ref b7)])
      refine g_astore X13 hx hby i0_129 rfl (l' := #[.val (.int p0), .val (.int p1), .val (.int p2), .val (.int (0 : Int32)), .val (.int (0 : Int32)), .val (.int v3), .val (.int v4), .val (.int v5), .val (.int v6), .val (.ref b7), .val (.ref b9), .val (.ref b7), .unset, .unset, .unset, .unset]) rfl ?_
      refine g_bipush X13 hx hby i0_131 (z := (8 : Int32)) (by decide) ?_
      refine g_newarray X13 hx hby hZ (ty := .char) rfl (hw _ (List.mem_of_getElem? (i := 169) rfl)) rfl i0_133 (by decide) 8 (by decide) (by decide) (by decide) (by decide) fun T14 h14 b14 k14 X14 e14 E14 hb14 V14 => ?_
      have ne_b7_b14 : b7 ≠ b14 := Nat.ne_of_lt (Nat.lt_of_lt_of_le A7.lt (Nat.le_of_eq hb14.symm))
      have ne_a8_b14 : a8 ≠ b14 := Nat.ne_of_lt (Nat.lt_of_lt_of_le E8.lt (Nat.le_of_eq hb14.symm))
      have ne_b9_b14 : b9 ≠ b14 := Nat.ne_of_lt (Nat.lt_of_lt_of_le A9.lt (Nat.le_of_eq hb14.symm))
      have ne_a10_b14 : a10 ≠ b14 := Nat.ne_of_lt (Nat.lt_of_lt_of_le E10.lt (Nat.le_of_eq hb14.symm))
      have ne_b10_b14 : b10 ≠ b14 := Nat.ne_of_lt (Nat.lt_of_lt_of_le V10.lt (Nat.le_of_eq hb14.symm))
      have ne_b8_b14 : b8 ≠ b14 := Nat.ne_of_lt (Nat.lt_of_lt_of_le V13.lt (Nat.le_of_eq hb14.symm))
      have g_b14 : n0 ≤ b14 := Nat.le_trans Z0 (Nat.le_of_eq hb14.symm)
      have A7 := A7.ext E14
      have FL8 := FL8.ext E14
      have E8 := E8.ext E14
      have A9 := A9.ext E14
      have FL10 := FL10.ext E14
      have E10 := E10.ext E14
      have FV10 := FV10.ext E14
      have FC10 := FC10.ext E14
      have FN10 := FN10.ext E14
      have FM10 := FM10.ext E14
      have V10 := V10.ext E14
      have FV13 := FV13.ext E14
      have FC13 := FC13.ext E14
      have FN13 := FN13.ext E14
      have FM13 := FM13.ext E14
      have V13 := V13.ext E14
      have O := O.ext E14
      have Z0 : n0 ≤ h14.size := Nat.le_trans Z0 E14.1
      have V14 : Arv Z h14 b14 k14 .char (8 : Int32) [(.int (0 : Int32)), (.int (0 : Int32)), (.int (0 : Int32)), (.int (0 : Int32)), (.int (0 : Int32)), (.int (0 : Int32)), (.int (0 : Int32)), (.int (0 : Int32))] (.int (0 : Int32)) := V14.pad (pad_rep [] _ 8)
      refine g_astore X14 hx hby i0_135 rfl (l' := #[.val (.int p0), .val (.int p1), .val (.int p2), .val (.int (0 : Int32)), .val (.int (0 : Int32)), .val (.int v3), .val (.int v4), .val (.int v5), .val (.int v6), .val (.ref b7), .val (.ref b9), .val (.ref b7), .val (.ref b14), .unset, .unset, .unset]) rfl ?_
      refine g_iconst X14 hx hby i0_137 (z := (0 : Int32)) (by decide) ?_
      refine g_istore X14 hx hby i0_138 (l' := #[.val (.int p0), .val (.int p1), .val (.int p2), .val (.int (0 : Int32)), .val (.int (0 : Int32)), .val (.int v3), .val (.int v4), .val (.int v5), .val (.int v6), .val (.ref b7), .val (.ref b9), .val (.ref b7), .val (.ref b14), .val (.int (0 : Int32)), .unset, .unset]) rfl ?_
      refine g_iloadN X14 hx hby i0_140 rfl ?_
      refine g_if_eq X14 hx hby i0_141 (fun c141_15 => ?_) (fun c141_15 => False.elim (absurd c141_15 (by decide)))
      refine g_iload X14 hx hby i0_171 rfl ?_
      refine g_if_eq X14 hx hby i0_173 (fun c173_16 => ?_) (fun c173_16 => False.elim (absurd c173_16 (by decide)))
      refine g_bipush X14 hx hby i0_216 (z := (8 : Int32)) (by decide) ?_
      refine g_newarray X14 hx hby hZ (ty := .char) rfl (hw _ (List.mem_of_getElem? (i := 169) rfl)) e14 i0_218 (by decide) 8 (by decide) (by decide) (by decide) (by decide) fun T17 h17 b17 k17 X17 e17 E17 hb17 V17 => ?_
      have ne_b7_b17 : b7 ≠ b17 := Nat.ne_of_lt (Nat.lt_of_lt_of_le A7.lt (Nat.le_of_eq hb17.symm))
      have ne_a8_b17 : a8 ≠ b17 := Nat.ne_of_lt (Nat.lt_of_lt_of_le E8.lt (Nat.le_of_eq hb17.symm))
      have ne_b9_b17 : b9 ≠ b17 := Nat.ne_of_lt (Nat.lt_of_lt_of_le A9.lt (Nat.le_of_eq hb17.symm))
      have ne_a10_b17 : a10 ≠ b17 := Nat.ne_of_lt (Nat.lt_of_lt_of_le E10.lt (Nat.le_of_eq hb17.symm))
      have ne_b10_b17 : b10 ≠ b17 := Nat.ne_of_lt (Nat.lt_of_lt_of_le V10.lt (Nat.le_of_eq hb17.symm))
      have ne_b8_b17 : b8 ≠ b17 := Nat.ne_of_lt (Nat.lt_of_lt_of_le V13.lt (Nat.le_of_eq hb17.symm))
      have ne_b14_b17 : b14 ≠ b17 := Nat.ne_of_lt (Nat.lt_of_lt_of_le V14.lt (Nat.le_of_eq hb17.symm))
      have g_b17 : n0 ≤ b17 := Nat.le_trans Z0 (Nat.le_of_eq hb17.symm)
      have A7 := A7.ext E17
      have FL8 := FL8.ext E17
      have E8 := E8.ext E17
      have A9 := A9.ext E17
      have FL10 := FL10.ext E17
      have E10 := E10.ext E17
      have FV10 := FV10.ext E17
      have FC10 := FC10.ext E17
      have FN10 := FN10.ext E17
      have FM10 := FM10.ext E17
      have V10 := V10.ext E17
      have FV13 := FV13.ext E17
      have FC13 := FC13.ext E17
      have FN13 := FN13.ext E17
      have FM13 := FM13.ext E17
      have V13 := V13.ext E17
      have V14 := V14.ext E17
      have O := O.ext E17
      have Z0 : n0 ≤ h17.size := Nat.le_trans Z0 E17.1
      have V17 : Arv Z h17 b17 k17 .char (8 : Int32) [(.int (0 : Int32)), (.int (0 : Int32)), (.int (0 : Int32)), (.int (0 : Int32)), (.int (0 : Int32)), (.int (0 : Int32)), (.int (0 : Int32)), (.int (0 : Int32))] (.int (0 : Int32)) := V17.pad (pad_rep [] _ 8)
      refine g_astore X17 hx hby i0_220 rfl (l' := #[.val (.int p0), .val (.int p1), .val (.int p2), .val (.int (0 : Int32)), .val (.int (0 : Int32)), .val (.int v3), .val (.int v4), .val (.int v5), .val (.int v6), .val (.ref b7), .val (.ref b9), .val (.ref b7), .val (.ref b14), .val (.int (0 : Int32)), .val (.ref b17), .unset]) rfl ?_
      refine g_iconst X17 hx hby i0_222 (z := (0 : Int32)) (by decide) ?_
      refine g_istore X17 hx hby i0_223 (l' := #[.val (.int p0), .val (.int p1), .val (.int p2), .val (.int (0 : Int32)), .val (.int (0 : Int32)), .val (.int v3), .val (.int v4), .val (.int v5), .val (.int v6), .val (.ref b7), .val (.ref b9), .val (.ref b7), .val (.ref b14), .val (.int (0 : Int32)), .val (.ref b17), .val (.int (0 : Int32))]) rfl ?_
      refine g_iload X17 hx hby i0_225 rfl ?_
      refine g_if_eq X17 hx hby i0_227 (fun c227_18 => ?_) (fun c227_18 => False.elim (absurd c227_18 (by decide)))
      refine g_aload X17 hx hby i0_257 rfl rfl ?_
      refine g_aload X17 hx hby i0_259 rfl rfl ?_
      refine g_acmp_ne X17 hx hby i0_261 rfl rfl (fun c261_19 => False.elim (c261_19 rfl)) fun c261_19 => ?_
      refine g_aload X17 hx hby i0_264 rfl rfl ?_
      refine g_callV0 X17 hx hby hZ (y0 := (⟨"com/example/cloudgavel/cloudgavel/cli/Report", "toString", "()Ljava/lang/String;"⟩ : MethodName)) (y := (⟨"com/example/cloudgavel/cloudgavel/cli/Report", "toString", "()Ljava/lang/String;"⟩ : MethodName)) (argsL := []) (rest := []) hown (hw _ (List.mem_of_getElem? (i := 170) rfl)) (hw _ (List.mem_of_getElem? (i := 171) rfl)) (notFace_of_selects (args := #[]) (mvT hZ (hw _ (List.mem_of_getElem? (i := 173) rfl)))) (hw _ (List.mem_of_getElem? (i := 173) rfl)) (hw _ (List.mem_of_getElem? (i := 172) rfl)) (hw _ (List.mem_of_getElem? (i := 2) rfl)) (hw _ (List.mem_of_getElem? (i := 174) rfl)) (by decide) (a := b7) A7 (rm30 l Z a0 hw [] b7 cz a8 b8 kb8 _ (0 : Int32) 0 h17 n0 Z0 S0 hcz O FL8 E8 FV13 FC13 FN13 V13 (by decide) (by decide) (by decide) (by decide)) e17 (by rw [hml]; rfl) pd_25 rfl rfl i0_266 (by decide) 0 rfl (by decide) (by decide) (by decide) fun T20 v20 L20 X20 q20 => ?_
      obtain ⟨_, rfl, K20, t20, tb20, kt20, rfl, g_t20, st20, E20, FV20, FC20, V20, g_tb20, stb20, ne_t20_tb20, N20⟩ := q20
      have N0 := Fr.app N0 N20
      have ne_b7_t20 : b7 ≠ t20 := Nat.ne_of_lt (Nat.lt_of_lt_of_le A7.lt st20)
      have ne_a8_t20 : a8 ≠ t20 := Nat.ne_of_lt (Nat.lt_of_lt_of_le E8.lt st20)
      have ne_b9_t20 : b9 ≠ t20 := Nat.ne_of_lt (Nat.lt_of_lt_of_le A9.lt st20)
      have ne_a10_t20 : a10 ≠ t20 := Nat.ne_of_lt (Nat.lt_of_lt_of_le E10.lt st20)
      have ne_b10_t20 : b10 ≠ t20 := Nat.ne_of_lt (Nat.lt_of_lt_of_le V10.lt st20)
      have ne_b8_t20 : b8 ≠ t20 := Nat.ne_of_lt (Nat.lt_of_lt_of_le V13.lt st20)
      have ne_b14_t20 : b14 ≠ t20 := Nat.ne_of_lt (Nat.lt_of_lt_of_le V14.lt st20)
      have ne_b17_t20 : b17 ≠ t20 := Nat.ne_of_lt (Nat.lt_of_lt_of_le V17.lt st20)
      have ne_b7_tb20 : b7 ≠ tb20 := Nat.ne_of_lt (Nat.lt_of_lt_of_le A7.lt stb20)
      have ne_a8_tb20 : a8 ≠ tb20 := Nat.ne_of_lt (Nat.lt_of_lt_of_le E8.lt stb20)
      have ne_b9_tb20 : b9 ≠ tb20 := Nat.ne_of_lt (Nat.lt_of_lt_of_le A9.lt stb20)
      have ne_a10_tb20 : a10 ≠ tb20 := Nat.ne_of_lt (Nat.lt_of_lt_of_le E10.lt stb20)
      have ne_b10_tb20 : b10 ≠ tb20 := Nat.ne_of_lt (Nat.lt_of_lt_of_le V10.lt stb20)
      have ne_b8_tb20 : b8 ≠ tb20 := Nat.ne_of_lt (Nat.lt_of_lt_of_le V13.lt stb20)
      have ne_b14_tb20 : b14 ≠ tb20 := Nat.ne_of_lt (Nat.lt_of_lt_of_le V14.lt stb20)
      have ne_b17_tb20 : b17 ≠ tb20 := Nat.ne_of_lt (Nat.lt_of_lt_of_le V17.lt stb20)
      have A7 := A7.keep K20
      have FL8 := FL8.keep K20 nin0
      have E8 := E8.keep K20
      have A9 := A9.keep K20
      have FL10 := FL10.keep K20 nin0
      have E10 := E10.keep K20
      have FV10 := FV10.keep K20 nin0
      have FC10 := FC10.keep K20 nin0
      have FN10 := FN10.keep K20 nin0
      have FM10 := FM10.keep K20 nin0
      have V10 := V10.keep K20 nin0
      have FV13 := FV13.keep K20 nin0
      have FC13 := FC13.keep K20 nin0
      have FN13 := FN13.keep K20 nin0
      have FM13 := FM13.keep K20 nin0
      have V13 := V13.keep K20 nin0
      have V14 := V14.keep K20 nin0
      have V17 := V17.keep K20 nin0
      have O := O.keep K20 all0
      have Z0 : n0 ≤ T20.heap.size := Nat.le_trans Z0 K20.1
      have V20 : Arv Z T20.heap tb20 kt20 .byte (0 : Int32) [] (.int (0 : Int32)) := V20
      show Gd p e below _ T20 (mkF m 269 #[.val (.int p0), .val (.int p1), .val (.int p2), .val (.int (0 : Int32)), .val (.int (0 : Int32)), .val (.int v3), .val (.int v4), .val (.int v5), .val (.int v6), .val (.ref b7), .val (.ref b9), .val (.ref b7), .val (.ref b14), .val (.int (0 : Int32)), .val (.ref b17), .val (.int (0 : Int32))] [(.ref t20)])
      refine g_aload X20 hx hby i0_269 rfl rfl ?_
      refine g_iload X20 hx hby i0_271 rfl ?_
      refine g_callS0 X20 hx hby hZ (y := (⟨"com/example/cloudgavel/cloudgavel/cli/ReportLinesPinLaw", "same", "(Ljava/lang/String;[CI)Z"⟩ : MethodName)) (argsL := [(.ref t20), (.ref b14), (.int (0 : Int32))]) (rest := []) hown (hw _ (List.mem_of_getElem? (i := 209) rfl)) (hw _ (List.mem_of_getElem? (i := 210) rfl)) (hw _ (List.mem_of_getElem? (i := 211) rfl)) (hw _ (List.mem_of_getElem? (i := 212) rfl)) (by decide) (rm39_0 l Z a0 hw [] t20 b14 (0 : Int32) cz sv tb20 kt20  k14 (0 : Int32) (0 : Int32) (0 : Int32) (0 : Int32) (0 : Int32) (0 : Int32) (0 : Int32) (0 : Int32) T20.heap n0 Z0 S0 hcz O hsv S1 E20 FV20 FC20 V20 V14 rfl ) rfl (by rw [hml]; rfl) pd_30 rfl rfl i0_273 (by decide) 0 rfl (by decide) (by decide) (by decide) fun T21 v21 L21 X21 q21 => ?_
      obtain ⟨_, rfl, rfl, e21, N21⟩ := q21
      have N0 := Fr.app N0 N21
      show Gd p e below _ T21 (mkF m 276 #[.val (.int p0), .val (.int p1), .val (.int p2), .val (.int (0 : Int32)), .val (.int (0 : Int32)), .val (.int v3), .val (.int v4), .val (.int v5), .val (.int v6), .val (.ref b7), .val (.ref b9), .val (.ref b7), .val (.ref b14), .val (.int (0 : Int32)), .val (.ref b17), .val (.int (0 : Int32))] [(.int (1 : Int32))])
      refine g_if_eq X21 hx hby i0_276 (fun c276_22 => False.elim (absurd c276_22 (by decide))) fun c276_22 => ?_
      refine g_aload X21 hx hby i0_279 rfl rfl ?_
      refine g_callV0 X21 hx hby hZ (y0 := (⟨"com/example/cloudgavel/cloudgavel/cli/Report", "toString", "()Ljava/lang/String;"⟩ : MethodName)) (y := (⟨"com/example/cloudgavel/cloudgavel/cli/Report", "toString", "()Ljava/lang/String;"⟩ : MethodName)) (argsL := []) (rest := []) hown (hw _ (List.mem_of_getElem? (i := 170) rfl)) (hw _ (List.mem_of_getElem? (i := 171) rfl)) (notFace_of_selects (args := #[]) (mvT hZ (hw _ (List.mem_of_getElem? (i := 173) rfl)))) (hw _ (List.mem_of_getElem? (i := 173) rfl)) (hw _ (List.mem_of_getElem? (i := 172) rfl)) (hw _ (List.mem_of_getElem? (i := 2) rfl)) (hw _ (List.mem_of_getElem? (i := 174) rfl)) (by decide) (a := b9) A9 (rm30 l Z a0 hw [] b9 cz a10 b10 kb10 _ (0 : Int32) 0 T20.heap n0 Z0 S0 hcz O FL10 E10 FV10 FC10 FN10 V10 (by decide) (by decide) (by decide) (by decide)) e21 (by rw [hml]; rfl) pd_25 rfl rfl i0_281 (by decide) 0 rfl (by decide) (by decide) (by decide) fun T23 v23 L23 X23 q23 => ?_
      obtain ⟨_, rfl, K23, t23, tb23, kt23, rfl, g_t23, st23, E23, FV23, FC23, V23, g_tb23, stb23, ne_t23_tb23, N23⟩ := q23
      have N0 := Fr.app N0 N23
      have ne_b7_t23 : b7 ≠ t23 := Nat.ne_of_lt (Nat.lt_of_lt_of_le A7.lt st23)
      have ne_a8_t23 : a8 ≠ t23 := Nat.ne_of_lt (Nat.lt_of_lt_of_le E8.lt st23)
      have ne_b9_t23 : b9 ≠ t23 := Nat.ne_of_lt (Nat.lt_of_lt_of_le A9.lt st23)
      have ne_a10_t23 : a10 ≠ t23 := Nat.ne_of_lt (Nat.lt_of_lt_of_le E10.lt st23)
      have ne_b10_t23 : b10 ≠ t23 := Nat.ne_of_lt (Nat.lt_of_lt_of_le V10.lt st23)
      have ne_b8_t23 : b8 ≠ t23 := Nat.ne_of_lt (Nat.lt_of_lt_of_le V13.lt st23)
      have ne_b14_t23 : b14 ≠ t23 := Nat.ne_of_lt (Nat.lt_of_lt_of_le V14.lt st23)
      have ne_b17_t23 : b17 ≠ t23 := Nat.ne_of_lt (Nat.lt_of_lt_of_le V17.lt st23)
      have ne_t20_t23 : t20 ≠ t23 := Nat.ne_of_lt (Nat.lt_of_lt_of_le E20.lt st23)
      have ne_tb20_t23 : tb20 ≠ t23 := Nat.ne_of_lt (Nat.lt_of_lt_of_le V20.lt st23)
      have ne_b7_tb23 : b7 ≠ tb23 := Nat.ne_of_lt (Nat.lt_of_lt_of_le A7.lt stb23)
      have ne_a8_tb23 : a8 ≠ tb23 := Nat.ne_of_lt (Nat.lt_of_lt_of_le E8.lt stb23)
      have ne_b9_tb23 : b9 ≠ tb23 := Nat.ne_of_lt (Nat.lt_of_lt_of_le A9.lt stb23)
      have ne_a10_tb23 : a10 ≠ tb23 := Nat.ne_of_lt (Nat.lt_of_lt_of_le E10.lt stb23)
      have ne_b10_tb23 : b10 ≠ tb23 := Nat.ne_of_lt (Nat.lt_of_lt_of_le V10.lt stb23)
      have ne_b8_tb23 : b8 ≠ tb23 := Nat.ne_of_lt (Nat.lt_of_lt_of_le V13.lt stb23)
      have ne_b14_tb23 : b14 ≠ tb23 := Nat.ne_of_lt (Nat.lt_of_lt_of_le V14.lt stb23)
      have ne_b17_tb23 : b17 ≠ tb23 := Nat.ne_of_lt (Nat.lt_of_lt_of_le V17.lt stb23)
      have ne_t20_tb23 : t20 ≠ tb23 := Nat.ne_of_lt (Nat.lt_of_lt_of_le E20.lt stb23)
      have ne_tb20_tb23 : tb20 ≠ tb23 := Nat.ne_of_lt (Nat.lt_of_lt_of_le V20.lt stb23)
      have A7 := A7.keep K23
      have FL8 := FL8.keep K23 nin0
      have E8 := E8.keep K23
      have A9 := A9.keep K23
      have FL10 := FL10.keep K23 nin0
      have E10 := E10.keep K23
      have FV10 := FV10.keep K23 nin0
      have FC10 := FC10.keep K23 nin0
      have FN10 := FN10.keep K23 nin0
      have FM10 := FM10.keep K23 nin0
      have V10 := V10.keep K23 nin0
      have FV13 := FV13.keep K23 nin0
      have FC13 := FC13.keep K23 nin0
      have FN13 := FN13.keep K23 nin0
      have FM13 := FM13.keep K23 nin0
      have V13 := V13.keep K23 nin0
      have V14 := V14.keep K23 nin0
      have V17 := V17.keep K23 nin0
      have E20 := E20.keep K23
      have FV20 := FV20.keep K23 nin0
      have FC20 := FC20.keep K23 nin0
      have V20 := V20.keep K23 nin0
      have O := O.keep K23 all0
      have Z0 : n0 ≤ T23.heap.size := Nat.le_trans Z0 K23.1
      have V23 : Arv Z T23.heap tb23 kt23 .byte (0 : Int32) [] (.int (0 : Int32)) := V23
      show Gd p e below _ T23 (mkF m 284 #[.val (.int p0), .val (.int p1), .val (.int p2), .val (.int (0 : Int32)), .val (.int (0 : Int32)), .val (.int v3), .val (.int v4), .val (.int v5), .val (.int v6), .val (.ref b7), .val (.ref b9), .val (.ref b7), .val (.ref b14), .val (.int (0 : Int32)), .val (.ref b17), .val (.int (0 : Int32))] [(.ref t23)])
      refine g_aload X23 hx hby i0_284 rfl rfl ?_
      refine g_iload X23 hx hby i0_286 rfl ?_
      refine g_callS0 X23 hx hby hZ (y := (⟨"com/example/cloudgavel/cloudgavel/cli/ReportLinesPinLaw", "same", "(Ljava/lang/String;[CI)Z"⟩ : MethodName)) (argsL := [(.ref t23), (.ref b17), (.int (0 : Int32))]) (rest := []) hown (hw _ (List.mem_of_getElem? (i := 209) rfl)) (hw _ (List.mem_of_getElem? (i := 210) rfl)) (hw _ (List.mem_of_getElem? (i := 211) rfl)) (hw _ (List.mem_of_getElem? (i := 212) rfl)) (by decide) (rm39_0 l Z a0 hw [] t23 b17 (0 : Int32) cz sv tb23 kt23  k17 (0 : Int32) (0 : Int32) (0 : Int32) (0 : Int32) (0 : Int32) (0 : Int32) (0 : Int32) (0 : Int32) T23.heap n0 Z0 S0 hcz O hsv S1 E23 FV23 FC23 V23 V17 rfl ) rfl (by rw [hml]; rfl) pd_30 rfl rfl i0_288 (by decide) 0 rfl (by decide) (by decide) (by decide) fun T24 v24 L24 X24 q24 => ?_
      obtain ⟨_, rfl, rfl, e24, N24⟩ := q24
      have N0 := Fr.app N0 N24
      show Gd p e below _ T24 (mkF m 291 #[.val (.int p0), .val (.int p1), .val (.int p2), .val (.int (0 : Int32)), .val (.int (0 : Int32)), .val (.int v3), .val (.int v4), .val (.int v5), .val (.int v6), .val (.ref b7), .val (.ref b9), .val (.ref b7), .val (.ref b14), .val (.int (0 : Int32)), .val (.ref b17), .val (.int (0 : Int32))] [(.int (1 : Int32))])
      refine g_if_eq X24 hx hby i0_291 (fun c291_25 => False.elim (absurd c291_25 (by decide))) fun c291_25 => ?_
      refine g_iconst X24 hx hby i0_294 (z := (1 : Int32)) (by decide) ?_
      refine g_goto X24 hx hby i0_295 ?_
      refine g_ireturnN X24 hx hby (ty := .boolean) hret (by simp) hlk i0_299 (by decide) (by decide) ?_
      exact ⟨_, rfl, rfl, N0⟩
    · refine g_iconst X0 hx hby i0_18 (z := (1 : Int32)) (by decide) ?_
      refine g_goto X0 hx hby i0_19 ?_
      refine g_istore X0 hx hby i0_23 (l' := #[.val (.int p0), .val (.int p1), .val (.int p2), .val (.int (0 : Int32)), .val (.int (1 : Int32)), .unset, .unset, .unset, .unset, .unset, .unset, .unset, .unset, .unset, .unset, .unset]) rfl ?_
      refine g_iloadN X0 hx hby i0_25 rfl ?_
      refine g_sipush X0 hx hby i0_26 (z := (255 : Int32)) (by decide) ?_
      refine g_iand X0 hx hby i0_29 ?_
      refine g_i2c X0 hx hby i0_30 ?_
      refine g_istoreW X0 hx hby i0_31 (l' := fun v26 => #[.val (.int p0), .val (.int p1), .val (.int p2), .val (.int (0 : Int32)), .val (.int (1 : Int32)), .val (.int v26), .unset, .unset, .unset, .unset, .unset, .unset, .unset, .unset, .unset, .unset]) (fun _ => rfl) fun v26 hv26 => ?_
      refine g_iloadN X0 hx hby i0_33 rfl ?_
      refine g_bipush X0 hx hby i0_34 (z := (8 : Int32)) (by decide) ?_
      refine g_iushr X0 hx hby i0_36 ?_
      refine g_sipush X0 hx hby i0_37 (z := (255 : Int32)) (by decide) ?_
      refine g_iand X0 hx hby i0_40 ?_
      refine g_i2c X0 hx hby i0_41 ?_
      refine g_istoreW X0 hx hby i0_42 (l' := fun v27 => #[.val (.int p0), .val (.int p1), .val (.int p2), .val (.int (0 : Int32)), .val (.int (1 : Int32)), .val (.int v26), .val (.int v27), .unset, .unset, .unset, .unset, .unset, .unset, .unset, .unset, .unset]) (fun _ => rfl) fun v27 hv27 => ?_
      refine g_iloadN X0 hx hby i0_44 rfl ?_
      refine g_sipush X0 hx hby i0_45 (z := (255 : Int32)) (by decide) ?_
      refine g_iand X0 hx hby i0_48 ?_
      refine g_i2c X0 hx hby i0_49 ?_
      refine g_istoreW X0 hx hby i0_50 (l' := fun v28 => #[.val (.int p0), .val (.int p1), .val (.int p2), .val (.int (0 : Int32)), .val (.int (1 : Int32)), .val (.int v26), .val (.int v27), .val (.int v28), .unset, .unset, .unset, .unset, .unset, .unset, .unset, .unset]) (fun _ => rfl) fun v28 hv28 => ?_
      refine g_iloadN X0 hx hby i0_52 rfl ?_
      refine g_bipush X0 hx hby i0_53 (z := (8 : Int32)) (by decide) ?_
      refine g_iushr X0 hx hby i0_55 ?_
      refine g_sipush X0 hx hby i0_56 (z := (255 : Int32)) (by decide) ?_
      refine g_iand X0 hx hby i0_59 ?_
      refine g_i2c X0 hx hby i0_60 ?_
      refine g_istoreW X0 hx hby i0_61 (l' := fun v29 => #[.val (.int p0), .val (.int p1), .val (.int p2), .val (.int (0 : Int32)), .val (.int (1 : Int32)), .val (.int v26), .val (.int v27), .val (.int v28), .val (.int v29), .unset, .unset, .unset, .unset, .unset, .unset, .unset]) (fun _ => rfl) fun v29 hv29 => ?_
      refine g_new X0 hx hby hZ hown (hw _ (List.mem_of_getElem? (i := 0) rfl)) (hw _ (List.mem_of_getElem? (i := 1) rfl)) (hw _ (List.mem_of_getElem? (i := 2) rfl)) e0 i0_63 (by decide) (by decide) fun T30 h30 b30 X30 e30 E30 hb30 A30 D30 => ?_
      have g_b30 : n0 ≤ b30 := Nat.le_trans Z0 (Nat.le_of_eq hb30.symm)
      have O := O.ext E30
      have Z0 : n0 ≤ h30.size := Nat.le_trans Z0 E30.1
      have F30_lines : Fld Z h30 b30 "com/example/cloudgavel/cloudgavel/cli/Report" "lines" "Ljava/lang/StringBuilder;" .null := D30 (Or.inr (hw _ (List.mem_of_getElem? (i := 30) rfl))) (ty := (.object "java/lang/StringBuilder")) (by decide)
      refine g_dup X30 hx hby i0_66 rfl ?_
      refine g_callInit0 X30 hx hby hZ (y := (⟨"com/example/cloudgavel/cloudgavel/cli/Report", "<init>", "()V"⟩ : MethodName)) (argsL := []) (rest := [(.ref b30)]) rfl hown (hw _ (List.mem_of_getElem? (i := 3) rfl)) (hw _ (List.mem_of_getElem? (i := 4) rfl)) (hw _ (List.mem_of_getElem? (i := 2) rfl)) (hw _ (List.mem_of_getElem? (i := 5) rfl)) (by decide) (a := b30) (rm1 l Z a0 hw [] b30 cz h30 n0 Z0 S0 hcz O A30 F30_lines g_b30) e30 (by rw [hml]; rfl) pd_14 rfl rfl i0_67 (by decide) 1 rfl (by decide) (by decide) (by decide) fun T31 v31 L31 X31 q31 => ?_
      obtain ⟨rfl, K31, a31, -, FL31, g_a31, sa31, b31, ne_a31_b31, kb31, E31, FV31, FC31, FN31, V31, FM31, g_b31, sb31, N31⟩ := q31
      have N0 := Fr.app N0 N31
      have ne_b30_a31 : b30 ≠ a31 := Nat.ne_of_lt (Nat.lt_of_lt_of_le A30.lt sa31)
      have ne_b30_b31 : b30 ≠ b31 := Nat.ne_of_lt (Nat.lt_of_lt_of_le A30.lt sb31)
      have A30 := A30.keep K31
      have O := O.keep K31 (allS g_b30 all0)
      have Z0 : n0 ≤ T31.heap.size := Nat.le_trans Z0 K31.1
      show Gd p e below _ T31 (mkF m 70 #[.val (.int p0), .val (.int p1), .val (.int p2), .val (.int (0 : Int32)), .val (.int (1 : Int32)), .val (.int v26), .val (.int v27), .val (.int v28), .val (.int v29), .unset, .unset, .unset, .unset, .unset, .unset, .unset] [(.ref b30)])
      refine g_astore X31 hx hby i0_70 rfl (l' := #[.val (.int p0), .val (.int p1), .val (.int p2), .val (.int (0 : Int32)), .val (.int (1 : Int32)), .val (.int v26), .val (.int v27), .val (.int v28), .val (.int v29), .val (.ref b30), .unset, .unset, .unset, .unset, .unset, .unset]) rfl ?_
      refine g_new X31 hx hby hZ hown (hw _ (List.mem_of_getElem? (i := 0) rfl)) (hw _ (List.mem_of_getElem? (i := 1) rfl)) (hw _ (List.mem_of_getElem? (i := 2) rfl)) rfl i0_72 (by decide) (by decide) fun T32 h32 b32 X32 e32 E32 hb32 A32 D32 => ?_
      have ne_b30_b32 : b30 ≠ b32 := Nat.ne_of_lt (Nat.lt_of_lt_of_le A30.lt (Nat.le_of_eq hb32.symm))
      have ne_a31_b32 : a31 ≠ b32 := Nat.ne_of_lt (Nat.lt_of_lt_of_le E31.lt (Nat.le_of_eq hb32.symm))
      have ne_b31_b32 : b31 ≠ b32 := Nat.ne_of_lt (Nat.lt_of_lt_of_le V31.lt (Nat.le_of_eq hb32.symm))
      have g_b32 : n0 ≤ b32 := Nat.le_trans Z0 (Nat.le_of_eq hb32.symm)
      have A30 := A30.ext E32
      have FL31 := FL31.ext E32
      have E31 := E31.ext E32
      have FV31 := FV31.ext E32
      have FC31 := FC31.ext E32
      have FN31 := FN31.ext E32
      have FM31 := FM31.ext E32
      have V31 := V31.ext E32
      have O := O.ext E32
      have Z0 : n0 ≤ h32.size := Nat.le_trans Z0 E32.1
      have F32_lines : Fld Z h32 b32 "com/example/cloudgavel/cloudgavel/cli/Report" "lines" "Ljava/lang/StringBuilder;" .null := D32 (Or.inr (hw _ (List.mem_of_getElem? (i := 30) rfl))) (ty := (.object "java/lang/StringBuilder")) (by decide)
      refine g_dup X32 hx hby i0_75 rfl ?_
      refine g_callInit0 X32 hx hby hZ (y := (⟨"com/example/cloudgavel/cloudgavel/cli/Report", "<init>", "()V"⟩ : MethodName)) (argsL := []) (rest := [(.ref b32)]) rfl hown (hw _ (List.mem_of_getElem? (i := 3) rfl)) (hw _ (List.mem_of_getElem? (i := 4) rfl)) (hw _ (List.mem_of_getElem? (i := 2) rfl)) (hw _ (List.mem_of_getElem? (i := 5) rfl)) (by decide) (a := b32) (rm1 l Z a0 hw [] b32 cz h32 n0 Z0 S0 hcz O A32 F32_lines g_b32) e32 (by rw [hml]; rfl) pd_14 rfl rfl i0_76 (by decide) 1 rfl (by decide) (by decide) (by decide) fun T33 v33 L33 X33 q33 => ?_
      obtain ⟨rfl, K33, a33, -, FL33, g_a33, sa33, b33, ne_a33_b33, kb33, E33, FV33, FC33, FN33, V33, FM33, g_b33, sb33, N33⟩ := q33
      have N0 := Fr.app N0 N33
      have ne_b30_a33 : b30 ≠ a33 := Nat.ne_of_lt (Nat.lt_of_lt_of_le A30.lt sa33)
      have ne_a31_a33 : a31 ≠ a33 := Nat.ne_of_lt (Nat.lt_of_lt_of_le E31.lt sa33)
      have ne_b31_a33 : b31 ≠ a33 := Nat.ne_of_lt (Nat.lt_of_lt_of_le V31.lt sa33)
      have ne_b32_a33 : b32 ≠ a33 := Nat.ne_of_lt (Nat.lt_of_lt_of_le A32.lt sa33)
      have ne_b30_b33 : b30 ≠ b33 := Nat.ne_of_lt (Nat.lt_of_lt_of_le A30.lt sb33)
      have ne_a31_b33 : a31 ≠ b33 := Nat.ne_of_lt (Nat.lt_of_lt_of_le E31.lt sb33)
      have ne_b31_b33 : b31 ≠ b33 := Nat.ne_of_lt (Nat.lt_of_lt_of_le V31.lt sb33)
      have ne_b32_b33 : b32 ≠ b33 := Nat.ne_of_lt (Nat.lt_of_lt_of_le A32.lt sb33)
      have A30 := A30.keep K33
      have FL31 := FL31.keep K33 (ninS ne_b30_b32 nin0)
      have E31 := E31.keep K33
      have FV31 := FV31.keep K33 (ninS ne_a31_b32 nin0)
      have FC31 := FC31.keep K33 (ninS ne_a31_b32 nin0)
      have FN31 := FN31.keep K33 (ninS ne_a31_b32 nin0)
      have FM31 := FM31.keep K33 (ninS ne_a31_b32 nin0)
      have V31 := V31.keep K33 (ninS ne_b31_b32 nin0)
      have A32 := A32.keep K33
      have O := O.keep K33 (allS g_b32 all0)
      have Z0 : n0 ≤ T33.heap.size := Nat.le_trans Z0 K33.1
      show Gd p e below _ T33 (mkF m 79 #[.val (.int p0), .val (.int p1), .val (.int p2), .val (.int (0 : Int32)), .val (.int (1 : Int32)), .val (.int v26), .val (.int v27), .val (.int v28), .val (.int v29), .val (.ref b30), .unset, .unset, .unset, .unset, .unset, .unset] [(.ref b32)])
      refine g_astore X33 hx hby i0_79 rfl (l' := #[.val (.int p0), .val (.int p1), .val (.int p2), .val (.int (0 : Int32)), .val (.int (1 : Int32)), .val (.int v26), .val (.int v27), .val (.int v28), .val (.int v29), .val (.ref b30), .val (.ref b32), .unset, .unset, .unset, .unset, .unset]) rfl ?_
      refine g_iloadN X33 hx hby i0_81 rfl ?_
      refine g_if_eq X33 hx hby i0_82 (fun c82_34 => ?_) (fun c82_34 => False.elim (absurd c82_34 (by decide)))
      refine g_iload X33 hx hby i0_101 rfl ?_
      refine g_if_eq X33 hx hby i0_103 (fun c103_35 => False.elim (absurd c103_35 (by decide))) fun c103_35 => ?_
      refine g_aload X33 hx hby i0_106 rfl rfl ?_
      refine g_iload X33 hx hby i0_108 rfl ?_
      refine g_callS0 X33 hx hby hZ (y := (⟨"java/lang/String", "valueOf", "(C)Ljava/lang/String;"⟩ : MethodName)) (argsL := [(.int v28)]) (rest := [(.ref b32)]) hown (hw _ (List.mem_of_getElem? (i := 31) rfl)) (hw _ (List.mem_of_getElem? (i := 32) rfl)) (hw _ (List.mem_of_getElem? (i := 23) rfl)) (hw _ (List.mem_of_getElem? (i := 33) rfl)) (by decide) (rm5 l Z a0 hw [] v28 cz T33.heap n0 Z0 S0 hcz O (own_enc hv28)) rfl (by rw [hml]; rfl) pd_31 rfl rfl i0_110 (by decide) 1 rfl (by decide) (by decide) (by decide) fun T36 v36 L36 X36 q36 => ?_
      obtain ⟨_, rfl, a36, b36, kb36, rfl, K36, E36, FV36, FC36, V36, g_a36, g_b36, sa36, sb36, ne_a36_b36, N36⟩ := q36
      have N0 := Fr.app N0 N36
      have ne_b30_a36 : b30 ≠ a36 := Nat.ne_of_lt (Nat.lt_of_lt_of_le A30.lt sa36)
      have ne_b30_b36 : b30 ≠ b36 := Nat.ne_of_lt (Nat.lt_of_lt_of_le A30.lt sb36)
      have ne_a31_a36 : a31 ≠ a36 := Nat.ne_of_lt (Nat.lt_of_lt_of_le E31.lt sa36)
      have ne_a31_b36 : a31 ≠ b36 := Nat.ne_of_lt (Nat.lt_of_lt_of_le E31.lt sb36)
      have ne_b31_a36 : b31 ≠ a36 := Nat.ne_of_lt (Nat.lt_of_lt_of_le V31.lt sa36)
      have ne_b31_b36 : b31 ≠ b36 := Nat.ne_of_lt (Nat.lt_of_lt_of_le V31.lt sb36)
      have ne_b32_a36 : b32 ≠ a36 := Nat.ne_of_lt (Nat.lt_of_lt_of_le A32.lt sa36)
      have ne_b32_b36 : b32 ≠ b36 := Nat.ne_of_lt (Nat.lt_of_lt_of_le A32.lt sb36)
      have ne_a33_a36 : a33 ≠ a36 := Nat.ne_of_lt (Nat.lt_of_lt_of_le E33.lt sa36)
      have ne_a33_b36 : a33 ≠ b36 := Nat.ne_of_lt (Nat.lt_of_lt_of_le E33.lt sb36)
      have ne_b33_a36 : b33 ≠ a36 := Nat.ne_of_lt (Nat.lt_of_lt_of_le V33.lt sa36)
      have ne_b33_b36 : b33 ≠ b36 := Nat.ne_of_lt (Nat.lt_of_lt_of_le V33.lt sb36)
      have A30 := A30.keep K36
      have FL31 := FL31.keep K36 nin0
      have E31 := E31.keep K36
      have FV31 := FV31.keep K36 nin0
      have FC31 := FC31.keep K36 nin0
      have FN31 := FN31.keep K36 nin0
      have FM31 := FM31.keep K36 nin0
      have V31 := V31.keep K36 nin0
      have A32 := A32.keep K36
      have FL33 := FL33.keep K36 nin0
      have E33 := E33.keep K36
      have FV33 := FV33.keep K36 nin0
      have FC33 := FC33.keep K36 nin0
      have FN33 := FN33.keep K36 nin0
      have FM33 := FM33.keep K36 nin0
      have V33 := V33.keep K36 nin0
      have O := O.keep K36 all0
      have Z0 : n0 ≤ T36.heap.size := Nat.le_trans Z0 K36.1
      show Gd p e below _ T36 (mkF m 113 #[.val (.int p0), .val (.int p1), .val (.int p2), .val (.int (0 : Int32)), .val (.int (1 : Int32)), .val (.int v26), .val (.int v27), .val (.int v28), .val (.int v29), .val (.ref b30), .val (.ref b32), .unset, .unset, .unset, .unset, .unset] [(.ref a36), (.ref b32)])
      refine g_iload X36 hx hby i0_113 rfl ?_
      refine g_callS0 X36 hx hby hZ (y := (⟨"java/lang/String", "valueOf", "(C)Ljava/lang/String;"⟩ : MethodName)) (argsL := [(.int v29)]) (rest := [(.ref a36), (.ref b32)]) hown (hw _ (List.mem_of_getElem? (i := 31) rfl)) (hw _ (List.mem_of_getElem? (i := 32) rfl)) (hw _ (List.mem_of_getElem? (i := 23) rfl)) (hw _ (List.mem_of_getElem? (i := 33) rfl)) (by decide) (rm5 l Z a0 hw [] v29 cz T36.heap n0 Z0 S0 hcz O (own_enc hv29)) rfl (by rw [hml]; rfl) pd_31 rfl rfl i0_115 (by decide) 2 rfl (by decide) (by decide) (by decide) fun T37 v37 L37 X37 q37 => ?_
      obtain ⟨_, rfl, a37, b37, kb37, rfl, K37, E37, FV37, FC37, V37, g_a37, g_b37, sa37, sb37, ne_a37_b37, N37⟩ := q37
      have N0 := Fr.app N0 N37
      have ne_b30_a37 : b30 ≠ a37 := Nat.ne_of_lt (Nat.lt_of_lt_of_le A30.lt sa37)
      have ne_b30_b37 : b30 ≠ b37 := Nat.ne_of_lt (Nat.lt_of_lt_of_le A30.lt sb37)
      have ne_a31_a37 : a31 ≠ a37 := Nat.ne_of_lt (Nat.lt_of_lt_of_le E31.lt sa37)
      have ne_a31_b37 : a31 ≠ b37 := Nat.ne_of_lt (Nat.lt_of_lt_of_le E31.lt sb37)
      have ne_b31_a37 : b31 ≠ a37 := Nat.ne_of_lt (Nat.lt_of_lt_of_le V31.lt sa37)
      have ne_b31_b37 : b31 ≠ b37 := Nat.ne_of_lt (Nat.lt_of_lt_of_le V31.lt sb37)
      have ne_b32_a37 : b32 ≠ a37 := Nat.ne_of_lt (Nat.lt_of_lt_of_le A32.lt sa37)
      have ne_b32_b37 : b32 ≠ b37 := Nat.ne_of_lt (Nat.lt_of_lt_of_le A32.lt sb37)
      have ne_a33_a37 : a33 ≠ a37 := Nat.ne_of_lt (Nat.lt_of_lt_of_le E33.lt sa37)
      have ne_a33_b37 : a33 ≠ b37 := Nat.ne_of_lt (Nat.lt_of_lt_of_le E33.lt sb37)
      have ne_b33_a37 : b33 ≠ a37 := Nat.ne_of_lt (Nat.lt_of_lt_of_le V33.lt sa37)
      have ne_b33_b37 : b33 ≠ b37 := Nat.ne_of_lt (Nat.lt_of_lt_of_le V33.lt sb37)
      have ne_a36_a37 : a36 ≠ a37 := Nat.ne_of_lt (Nat.lt_of_lt_of_le E36.lt sa37)
      have ne_a36_b37 : a36 ≠ b37 := Nat.ne_of_lt (Nat.lt_of_lt_of_le E36.lt sb37)
      have ne_b36_a37 : b36 ≠ a37 := Nat.ne_of_lt (Nat.lt_of_lt_of_le V36.lt sa37)
      have ne_b36_b37 : b36 ≠ b37 := Nat.ne_of_lt (Nat.lt_of_lt_of_le V36.lt sb37)
      have A30 := A30.keep K37
      have FL31 := FL31.keep K37 nin0
      have E31 := E31.keep K37
      have FV31 := FV31.keep K37 nin0
      have FC31 := FC31.keep K37 nin0
      have FN31 := FN31.keep K37 nin0
      have FM31 := FM31.keep K37 nin0
      have V31 := V31.keep K37 nin0
      have A32 := A32.keep K37
      have FL33 := FL33.keep K37 nin0
      have E33 := E33.keep K37
      have FV33 := FV33.keep K37 nin0
      have FC33 := FC33.keep K37 nin0
      have FN33 := FN33.keep K37 nin0
      have FM33 := FM33.keep K37 nin0
      have V33 := V33.keep K37 nin0
      have E36 := E36.keep K37
      have FV36 := FV36.keep K37 nin0
      have FC36 := FC36.keep K37 nin0
      have V36 := V36.keep K37 nin0
      have O := O.keep K37 all0
      have Z0 : n0 ≤ T37.heap.size := Nat.le_trans Z0 K37.1
      show Gd p e below _ T37 (mkF m 118 #[.val (.int p0), .val (.int p1), .val (.int p2), .val (.int (0 : Int32)), .val (.int (1 : Int32)), .val (.int v26), .val (.int v27), .val (.int v28), .val (.int v29), .val (.ref b30), .val (.ref b32), .unset, .unset, .unset, .unset, .unset] [(.ref a37), (.ref a36), (.ref b32)])
      refine g_callV0 X37 hx hby hZ (y0 := (⟨"com/example/cloudgavel/cloudgavel/cli/Report", "text", "(Ljava/lang/String;Ljava/lang/String;)Lcom/example/cloudgavel/cloudgavel/cli/Report;"⟩ : MethodName)) (y := (⟨"com/example/cloudgavel/cloudgavel/cli/Report", "text", "(Ljava/lang/String;Ljava/lang/String;)Lcom/example/cloudgavel/cloudgavel/cli/Report;"⟩ : MethodName)) (argsL := [(.ref a36), (.ref a37)]) (rest := []) hown (hw _ (List.mem_of_getElem? (i := 53) rfl)) (hw _ (List.mem_of_getElem? (i := 54) rfl)) (notFace_of_selects (args := #[]) (mvT hZ (hw _ (List.mem_of_getElem? (i := 56) rfl)))) (hw _ (List.mem_of_getElem? (i := 56) rfl)) (hw _ (List.mem_of_getElem? (i := 55) rfl)) (hw _ (List.mem_of_getElem? (i := 2) rfl)) (hw _ (List.mem_of_getElem? (i := 57) rfl)) (by decide) (a := b32) A32 (rm9 l Z a0 hw [] b32 a36 a37 cz a33 b33 kb33 b36 kb36 (nar .byte v28.toInt8.toInt32) b37 kb37 (nar .byte v29.toInt8.toInt32) T37.heap n0 Z0 S0 hcz O FL33 E33 FV33 FC33 FN33 V33 FM33 E36 FV36 FC36 V36 E37 FV37 FC37 V37 g_a33 g_b33 ne_b32_a33 ne_b32_b33 (Ne.symm ne_a33_a36) (Ne.symm ne_b33_a36) (Ne.symm ne_a33_b36) (Ne.symm ne_b33_b36) (Ne.symm ne_a33_a37) (Ne.symm ne_b33_a37) (Ne.symm ne_a33_b37) (Ne.symm ne_b33_b37) ne_a33_b33) rfl (by rw [hml]; rfl) pd_32 rfl rfl i0_118 (by decide) 0 rfl (by decide) (by decide) (by decide) fun T38 v38 L38 X38 q38 => ?_
      obtain ⟨_, rfl, rfl, K38, E38, FV38, FC38, FN38, V38, FM38, N38⟩ := q38
      have N0 := Fr.app N0 N38
      have A30 := A30.keep K38
      have FL31 := FL31.keep K38 (ninS ne_b30_a33 (ninS ne_b30_b33 nin0))
      have E31 := E31.keep K38
      have FV31 := FV31.keep K38 (ninS ne_a31_a33 (ninS ne_a31_b33 nin0))
      have FC31 := FC31.keep K38 (ninS ne_a31_a33 (ninS ne_a31_b33 nin0))
      have FN31 := FN31.keep K38 (ninS ne_a31_a33 (ninS ne_a31_b33 nin0))
      have FM31 := FM31.keep K38 (ninS ne_a31_a33 (ninS ne_a31_b33 nin0))
      have V31 := V31.keep K38 (ninS ne_b31_a33 (ninS ne_b31_b33 nin0))
      have A32 := A32.keep K38
      have FL33 := FL33.keep K38 (ninS ne_b32_a33 (ninS ne_b32_b33 nin0))
      have E33 := E33.keep K38
      have E36 := E36.keep K38
      have FV36 := FV36.keep K38 (ninS (Ne.symm ne_a33_a36) (ninS (Ne.symm ne_b33_a36) nin0))
      have FC36 := FC36.keep K38 (ninS (Ne.symm ne_a33_a36) (ninS (Ne.symm ne_b33_a36) nin0))
      have V36 := V36.keep K38 (ninS (Ne.symm ne_a33_b36) (ninS (Ne.symm ne_b33_b36) nin0))
      have E37 := E37.keep K38
      have FV37 := FV37.keep K38 (ninS (Ne.symm ne_a33_a37) (ninS (Ne.symm ne_b33_a37) nin0))
      have FC37 := FC37.keep K38 (ninS (Ne.symm ne_a33_a37) (ninS (Ne.symm ne_b33_a37) nin0))
      have V37 := V37.keep K38 (ninS (Ne.symm ne_a33_b37) (ninS (Ne.symm ne_b33_b37) nin0))
      have O := O.keep K38 (allS g_a33 (allS g_b33 all0))
      have Z0 : n0 ≤ T38.heap.size := Nat.le_trans Z0 K38.1
      show Gd p e below _ T38 (mkF m 121 #[.val (.int p0), .val (.int p1), .val (.int p2), .val (.int (0 : Int32)), .val (.int (1 : Int32)), .val (.int v26), .val (.int v27), .val (.int v28), .val (.int v29), .val (.ref b30), .val (.ref b32), .unset, .unset, .unset, .unset, .unset] [(.ref b32)])
      refine g_pop X38 hx hby i0_121 rfl ?_
      refine g_aload X38 hx hby i0_122 rfl rfl ?_
      refine g_aload X38 hx hby i0_124 rfl rfl ?_
      refine g_callV0 X38 hx hby hZ (y0 := (⟨"com/example/cloudgavel/cloudgavel/cli/Report", "lines", "(Lcom/example/cloudgavel/cloudgavel/cli/Report;)Lcom/example/cloudgavel/cloudgavel/cli/Report;"⟩ : MethodName)) (y := (⟨"com/example/cloudgavel/cloudgavel/cli/Report", "lines", "(Lcom/example/cloudgavel/cloudgavel/cli/Report;)Lcom/example/cloudgavel/cloudgavel/cli/Report;"⟩ : MethodName)) (argsL := [(.ref b32)]) (rest := []) hown (hw _ (List.mem_of_getElem? (i := 120) rfl)) (hw _ (List.mem_of_getElem? (i := 121) rfl)) (notFace_of_selects (args := #[]) (mvT hZ (hw _ (List.mem_of_getElem? (i := 123) rfl)))) (hw _ (List.mem_of_getElem? (i := 123) rfl)) (hw _ (List.mem_of_getElem? (i := 122) rfl)) (hw _ (List.mem_of_getElem? (i := 2) rfl)) (hw _ (List.mem_of_getElem? (i := 124) rfl)) (by decide) (a := b30) A30 (rm21 l Z a0 hw [] b30 b32 cz a31 b31 kb31 _ (0 : Int32) a33 b33 kb33 _ (4 : Int32) 0 4 T38.heap n0 Z0 S0 hcz O FL31 FL33 E31 FV31 FC31 FN31 V31 FM31 E33 FV38 FC38 FN38 V38 FM38 g_a31 g_b31 ne_a31_b31 (Ne.symm ne_a31_a33) (Ne.symm ne_b31_a33) (Ne.symm ne_a31_b33) (Ne.symm ne_b31_b33) (by decide) (by decide) (by decide) (by decide) (by decide) (by decide) rfl (by decide) (by decide) ne_b30_a31 ne_b30_b31 (Ne.symm ne_a31_b32) (Ne.symm ne_b31_b32)) rfl (by rw [hml]; rfl) pd_29 rfl rfl i0_126 (by decide) 0 rfl (by decide) (by decide) (by decide) fun T39 v39 L39 X39 q39 => ?_
      obtain ⟨_, rfl, rfl, K39, E39, FV39, FC39, FN39, V39, FM39, N39⟩ := q39
      have N0 := Fr.app N0 N39
      have A30 := A30.keep K39
      have FL31 := FL31.keep K39 (ninS ne_b30_a31 (ninS ne_b30_b31 nin0))
      have E31 := E31.keep K39
      have A32 := A32.keep K39
      have FL33 := FL33.keep K39 (ninS (Ne.symm ne_a31_b32) (ninS (Ne.symm ne_b31_b32) nin0))
      have E33 := E33.keep K39
      have E36 := E36.keep K39
      have FV36 := FV36.keep K39 (ninS (Ne.symm ne_a31_a36) (ninS (Ne.symm ne_b31_a36) nin0))
      have FC36 := FC36.keep K39 (ninS (Ne.symm ne_a31_a36) (ninS (Ne.symm ne_b31_a36) nin0))
      have V36 := V36.keep K39 (ninS (Ne.symm ne_a31_b36) (ninS (Ne.symm ne_b31_b36) nin0))
      have E37 := E37.keep K39
      have FV37 := FV37.keep K39 (ninS (Ne.symm ne_a31_a37) (ninS (Ne.symm ne_b31_a37) nin0))
      have FC37 := FC37.keep K39 (ninS (Ne.symm ne_a31_a37) (ninS (Ne.symm ne_b31_a37) nin0))
      have V37 := V37.keep K39 (ninS (Ne.symm ne_a31_b37) (ninS (Ne.symm ne_b31_b37) nin0))
      have FV38 := FV38.keep K39 (ninS (Ne.symm ne_a31_a33) (ninS (Ne.symm ne_b31_a33) nin0))
      have FC38 := FC38.keep K39 (ninS (Ne.symm ne_a31_a33) (ninS (Ne.symm ne_b31_a33) nin0))
      have FN38 := FN38.keep K39 (ninS (Ne.symm ne_a31_a33) (ninS (Ne.symm ne_b31_a33) nin0))
      have FM38 := FM38.keep K39 (ninS (Ne.symm ne_a31_a33) (ninS (Ne.symm ne_b31_a33) nin0))
      have V38 := V38.keep K39 (ninS (Ne.symm ne_a31_b33) (ninS (Ne.symm ne_b31_b33) nin0))
      have O := O.keep K39 (allS g_a31 (allS g_b31 all0))
      have Z0 : n0 ≤ T39.heap.size := Nat.le_trans Z0 K39.1
      rw [show (0 : Int32) + (4 : Int32) = (4 : Int32) from by decide] at FN39
      have V39 : Arv Z T39.heap b31 kb31 .byte (16 : Int32) [(.int (nar .byte v28.toInt8.toInt32)), (.int (nar .byte (61 : Int32).toInt8.toInt32)), (.int (nar .byte v29.toInt8.toInt32)), (.int (nar .byte (10 : Int32).toInt8.toInt32)), (.int (0 : Int32)), (.int (0 : Int32)), (.int (0 : Int32)), (.int (0 : Int32)), (.int (0 : Int32)), (.int (0 : Int32)), (.int (0 : Int32)), (.int (0 : Int32)), (.int (0 : Int32)), (.int (0 : Int32)), (.int (0 : Int32)), (.int (0 : Int32))] (.int (0 : Int32)) := V39
      show Gd p e below _ T39 (mkF m 129 #[.val (.int p0), .val (.int p1), .val (.int p2), .val (.int (0 : Int32)), .val (.int (1 : Int32)), .val (.int v26), .val (.int v27), .val (.int v28), .val (.int v29), .val (.ref b30), .val (.ref b32), .unset, .unset, .unset, .unset, .unset] [(.ref b30)])
      refine g_astore X39 hx hby i0_129 rfl (l' := #[.val (.int p0), .val (.int p1), .val (.int p2), .val (.int (0 : Int32)), .val (.int (1 : Int32)), .val (.int v26), .val (.int v27), .val (.int v28), .val (.int v29), .val (.ref b30), .val (.ref b32), .val (.ref b30), .unset, .unset, .unset, .unset]) rfl ?_
      refine g_bipush X39 hx hby i0_131 (z := (8 : Int32)) (by decide) ?_
      refine g_newarray X39 hx hby hZ (ty := .char) rfl (hw _ (List.mem_of_getElem? (i := 169) rfl)) rfl i0_133 (by decide) 8 (by decide) (by decide) (by decide) (by decide) fun T40 h40 b40 k40 X40 e40 E40 hb40 V40 => ?_
      have ne_b30_b40 : b30 ≠ b40 := Nat.ne_of_lt (Nat.lt_of_lt_of_le A30.lt (Nat.le_of_eq hb40.symm))
      have ne_a31_b40 : a31 ≠ b40 := Nat.ne_of_lt (Nat.lt_of_lt_of_le E31.lt (Nat.le_of_eq hb40.symm))
      have ne_b32_b40 : b32 ≠ b40 := Nat.ne_of_lt (Nat.lt_of_lt_of_le A32.lt (Nat.le_of_eq hb40.symm))
      have ne_a33_b40 : a33 ≠ b40 := Nat.ne_of_lt (Nat.lt_of_lt_of_le E33.lt (Nat.le_of_eq hb40.symm))
      have ne_a36_b40 : a36 ≠ b40 := Nat.ne_of_lt (Nat.lt_of_lt_of_le E36.lt (Nat.le_of_eq hb40.symm))
      have ne_b36_b40 : b36 ≠ b40 := Nat.ne_of_lt (Nat.lt_of_lt_of_le V36.lt (Nat.le_of_eq hb40.symm))
      have ne_a37_b40 : a37 ≠ b40 := Nat.ne_of_lt (Nat.lt_of_lt_of_le E37.lt (Nat.le_of_eq hb40.symm))
      have ne_b37_b40 : b37 ≠ b40 := Nat.ne_of_lt (Nat.lt_of_lt_of_le V37.lt (Nat.le_of_eq hb40.symm))
      have ne_b33_b40 : b33 ≠ b40 := Nat.ne_of_lt (Nat.lt_of_lt_of_le V38.lt (Nat.le_of_eq hb40.symm))
      have ne_b31_b40 : b31 ≠ b40 := Nat.ne_of_lt (Nat.lt_of_lt_of_le V39.lt (Nat.le_of_eq hb40.symm))
      have g_b40 : n0 ≤ b40 := Nat.le_trans Z0 (Nat.le_of_eq hb40.symm)
      have A30 := A30.ext E40
      have FL31 := FL31.ext E40
      have E31 := E31.ext E40
      have A32 := A32.ext E40
      have FL33 := FL33.ext E40
      have E33 := E33.ext E40
      have E36 := E36.ext E40
      have FV36 := FV36.ext E40
      have FC36 := FC36.ext E40
      have V36 := V36.ext E40
      have E37 := E37.ext E40
      have FV37 := FV37.ext E40
      have FC37 := FC37.ext E40
      have V37 := V37.ext E40
      have FV38 := FV38.ext E40
      have FC38 := FC38.ext E40
      have FN38 := FN38.ext E40
      have FM38 := FM38.ext E40
      have V38 := V38.ext E40
      have FV39 := FV39.ext E40
      have FC39 := FC39.ext E40
      have FN39 := FN39.ext E40
      have FM39 := FM39.ext E40
      have V39 := V39.ext E40
      have O := O.ext E40
      have Z0 : n0 ≤ h40.size := Nat.le_trans Z0 E40.1
      have V40 : Arv Z h40 b40 k40 .char (8 : Int32) [(.int (0 : Int32)), (.int (0 : Int32)), (.int (0 : Int32)), (.int (0 : Int32)), (.int (0 : Int32)), (.int (0 : Int32)), (.int (0 : Int32)), (.int (0 : Int32))] (.int (0 : Int32)) := V40.pad (pad_rep [] _ 8)
      refine g_astore X40 hx hby i0_135 rfl (l' := #[.val (.int p0), .val (.int p1), .val (.int p2), .val (.int (0 : Int32)), .val (.int (1 : Int32)), .val (.int v26), .val (.int v27), .val (.int v28), .val (.int v29), .val (.ref b30), .val (.ref b32), .val (.ref b30), .val (.ref b40), .unset, .unset, .unset]) rfl ?_
      refine g_iconst X40 hx hby i0_137 (z := (0 : Int32)) (by decide) ?_
      refine g_istore X40 hx hby i0_138 (l' := #[.val (.int p0), .val (.int p1), .val (.int p2), .val (.int (0 : Int32)), .val (.int (1 : Int32)), .val (.int v26), .val (.int v27), .val (.int v28), .val (.int v29), .val (.ref b30), .val (.ref b32), .val (.ref b30), .val (.ref b40), .val (.int (0 : Int32)), .unset, .unset]) rfl ?_
      refine g_iloadN X40 hx hby i0_140 rfl ?_
      refine g_if_eq X40 hx hby i0_141 (fun c141_41 => ?_) (fun c141_41 => False.elim (absurd c141_41 (by decide)))
      refine g_iload X40 hx hby i0_171 rfl ?_
      refine g_if_eq X40 hx hby i0_173 (fun c173_42 => False.elim (absurd c173_42 (by decide))) fun c173_42 => ?_
      refine g_aload X40 hx hby i0_176 rfl rfl ?_
      refine g_iload X40 hx hby i0_178 rfl ?_
      refine g_iload X40 hx hby i0_180 rfl ?_
      refine g_castore X40 hx hby hZ e40 V40 (i := 0) (by decide) (by decide) (by decide) (Nat.le_of_ble_eq_true rfl) i0_182 fun T43 h43 X43 e43 W43 V40 => ?_
      have V40 : Arv Z h43 b40 k40 .char (8 : Int32) [(.int (nar .char v28)), (.int (0 : Int32)), (.int (0 : Int32)), (.int (0 : Int32)), (.int (0 : Int32)), (.int (0 : Int32)), (.int (0 : Int32)), (.int (0 : Int32))] (.int (0 : Int32)) := V40
      have A30 := A30.wr W43
      have FL31 := FL31.other W43 (Or.inl ne_b30_b40)
      have E31 := E31.wr W43
      have A32 := A32.wr W43
      have FL33 := FL33.other W43 (Or.inl ne_b32_b40)
      have E33 := E33.wr W43
      have E36 := E36.wr W43
      have FV36 := FV36.other W43 (Or.inl ne_a36_b40)
      have FC36 := FC36.other W43 (Or.inl ne_a36_b40)
      have V36 := V36.other W43 ne_b36_b40
      have E37 := E37.wr W43
      have FV37 := FV37.other W43 (Or.inl ne_a37_b40)
      have FC37 := FC37.other W43 (Or.inl ne_a37_b40)
      have V37 := V37.other W43 ne_b37_b40
      have FV38 := FV38.other W43 (Or.inl ne_a33_b40)
      have FC38 := FC38.other W43 (Or.inl ne_a33_b40)
      have FN38 := FN38.other W43 (Or.inl ne_a33_b40)
      have FM38 := FM38.other W43 (Or.inl ne_a33_b40)
      have V38 := V38.other W43 ne_b33_b40
      have FV39 := FV39.other W43 (Or.inl ne_a31_b40)
      have FC39 := FC39.other W43 (Or.inl ne_a31_b40)
      have FN39 := FN39.other W43 (Or.inl ne_a31_b40)
      have FM39 := FM39.other W43 (Or.inl ne_a31_b40)
      have V39 := V39.other W43 ne_b31_b40
      have O := O.wr W43 g_b40
      have Z0 : n0 ≤ h43.size := Nat.le_trans Z0 (Nat.le_of_eq W43.size.symm)
      have N0 := Fr.snoc X43 N0 g_b40
      refine g_aload X43 hx hby i0_183 rfl rfl ?_
      refine g_iload X43 hx hby i0_185 rfl ?_
      refine g_iconst X43 hx hby i0_187 (z := (1 : Int32)) (by decide) ?_
      refine g_iadd X43 hx hby i0_188 ?_
      rw [show (0 : Int32) + (1 : Int32) = (1 : Int32) from by decide]
      refine g_bipush X43 hx hby i0_189 (z := (61 : Int32)) (by decide) ?_
      refine g_castore X43 hx hby hZ e43 V40 (i := 1) (by decide) (by decide) (by decide) (Nat.le_of_ble_eq_true rfl) i0_191 fun T44 h44 X44 e44 W44 V40 => ?_
      have V40 : Arv Z h44 b40 k40 .char (8 : Int32) [(.int (nar .char v28)), (.int (nar .char (61 : Int32))), (.int (0 : Int32)), (.int (0 : Int32)), (.int (0 : Int32)), (.int (0 : Int32)), (.int (0 : Int32)), (.int (0 : Int32))] (.int (0 : Int32)) := V40
      have A30 := A30.wr W44
      have FL31 := FL31.other W44 (Or.inl ne_b30_b40)
      have E31 := E31.wr W44
      have A32 := A32.wr W44
      have FL33 := FL33.other W44 (Or.inl ne_b32_b40)
      have E33 := E33.wr W44
      have E36 := E36.wr W44
      have FV36 := FV36.other W44 (Or.inl ne_a36_b40)
      have FC36 := FC36.other W44 (Or.inl ne_a36_b40)
      have V36 := V36.other W44 ne_b36_b40
      have E37 := E37.wr W44
      have FV37 := FV37.other W44 (Or.inl ne_a37_b40)
      have FC37 := FC37.other W44 (Or.inl ne_a37_b40)
      have V37 := V37.other W44 ne_b37_b40
      have FV38 := FV38.other W44 (Or.inl ne_a33_b40)
      have FC38 := FC38.other W44 (Or.inl ne_a33_b40)
      have FN38 := FN38.other W44 (Or.inl ne_a33_b40)
      have FM38 := FM38.other W44 (Or.inl ne_a33_b40)
      have V38 := V38.other W44 ne_b33_b40
      have FV39 := FV39.other W44 (Or.inl ne_a31_b40)
      have FC39 := FC39.other W44 (Or.inl ne_a31_b40)
      have FN39 := FN39.other W44 (Or.inl ne_a31_b40)
      have FM39 := FM39.other W44 (Or.inl ne_a31_b40)
      have V39 := V39.other W44 ne_b31_b40
      have O := O.wr W44 g_b40
      have Z0 : n0 ≤ h44.size := Nat.le_trans Z0 (Nat.le_of_eq W44.size.symm)
      have N0 := Fr.snoc X44 N0 g_b40
      refine g_aload X44 hx hby i0_192 rfl rfl ?_
      refine g_iload X44 hx hby i0_194 rfl ?_
      refine g_iconst X44 hx hby i0_196 (z := (2 : Int32)) (by decide) ?_
      refine g_iadd X44 hx hby i0_197 ?_
      rw [show (0 : Int32) + (2 : Int32) = (2 : Int32) from by decide]
      refine g_iload X44 hx hby i0_198 rfl ?_
      refine g_castore X44 hx hby hZ e44 V40 (i := 2) (by decide) (by decide) (by decide) (Nat.le_of_ble_eq_true rfl) i0_200 fun T45 h45 X45 e45 W45 V40 => ?_
      have V40 : Arv Z h45 b40 k40 .char (8 : Int32) [(.int (nar .char v28)), (.int (nar .char (61 : Int32))), (.int (nar .char v29)), (.int (0 : Int32)), (.int (0 : Int32)), (.int (0 : Int32)), (.int (0 : Int32)), (.int (0 : Int32))] (.int (0 : Int32)) := V40
      have A30 := A30.wr W45
      have FL31 := FL31.other W45 (Or.inl ne_b30_b40)
      have E31 := E31.wr W45
      have A32 := A32.wr W45
      have FL33 := FL33.other W45 (Or.inl ne_b32_b40)
      have E33 := E33.wr W45
      have E36 := E36.wr W45
      have FV36 := FV36.other W45 (Or.inl ne_a36_b40)
      have FC36 := FC36.other W45 (Or.inl ne_a36_b40)
      have V36 := V36.other W45 ne_b36_b40
      have E37 := E37.wr W45
      have FV37 := FV37.other W45 (Or.inl ne_a37_b40)
      have FC37 := FC37.other W45 (Or.inl ne_a37_b40)
      have V37 := V37.other W45 ne_b37_b40
      have FV38 := FV38.other W45 (Or.inl ne_a33_b40)
      have FC38 := FC38.other W45 (Or.inl ne_a33_b40)
      have FN38 := FN38.other W45 (Or.inl ne_a33_b40)
      have FM38 := FM38.other W45 (Or.inl ne_a33_b40)
      have V38 := V38.other W45 ne_b33_b40
      have FV39 := FV39.other W45 (Or.inl ne_a31_b40)
      have FC39 := FC39.other W45 (Or.inl ne_a31_b40)
      have FN39 := FN39.other W45 (Or.inl ne_a31_b40)
      have FM39 := FM39.other W45 (Or.inl ne_a31_b40)
      have V39 := V39.other W45 ne_b31_b40
      have O := O.wr W45 g_b40
      have Z0 : n0 ≤ h45.size := Nat.le_trans Z0 (Nat.le_of_eq W45.size.symm)
      have N0 := Fr.snoc X45 N0 g_b40
      refine g_aload X45 hx hby i0_201 rfl rfl ?_
      refine g_iload X45 hx hby i0_203 rfl ?_
      refine g_iconst X45 hx hby i0_205 (z := (3 : Int32)) (by decide) ?_
      refine g_iadd X45 hx hby i0_206 ?_
      rw [show (0 : Int32) + (3 : Int32) = (3 : Int32) from by decide]
      refine g_bipush X45 hx hby i0_207 (z := (10 : Int32)) (by decide) ?_
      refine g_castore X45 hx hby hZ e45 V40 (i := 3) (by decide) (by decide) (by decide) (Nat.le_of_ble_eq_true rfl) i0_209 fun T46 h46 X46 e46 W46 V40 => ?_
      have V40 : Arv Z h46 b40 k40 .char (8 : Int32) [(.int (nar .char v28)), (.int (nar .char (61 : Int32))), (.int (nar .char v29)), (.int (nar .char (10 : Int32))), (.int (0 : Int32)), (.int (0 : Int32)), (.int (0 : Int32)), (.int (0 : Int32))] (.int (0 : Int32)) := V40
      have A30 := A30.wr W46
      have FL31 := FL31.other W46 (Or.inl ne_b30_b40)
      have E31 := E31.wr W46
      have A32 := A32.wr W46
      have FL33 := FL33.other W46 (Or.inl ne_b32_b40)
      have E33 := E33.wr W46
      have E36 := E36.wr W46
      have FV36 := FV36.other W46 (Or.inl ne_a36_b40)
      have FC36 := FC36.other W46 (Or.inl ne_a36_b40)
      have V36 := V36.other W46 ne_b36_b40
      have E37 := E37.wr W46
      have FV37 := FV37.other W46 (Or.inl ne_a37_b40)
      have FC37 := FC37.other W46 (Or.inl ne_a37_b40)
      have V37 := V37.other W46 ne_b37_b40
      have FV38 := FV38.other W46 (Or.inl ne_a33_b40)
      have FC38 := FC38.other W46 (Or.inl ne_a33_b40)
      have FN38 := FN38.other W46 (Or.inl ne_a33_b40)
      have FM38 := FM38.other W46 (Or.inl ne_a33_b40)
      have V38 := V38.other W46 ne_b33_b40
      have FV39 := FV39.other W46 (Or.inl ne_a31_b40)
      have FC39 := FC39.other W46 (Or.inl ne_a31_b40)
      have FN39 := FN39.other W46 (Or.inl ne_a31_b40)
      have FM39 := FM39.other W46 (Or.inl ne_a31_b40)
      have V39 := V39.other W46 ne_b31_b40
      have O := O.wr W46 g_b40
      have Z0 : n0 ≤ h46.size := Nat.le_trans Z0 (Nat.le_of_eq W46.size.symm)
      have N0 := Fr.snoc X46 N0 g_b40
      refine g_iload X46 hx hby i0_210 rfl ?_
      refine g_iconst X46 hx hby i0_212 (z := (4 : Int32)) (by decide) ?_
      refine g_iadd X46 hx hby i0_213 ?_
      rw [show (0 : Int32) + (4 : Int32) = (4 : Int32) from by decide]
      refine g_istore X46 hx hby i0_214 (l' := #[.val (.int p0), .val (.int p1), .val (.int p2), .val (.int (0 : Int32)), .val (.int (1 : Int32)), .val (.int v26), .val (.int v27), .val (.int v28), .val (.int v29), .val (.ref b30), .val (.ref b32), .val (.ref b30), .val (.ref b40), .val (.int (4 : Int32)), .unset, .unset]) rfl ?_
      refine g_bipush X46 hx hby i0_216 (z := (8 : Int32)) (by decide) ?_
      refine g_newarray X46 hx hby hZ (ty := .char) rfl (hw _ (List.mem_of_getElem? (i := 169) rfl)) e46 i0_218 (by decide) 8 (by decide) (by decide) (by decide) (by decide) fun T47 h47 b47 k47 X47 e47 E47 hb47 V47 => ?_
      have ne_b30_b47 : b30 ≠ b47 := Nat.ne_of_lt (Nat.lt_of_lt_of_le A30.lt (Nat.le_of_eq hb47.symm))
      have ne_a31_b47 : a31 ≠ b47 := Nat.ne_of_lt (Nat.lt_of_lt_of_le E31.lt (Nat.le_of_eq hb47.symm))
      have ne_b32_b47 : b32 ≠ b47 := Nat.ne_of_lt (Nat.lt_of_lt_of_le A32.lt (Nat.le_of_eq hb47.symm))
      have ne_a33_b47 : a33 ≠ b47 := Nat.ne_of_lt (Nat.lt_of_lt_of_le E33.lt (Nat.le_of_eq hb47.symm))
      have ne_a36_b47 : a36 ≠ b47 := Nat.ne_of_lt (Nat.lt_of_lt_of_le E36.lt (Nat.le_of_eq hb47.symm))
      have ne_b36_b47 : b36 ≠ b47 := Nat.ne_of_lt (Nat.lt_of_lt_of_le V36.lt (Nat.le_of_eq hb47.symm))
      have ne_a37_b47 : a37 ≠ b47 := Nat.ne_of_lt (Nat.lt_of_lt_of_le E37.lt (Nat.le_of_eq hb47.symm))
      have ne_b37_b47 : b37 ≠ b47 := Nat.ne_of_lt (Nat.lt_of_lt_of_le V37.lt (Nat.le_of_eq hb47.symm))
      have ne_b33_b47 : b33 ≠ b47 := Nat.ne_of_lt (Nat.lt_of_lt_of_le V38.lt (Nat.le_of_eq hb47.symm))
      have ne_b31_b47 : b31 ≠ b47 := Nat.ne_of_lt (Nat.lt_of_lt_of_le V39.lt (Nat.le_of_eq hb47.symm))
      have ne_b40_b47 : b40 ≠ b47 := Nat.ne_of_lt (Nat.lt_of_lt_of_le V40.lt (Nat.le_of_eq hb47.symm))
      have g_b47 : n0 ≤ b47 := Nat.le_trans Z0 (Nat.le_of_eq hb47.symm)
      have A30 := A30.ext E47
      have FL31 := FL31.ext E47
      have E31 := E31.ext E47
      have A32 := A32.ext E47
      have FL33 := FL33.ext E47
      have E33 := E33.ext E47
      have E36 := E36.ext E47
      have FV36 := FV36.ext E47
      have FC36 := FC36.ext E47
      have V36 := V36.ext E47
      have E37 := E37.ext E47
      have FV37 := FV37.ext E47
      have FC37 := FC37.ext E47
      have V37 := V37.ext E47
      have FV38 := FV38.ext E47
      have FC38 := FC38.ext E47
      have FN38 := FN38.ext E47
      have FM38 := FM38.ext E47
      have V38 := V38.ext E47
      have FV39 := FV39.ext E47
      have FC39 := FC39.ext E47
      have FN39 := FN39.ext E47
      have FM39 := FM39.ext E47
      have V39 := V39.ext E47
      have V40 := V40.ext E47
      have O := O.ext E47
      have Z0 : n0 ≤ h47.size := Nat.le_trans Z0 E47.1
      have V47 : Arv Z h47 b47 k47 .char (8 : Int32) [(.int (0 : Int32)), (.int (0 : Int32)), (.int (0 : Int32)), (.int (0 : Int32)), (.int (0 : Int32)), (.int (0 : Int32)), (.int (0 : Int32)), (.int (0 : Int32))] (.int (0 : Int32)) := V47.pad (pad_rep [] _ 8)
      refine g_astore X47 hx hby i0_220 rfl (l' := #[.val (.int p0), .val (.int p1), .val (.int p2), .val (.int (0 : Int32)), .val (.int (1 : Int32)), .val (.int v26), .val (.int v27), .val (.int v28), .val (.int v29), .val (.ref b30), .val (.ref b32), .val (.ref b30), .val (.ref b40), .val (.int (4 : Int32)), .val (.ref b47), .unset]) rfl ?_
      refine g_iconst X47 hx hby i0_222 (z := (0 : Int32)) (by decide) ?_
      refine g_istore X47 hx hby i0_223 (l' := #[.val (.int p0), .val (.int p1), .val (.int p2), .val (.int (0 : Int32)), .val (.int (1 : Int32)), .val (.int v26), .val (.int v27), .val (.int v28), .val (.int v29), .val (.ref b30), .val (.ref b32), .val (.ref b30), .val (.ref b40), .val (.int (4 : Int32)), .val (.ref b47), .val (.int (0 : Int32))]) rfl ?_
      refine g_iload X47 hx hby i0_225 rfl ?_
      refine g_if_eq X47 hx hby i0_227 (fun c227_48 => False.elim (absurd c227_48 (by decide))) fun c227_48 => ?_
      refine g_aload X47 hx hby i0_230 rfl rfl ?_
      refine g_iconst X47 hx hby i0_232 (z := (0 : Int32)) (by decide) ?_
      refine g_iload X47 hx hby i0_233 rfl ?_
      refine g_castore X47 hx hby hZ e47 V47 (i := 0) (by decide) (by decide) (by decide) (Nat.le_of_ble_eq_true rfl) i0_235 fun T49 h49 X49 e49 W49 V47 => ?_
      have V47 : Arv Z h49 b47 k47 .char (8 : Int32) [(.int (nar .char v28)), (.int (0 : Int32)), (.int (0 : Int32)), (.int (0 : Int32)), (.int (0 : Int32)), (.int (0 : Int32)), (.int (0 : Int32)), (.int (0 : Int32))] (.int (0 : Int32)) := V47
      have A30 := A30.wr W49
      have FL31 := FL31.other W49 (Or.inl ne_b30_b47)
      have E31 := E31.wr W49
      have A32 := A32.wr W49
      have FL33 := FL33.other W49 (Or.inl ne_b32_b47)
      have E33 := E33.wr W49
      have E36 := E36.wr W49
      have FV36 := FV36.other W49 (Or.inl ne_a36_b47)
      have FC36 := FC36.other W49 (Or.inl ne_a36_b47)
      have V36 := V36.other W49 ne_b36_b47
      have E37 := E37.wr W49
      have FV37 := FV37.other W49 (Or.inl ne_a37_b47)
      have FC37 := FC37.other W49 (Or.inl ne_a37_b47)
      have V37 := V37.other W49 ne_b37_b47
      have FV38 := FV38.other W49 (Or.inl ne_a33_b47)
      have FC38 := FC38.other W49 (Or.inl ne_a33_b47)
      have FN38 := FN38.other W49 (Or.inl ne_a33_b47)
      have FM38 := FM38.other W49 (Or.inl ne_a33_b47)
      have V38 := V38.other W49 ne_b33_b47
      have FV39 := FV39.other W49 (Or.inl ne_a31_b47)
      have FC39 := FC39.other W49 (Or.inl ne_a31_b47)
      have FN39 := FN39.other W49 (Or.inl ne_a31_b47)
      have FM39 := FM39.other W49 (Or.inl ne_a31_b47)
      have V39 := V39.other W49 ne_b31_b47
      have V40 := V40.other W49 ne_b40_b47
      have O := O.wr W49 g_b47
      have Z0 : n0 ≤ h49.size := Nat.le_trans Z0 (Nat.le_of_eq W49.size.symm)
      have N0 := Fr.snoc X49 N0 g_b47
      refine g_aload X49 hx hby i0_236 rfl rfl ?_
      refine g_iconst X49 hx hby i0_238 (z := (1 : Int32)) (by decide) ?_
      refine g_bipush X49 hx hby i0_239 (z := (61 : Int32)) (by decide) ?_
      refine g_castore X49 hx hby hZ e49 V47 (i := 1) (by decide) (by decide) (by decide) (Nat.le_of_ble_eq_true rfl) i0_241 fun T50 h50 X50 e50 W50 V47 => ?_
      have V47 : Arv Z h50 b47 k47 .char (8 : Int32) [(.int (nar .char v28)), (.int (nar .char (61 : Int32))), (.int (0 : Int32)), (.int (0 : Int32)), (.int (0 : Int32)), (.int (0 : Int32)), (.int (0 : Int32)), (.int (0 : Int32))] (.int (0 : Int32)) := V47
      have A30 := A30.wr W50
      have FL31 := FL31.other W50 (Or.inl ne_b30_b47)
      have E31 := E31.wr W50
      have A32 := A32.wr W50
      have FL33 := FL33.other W50 (Or.inl ne_b32_b47)
      have E33 := E33.wr W50
      have E36 := E36.wr W50
      have FV36 := FV36.other W50 (Or.inl ne_a36_b47)
      have FC36 := FC36.other W50 (Or.inl ne_a36_b47)
      have V36 := V36.other W50 ne_b36_b47
      have E37 := E37.wr W50
      have FV37 := FV37.other W50 (Or.inl ne_a37_b47)
      have FC37 := FC37.other W50 (Or.inl ne_a37_b47)
      have V37 := V37.other W50 ne_b37_b47
      have FV38 := FV38.other W50 (Or.inl ne_a33_b47)
      have FC38 := FC38.other W50 (Or.inl ne_a33_b47)
      have FN38 := FN38.other W50 (Or.inl ne_a33_b47)
      have FM38 := FM38.other W50 (Or.inl ne_a33_b47)
      have V38 := V38.other W50 ne_b33_b47
      have FV39 := FV39.other W50 (Or.inl ne_a31_b47)
      have FC39 := FC39.other W50 (Or.inl ne_a31_b47)
      have FN39 := FN39.other W50 (Or.inl ne_a31_b47)
      have FM39 := FM39.other W50 (Or.inl ne_a31_b47)
      have V39 := V39.other W50 ne_b31_b47
      have V40 := V40.other W50 ne_b40_b47
      have O := O.wr W50 g_b47
      have Z0 : n0 ≤ h50.size := Nat.le_trans Z0 (Nat.le_of_eq W50.size.symm)
      have N0 := Fr.snoc X50 N0 g_b47
      refine g_aload X50 hx hby i0_242 rfl rfl ?_
      refine g_iconst X50 hx hby i0_244 (z := (2 : Int32)) (by decide) ?_
      refine g_iload X50 hx hby i0_245 rfl ?_
      refine g_castore X50 hx hby hZ e50 V47 (i := 2) (by decide) (by decide) (by decide) (Nat.le_of_ble_eq_true rfl) i0_247 fun T51 h51 X51 e51 W51 V47 => ?_
      have V47 : Arv Z h51 b47 k47 .char (8 : Int32) [(.int (nar .char v28)), (.int (nar .char (61 : Int32))), (.int (nar .char v29)), (.int (0 : Int32)), (.int (0 : Int32)), (.int (0 : Int32)), (.int (0 : Int32)), (.int (0 : Int32))] (.int (0 : Int32)) := V47
      have A30 := A30.wr W51
      have FL31 := FL31.other W51 (Or.inl ne_b30_b47)
      have E31 := E31.wr W51
      have A32 := A32.wr W51
      have FL33 := FL33.other W51 (Or.inl ne_b32_b47)
      have E33 := E33.wr W51
      have E36 := E36.wr W51
      have FV36 := FV36.other W51 (Or.inl ne_a36_b47)
      have FC36 := FC36.other W51 (Or.inl ne_a36_b47)
      have V36 := V36.other W51 ne_b36_b47
      have E37 := E37.wr W51
      have FV37 := FV37.other W51 (Or.inl ne_a37_b47)
      have FC37 := FC37.other W51 (Or.inl ne_a37_b47)
      have V37 := V37.other W51 ne_b37_b47
      have FV38 := FV38.other W51 (Or.inl ne_a33_b47)
      have FC38 := FC38.other W51 (Or.inl ne_a33_b47)
      have FN38 := FN38.other W51 (Or.inl ne_a33_b47)
      have FM38 := FM38.other W51 (Or.inl ne_a33_b47)
      have V38 := V38.other W51 ne_b33_b47
      have FV39 := FV39.other W51 (Or.inl ne_a31_b47)
      have FC39 := FC39.other W51 (Or.inl ne_a31_b47)
      have FN39 := FN39.other W51 (Or.inl ne_a31_b47)
      have FM39 := FM39.other W51 (Or.inl ne_a31_b47)
      have V39 := V39.other W51 ne_b31_b47
      have V40 := V40.other W51 ne_b40_b47
      have O := O.wr W51 g_b47
      have Z0 : n0 ≤ h51.size := Nat.le_trans Z0 (Nat.le_of_eq W51.size.symm)
      have N0 := Fr.snoc X51 N0 g_b47
      refine g_aload X51 hx hby i0_248 rfl rfl ?_
      refine g_iconst X51 hx hby i0_250 (z := (3 : Int32)) (by decide) ?_
      refine g_bipush X51 hx hby i0_251 (z := (10 : Int32)) (by decide) ?_
      refine g_castore X51 hx hby hZ e51 V47 (i := 3) (by decide) (by decide) (by decide) (Nat.le_of_ble_eq_true rfl) i0_253 fun T52 h52 X52 e52 W52 V47 => ?_
      have V47 : Arv Z h52 b47 k47 .char (8 : Int32) [(.int (nar .char v28)), (.int (nar .char (61 : Int32))), (.int (nar .char v29)), (.int (nar .char (10 : Int32))), (.int (0 : Int32)), (.int (0 : Int32)), (.int (0 : Int32)), (.int (0 : Int32))] (.int (0 : Int32)) := V47
      have A30 := A30.wr W52
      have FL31 := FL31.other W52 (Or.inl ne_b30_b47)
      have E31 := E31.wr W52
      have A32 := A32.wr W52
      have FL33 := FL33.other W52 (Or.inl ne_b32_b47)
      have E33 := E33.wr W52
      have E36 := E36.wr W52
      have FV36 := FV36.other W52 (Or.inl ne_a36_b47)
      have FC36 := FC36.other W52 (Or.inl ne_a36_b47)
      have V36 := V36.other W52 ne_b36_b47
      have E37 := E37.wr W52
      have FV37 := FV37.other W52 (Or.inl ne_a37_b47)
      have FC37 := FC37.other W52 (Or.inl ne_a37_b47)
      have V37 := V37.other W52 ne_b37_b47
      have FV38 := FV38.other W52 (Or.inl ne_a33_b47)
      have FC38 := FC38.other W52 (Or.inl ne_a33_b47)
      have FN38 := FN38.other W52 (Or.inl ne_a33_b47)
      have FM38 := FM38.other W52 (Or.inl ne_a33_b47)
      have V38 := V38.other W52 ne_b33_b47
      have FV39 := FV39.other W52 (Or.inl ne_a31_b47)
      have FC39 := FC39.other W52 (Or.inl ne_a31_b47)
      have FN39 := FN39.other W52 (Or.inl ne_a31_b47)
      have FM39 := FM39.other W52 (Or.inl ne_a31_b47)
      have V39 := V39.other W52 ne_b31_b47
      have V40 := V40.other W52 ne_b40_b47
      have O := O.wr W52 g_b47
      have Z0 : n0 ≤ h52.size := Nat.le_trans Z0 (Nat.le_of_eq W52.size.symm)
      have N0 := Fr.snoc X52 N0 g_b47
      refine g_iconst X52 hx hby i0_254 (z := (4 : Int32)) (by decide) ?_
      refine g_istore X52 hx hby i0_255 (l' := #[.val (.int p0), .val (.int p1), .val (.int p2), .val (.int (0 : Int32)), .val (.int (1 : Int32)), .val (.int v26), .val (.int v27), .val (.int v28), .val (.int v29), .val (.ref b30), .val (.ref b32), .val (.ref b30), .val (.ref b40), .val (.int (4 : Int32)), .val (.ref b47), .val (.int (4 : Int32))]) rfl ?_
      refine g_aload X52 hx hby i0_257 rfl rfl ?_
      refine g_aload X52 hx hby i0_259 rfl rfl ?_
      refine g_acmp_ne X52 hx hby i0_261 rfl rfl (fun c261_53 => False.elim (c261_53 rfl)) fun c261_53 => ?_
      refine g_aload X52 hx hby i0_264 rfl rfl ?_
      refine g_callV0 X52 hx hby hZ (y0 := (⟨"com/example/cloudgavel/cloudgavel/cli/Report", "toString", "()Ljava/lang/String;"⟩ : MethodName)) (y := (⟨"com/example/cloudgavel/cloudgavel/cli/Report", "toString", "()Ljava/lang/String;"⟩ : MethodName)) (argsL := []) (rest := []) hown (hw _ (List.mem_of_getElem? (i := 170) rfl)) (hw _ (List.mem_of_getElem? (i := 171) rfl)) (notFace_of_selects (args := #[]) (mvT hZ (hw _ (List.mem_of_getElem? (i := 173) rfl)))) (hw _ (List.mem_of_getElem? (i := 173) rfl)) (hw _ (List.mem_of_getElem? (i := 172) rfl)) (hw _ (List.mem_of_getElem? (i := 2) rfl)) (hw _ (List.mem_of_getElem? (i := 174) rfl)) (by decide) (a := b30) A30 (rm30 l Z a0 hw [] b30 cz a31 b31 kb31 _ (4 : Int32) 4 h52 n0 Z0 S0 hcz O FL31 E31 FV39 FC39 FN39 V39 (by decide) (by decide) (by decide) (by decide)) e52 (by rw [hml]; rfl) pd_25 rfl rfl i0_266 (by decide) 0 rfl (by decide) (by decide) (by decide) fun T54 v54 L54 X54 q54 => ?_
      obtain ⟨_, rfl, K54, t54, tb54, kt54, rfl, g_t54, st54, E54, FV54, FC54, V54, g_tb54, stb54, ne_t54_tb54, N54⟩ := q54
      have N0 := Fr.app N0 N54
      have ne_b30_t54 : b30 ≠ t54 := Nat.ne_of_lt (Nat.lt_of_lt_of_le A30.lt st54)
      have ne_a31_t54 : a31 ≠ t54 := Nat.ne_of_lt (Nat.lt_of_lt_of_le E31.lt st54)
      have ne_b32_t54 : b32 ≠ t54 := Nat.ne_of_lt (Nat.lt_of_lt_of_le A32.lt st54)
      have ne_a33_t54 : a33 ≠ t54 := Nat.ne_of_lt (Nat.lt_of_lt_of_le E33.lt st54)
      have ne_a36_t54 : a36 ≠ t54 := Nat.ne_of_lt (Nat.lt_of_lt_of_le E36.lt st54)
      have ne_b36_t54 : b36 ≠ t54 := Nat.ne_of_lt (Nat.lt_of_lt_of_le V36.lt st54)
      have ne_a37_t54 : a37 ≠ t54 := Nat.ne_of_lt (Nat.lt_of_lt_of_le E37.lt st54)
      have ne_b37_t54 : b37 ≠ t54 := Nat.ne_of_lt (Nat.lt_of_lt_of_le V37.lt st54)
      have ne_b33_t54 : b33 ≠ t54 := Nat.ne_of_lt (Nat.lt_of_lt_of_le V38.lt st54)
      have ne_b31_t54 : b31 ≠ t54 := Nat.ne_of_lt (Nat.lt_of_lt_of_le V39.lt st54)
      have ne_b40_t54 : b40 ≠ t54 := Nat.ne_of_lt (Nat.lt_of_lt_of_le V40.lt st54)
      have ne_b47_t54 : b47 ≠ t54 := Nat.ne_of_lt (Nat.lt_of_lt_of_le V47.lt st54)
      have ne_b30_tb54 : b30 ≠ tb54 := Nat.ne_of_lt (Nat.lt_of_lt_of_le A30.lt stb54)
      have ne_a31_tb54 : a31 ≠ tb54 := Nat.ne_of_lt (Nat.lt_of_lt_of_le E31.lt stb54)
      have ne_b32_tb54 : b32 ≠ tb54 := Nat.ne_of_lt (Nat.lt_of_lt_of_le A32.lt stb54)
      have ne_a33_tb54 : a33 ≠ tb54 := Nat.ne_of_lt (Nat.lt_of_lt_of_le E33.lt stb54)
      have ne_a36_tb54 : a36 ≠ tb54 := Nat.ne_of_lt (Nat.lt_of_lt_of_le E36.lt stb54)
      have ne_b36_tb54 : b36 ≠ tb54 := Nat.ne_of_lt (Nat.lt_of_lt_of_le V36.lt stb54)
      have ne_a37_tb54 : a37 ≠ tb54 := Nat.ne_of_lt (Nat.lt_of_lt_of_le E37.lt stb54)
      have ne_b37_tb54 : b37 ≠ tb54 := Nat.ne_of_lt (Nat.lt_of_lt_of_le V37.lt stb54)
      have ne_b33_tb54 : b33 ≠ tb54 := Nat.ne_of_lt (Nat.lt_of_lt_of_le V38.lt stb54)
      have ne_b31_tb54 : b31 ≠ tb54 := Nat.ne_of_lt (Nat.lt_of_lt_of_le V39.lt stb54)
      have ne_b40_tb54 : b40 ≠ tb54 := Nat.ne_of_lt (Nat.lt_of_lt_of_le V40.lt stb54)
      have ne_b47_tb54 : b47 ≠ tb54 := Nat.ne_of_lt (Nat.lt_of_lt_of_le V47.lt stb54)
      have A30 := A30.keep K54
      have FL31 := FL31.keep K54 nin0
      have E31 := E31.keep K54
      have A32 := A32.keep K54
      have FL33 := FL33.keep K54 nin0
      have E33 := E33.keep K54
      have E36 := E36.keep K54
      have FV36 := FV36.keep K54 nin0
      have FC36 := FC36.keep K54 nin0
      have V36 := V36.keep K54 nin0
      have E37 := E37.keep K54
      have FV37 := FV37.keep K54 nin0
      have FC37 := FC37.keep K54 nin0
      have V37 := V37.keep K54 nin0
      have FV38 := FV38.keep K54 nin0
      have FC38 := FC38.keep K54 nin0
      have FN38 := FN38.keep K54 nin0
      have FM38 := FM38.keep K54 nin0
      have V38 := V38.keep K54 nin0
      have FV39 := FV39.keep K54 nin0
      have FC39 := FC39.keep K54 nin0
      have FN39 := FN39.keep K54 nin0
      have FM39 := FM39.keep K54 nin0
      have V39 := V39.keep K54 nin0
      have V40 := V40.keep K54 nin0
      have V47 := V47.keep K54 nin0
      have O := O.keep K54 all0
      have Z0 : n0 ≤ T54.heap.size := Nat.le_trans Z0 K54.1
      have V54 : Arv Z T54.heap tb54 kt54 .byte (4 : Int32) [(.int (nar .byte v28.toInt8.toInt32)), (.int (nar .byte (61 : Int32).toInt8.toInt32)), (.int (nar .byte v29.toInt8.toInt32)), (.int (nar .byte (10 : Int32).toInt8.toInt32))] (.int (0 : Int32)) := V54
      show Gd p e below _ T54 (mkF m 269 #[.val (.int p0), .val (.int p1), .val (.int p2), .val (.int (0 : Int32)), .val (.int (1 : Int32)), .val (.int v26), .val (.int v27), .val (.int v28), .val (.int v29), .val (.ref b30), .val (.ref b32), .val (.ref b30), .val (.ref b40), .val (.int (4 : Int32)), .val (.ref b47), .val (.int (4 : Int32))] [(.ref t54)])
      refine g_aload X54 hx hby i0_269 rfl rfl ?_
      refine g_iload X54 hx hby i0_271 rfl ?_
      refine g_callS0 X54 hx hby hZ (y := (⟨"com/example/cloudgavel/cloudgavel/cli/ReportLinesPinLaw", "same", "(Ljava/lang/String;[CI)Z"⟩ : MethodName)) (argsL := [(.ref t54), (.ref b40), (.int (4 : Int32))]) (rest := []) hown (hw _ (List.mem_of_getElem? (i := 209) rfl)) (hw _ (List.mem_of_getElem? (i := 210) rfl)) (hw _ (List.mem_of_getElem? (i := 211) rfl)) (hw _ (List.mem_of_getElem? (i := 212) rfl)) (by decide) (rm39_4 l Z a0 hw [] t54 b40 (4 : Int32) cz sv tb54 kt54 (nar .byte v28.toInt8.toInt32) (nar .byte (61 : Int32).toInt8.toInt32) (nar .byte v29.toInt8.toInt32) (nar .byte (10 : Int32).toInt8.toInt32) k40 (nar .char v28) (nar .char (61 : Int32)) (nar .char v29) (nar .char (10 : Int32)) (0 : Int32) (0 : Int32) (0 : Int32) (0 : Int32) T54.heap n0 Z0 S0 hcz O hsv S1 E54 FV54 FC54 V54 V40 rfl (own_rt hv28) (by decide) (own_rt hv29) (by decide)) rfl (by rw [hml]; rfl) pd_30 rfl rfl i0_273 (by decide) 0 rfl (by decide) (by decide) (by decide) fun T55 v55 L55 X55 q55 => ?_
      obtain ⟨_, rfl, rfl, e55, N55⟩ := q55
      have N0 := Fr.app N0 N55
      show Gd p e below _ T55 (mkF m 276 #[.val (.int p0), .val (.int p1), .val (.int p2), .val (.int (0 : Int32)), .val (.int (1 : Int32)), .val (.int v26), .val (.int v27), .val (.int v28), .val (.int v29), .val (.ref b30), .val (.ref b32), .val (.ref b30), .val (.ref b40), .val (.int (4 : Int32)), .val (.ref b47), .val (.int (4 : Int32))] [(.int (1 : Int32))])
      refine g_if_eq X55 hx hby i0_276 (fun c276_56 => False.elim (absurd c276_56 (by decide))) fun c276_56 => ?_
      refine g_aload X55 hx hby i0_279 rfl rfl ?_
      refine g_callV0 X55 hx hby hZ (y0 := (⟨"com/example/cloudgavel/cloudgavel/cli/Report", "toString", "()Ljava/lang/String;"⟩ : MethodName)) (y := (⟨"com/example/cloudgavel/cloudgavel/cli/Report", "toString", "()Ljava/lang/String;"⟩ : MethodName)) (argsL := []) (rest := []) hown (hw _ (List.mem_of_getElem? (i := 170) rfl)) (hw _ (List.mem_of_getElem? (i := 171) rfl)) (notFace_of_selects (args := #[]) (mvT hZ (hw _ (List.mem_of_getElem? (i := 173) rfl)))) (hw _ (List.mem_of_getElem? (i := 173) rfl)) (hw _ (List.mem_of_getElem? (i := 172) rfl)) (hw _ (List.mem_of_getElem? (i := 2) rfl)) (hw _ (List.mem_of_getElem? (i := 174) rfl)) (by decide) (a := b32) A32 (rm30 l Z a0 hw [] b32 cz a33 b33 kb33 _ (4 : Int32) 4 T54.heap n0 Z0 S0 hcz O FL33 E33 FV38 FC38 FN38 V38 (by decide) (by decide) (by decide) (by decide)) e55 (by rw [hml]; rfl) pd_25 rfl rfl i0_281 (by decide) 0 rfl (by decide) (by decide) (by decide) fun T57 v57 L57 X57 q57 => ?_
      obtain ⟨_, rfl, K57, t57, tb57, kt57, rfl, g_t57, st57, E57, FV57, FC57, V57, g_tb57, stb57, ne_t57_tb57, N57⟩ := q57
      have N0 := Fr.app N0 N57
      have ne_b30_t57 : b30 ≠ t57 := Nat.ne_of_lt (Nat.lt_of_lt_of_le A30.lt st57)
      have ne_a31_t57 : a31 ≠ t57 := Nat.ne_of_lt (Nat.lt_of_lt_of_le E31.lt st57)
      have ne_b32_t57 : b32 ≠ t57 := Nat.ne_of_lt (Nat.lt_of_lt_of_le A32.lt st57)
      have ne_a33_t57 : a33 ≠ t57 := Nat.ne_of_lt (Nat.lt_of_lt_of_le E33.lt st57)
      have ne_a36_t57 : a36 ≠ t57 := Nat.ne_of_lt (Nat.lt_of_lt_of_le E36.lt st57)
      have ne_b36_t57 : b36 ≠ t57 := Nat.ne_of_lt (Nat.lt_of_lt_of_le V36.lt st57)
      have ne_a37_t57 : a37 ≠ t57 := Nat.ne_of_lt (Nat.lt_of_lt_of_le E37.lt st57)
      have ne_b37_t57 : b37 ≠ t57 := Nat.ne_of_lt (Nat.lt_of_lt_of_le V37.lt st57)
      have ne_b33_t57 : b33 ≠ t57 := Nat.ne_of_lt (Nat.lt_of_lt_of_le V38.lt st57)
      have ne_b31_t57 : b31 ≠ t57 := Nat.ne_of_lt (Nat.lt_of_lt_of_le V39.lt st57)
      have ne_b40_t57 : b40 ≠ t57 := Nat.ne_of_lt (Nat.lt_of_lt_of_le V40.lt st57)
      have ne_b47_t57 : b47 ≠ t57 := Nat.ne_of_lt (Nat.lt_of_lt_of_le V47.lt st57)
      have ne_t54_t57 : t54 ≠ t57 := Nat.ne_of_lt (Nat.lt_of_lt_of_le E54.lt st57)
      have ne_tb54_t57 : tb54 ≠ t57 := Nat.ne_of_lt (Nat.lt_of_lt_of_le V54.lt st57)
      have ne_b30_tb57 : b30 ≠ tb57 := Nat.ne_of_lt (Nat.lt_of_lt_of_le A30.lt stb57)
      have ne_a31_tb57 : a31 ≠ tb57 := Nat.ne_of_lt (Nat.lt_of_lt_of_le E31.lt stb57)
      have ne_b32_tb57 : b32 ≠ tb57 := Nat.ne_of_lt (Nat.lt_of_lt_of_le A32.lt stb57)
      have ne_a33_tb57 : a33 ≠ tb57 := Nat.ne_of_lt (Nat.lt_of_lt_of_le E33.lt stb57)
      have ne_a36_tb57 : a36 ≠ tb57 := Nat.ne_of_lt (Nat.lt_of_lt_of_le E36.lt stb57)
      have ne_b36_tb57 : b36 ≠ tb57 := Nat.ne_of_lt (Nat.lt_of_lt_of_le V36.lt stb57)
      have ne_a37_tb57 : a37 ≠ tb57 := Nat.ne_of_lt (Nat.lt_of_lt_of_le E37.lt stb57)
      have ne_b37_tb57 : b37 ≠ tb57 := Nat.ne_of_lt (Nat.lt_of_lt_of_le V37.lt stb57)
      have ne_b33_tb57 : b33 ≠ tb57 := Nat.ne_of_lt (Nat.lt_of_lt_of_le V38.lt stb57)
      have ne_b31_tb57 : b31 ≠ tb57 := Nat.ne_of_lt (Nat.lt_of_lt_of_le V39.lt stb57)
      have ne_b40_tb57 : b40 ≠ tb57 := Nat.ne_of_lt (Nat.lt_of_lt_of_le V40.lt stb57)
      have ne_b47_tb57 : b47 ≠ tb57 := Nat.ne_of_lt (Nat.lt_of_lt_of_le V47.lt stb57)
      have ne_t54_tb57 : t54 ≠ tb57 := Nat.ne_of_lt (Nat.lt_of_lt_of_le E54.lt stb57)
      have ne_tb54_tb57 : tb54 ≠ tb57 := Nat.ne_of_lt (Nat.lt_of_lt_of_le V54.lt stb57)
      have A30 := A30.keep K57
      have FL31 := FL31.keep K57 nin0
      have E31 := E31.keep K57
      have A32 := A32.keep K57
      have FL33 := FL33.keep K57 nin0
      have E33 := E33.keep K57
      have E36 := E36.keep K57
      have FV36 := FV36.keep K57 nin0
      have FC36 := FC36.keep K57 nin0
      have V36 := V36.keep K57 nin0
      have E37 := E37.keep K57
      have FV37 := FV37.keep K57 nin0
      have FC37 := FC37.keep K57 nin0
      have V37 := V37.keep K57 nin0
      have FV38 := FV38.keep K57 nin0
      have FC38 := FC38.keep K57 nin0
      have FN38 := FN38.keep K57 nin0
      have FM38 := FM38.keep K57 nin0
      have V38 := V38.keep K57 nin0
      have FV39 := FV39.keep K57 nin0
      have FC39 := FC39.keep K57 nin0
      have FN39 := FN39.keep K57 nin0
      have FM39 := FM39.keep K57 nin0
      have V39 := V39.keep K57 nin0
      have V40 := V40.keep K57 nin0
      have V47 := V47.keep K57 nin0
      have E54 := E54.keep K57
      have FV54 := FV54.keep K57 nin0
      have FC54 := FC54.keep K57 nin0
      have V54 := V54.keep K57 nin0
      have O := O.keep K57 all0
      have Z0 : n0 ≤ T57.heap.size := Nat.le_trans Z0 K57.1
      have V57 : Arv Z T57.heap tb57 kt57 .byte (4 : Int32) [(.int (nar .byte v28.toInt8.toInt32)), (.int (nar .byte (61 : Int32).toInt8.toInt32)), (.int (nar .byte v29.toInt8.toInt32)), (.int (nar .byte (10 : Int32).toInt8.toInt32))] (.int (0 : Int32)) := V57
      show Gd p e below _ T57 (mkF m 284 #[.val (.int p0), .val (.int p1), .val (.int p2), .val (.int (0 : Int32)), .val (.int (1 : Int32)), .val (.int v26), .val (.int v27), .val (.int v28), .val (.int v29), .val (.ref b30), .val (.ref b32), .val (.ref b30), .val (.ref b40), .val (.int (4 : Int32)), .val (.ref b47), .val (.int (4 : Int32))] [(.ref t57)])
      refine g_aload X57 hx hby i0_284 rfl rfl ?_
      refine g_iload X57 hx hby i0_286 rfl ?_
      refine g_callS0 X57 hx hby hZ (y := (⟨"com/example/cloudgavel/cloudgavel/cli/ReportLinesPinLaw", "same", "(Ljava/lang/String;[CI)Z"⟩ : MethodName)) (argsL := [(.ref t57), (.ref b47), (.int (4 : Int32))]) (rest := []) hown (hw _ (List.mem_of_getElem? (i := 209) rfl)) (hw _ (List.mem_of_getElem? (i := 210) rfl)) (hw _ (List.mem_of_getElem? (i := 211) rfl)) (hw _ (List.mem_of_getElem? (i := 212) rfl)) (by decide) (rm39_4 l Z a0 hw [] t57 b47 (4 : Int32) cz sv tb57 kt57 (nar .byte v28.toInt8.toInt32) (nar .byte (61 : Int32).toInt8.toInt32) (nar .byte v29.toInt8.toInt32) (nar .byte (10 : Int32).toInt8.toInt32) k47 (nar .char v28) (nar .char (61 : Int32)) (nar .char v29) (nar .char (10 : Int32)) (0 : Int32) (0 : Int32) (0 : Int32) (0 : Int32) T57.heap n0 Z0 S0 hcz O hsv S1 E57 FV57 FC57 V57 V47 rfl (own_rt hv28) (by decide) (own_rt hv29) (by decide)) rfl (by rw [hml]; rfl) pd_30 rfl rfl i0_288 (by decide) 0 rfl (by decide) (by decide) (by decide) fun T58 v58 L58 X58 q58 => ?_
      obtain ⟨_, rfl, rfl, e58, N58⟩ := q58
      have N0 := Fr.app N0 N58
      show Gd p e below _ T58 (mkF m 291 #[.val (.int p0), .val (.int p1), .val (.int p2), .val (.int (0 : Int32)), .val (.int (1 : Int32)), .val (.int v26), .val (.int v27), .val (.int v28), .val (.int v29), .val (.ref b30), .val (.ref b32), .val (.ref b30), .val (.ref b40), .val (.int (4 : Int32)), .val (.ref b47), .val (.int (4 : Int32))] [(.int (1 : Int32))])
      refine g_if_eq X58 hx hby i0_291 (fun c291_59 => False.elim (absurd c291_59 (by decide))) fun c291_59 => ?_
      refine g_iconst X58 hx hby i0_294 (z := (1 : Int32)) (by decide) ?_
      refine g_goto X58 hx hby i0_295 ?_
      refine g_ireturnN X58 hx hby (ty := .boolean) hret (by simp) hlk i0_299 (by decide) (by decide) ?_
      exact ⟨_, rfl, rfl, N0⟩
  · refine g_iconst X0 hx hby i0_6 (z := (1 : Int32)) (by decide) ?_
    refine g_goto X0 hx hby i0_7 ?_
    refine g_istoreN X0 hx hby i0_11 (l' := #[.val (.int p0), .val (.int p1), .val (.int p2), .val (.int (1 : Int32)), .unset, .unset, .unset, .unset, .unset, .unset, .unset, .unset, .unset, .unset, .unset, .unset]) rfl ?_
    refine g_iloadN X0 hx hby i0_12 rfl ?_
    refine g_iconst X0 hx hby i0_13 (z := (2 : Int32)) (by decide) ?_
    refine g_iand X0 hx hby i0_14 ?_
    refine g_if_eq X0 hx hby i0_15 (fun c15_60 => ?_) (fun c15_60 => ?_)
    · refine g_iconst X0 hx hby i0_22 (z := (0 : Int32)) (by decide) ?_
      refine g_istore X0 hx hby i0_23 (l' := #[.val (.int p0), .val (.int p1), .val (.int p2), .val (.int (1 : Int32)), .val (.int (0 : Int32)), .unset, .unset, .unset, .unset, .unset, .unset, .unset, .unset, .unset, .unset, .unset]) rfl ?_
      refine g_iloadN X0 hx hby i0_25 rfl ?_
      refine g_sipush X0 hx hby i0_26 (z := (255 : Int32)) (by decide) ?_
      refine g_iand X0 hx hby i0_29 ?_
      refine g_i2c X0 hx hby i0_30 ?_
      refine g_istoreW X0 hx hby i0_31 (l' := fun v61 => #[.val (.int p0), .val (.int p1), .val (.int p2), .val (.int (1 : Int32)), .val (.int (0 : Int32)), .val (.int v61), .unset, .unset, .unset, .unset, .unset, .unset, .unset, .unset, .unset, .unset]) (fun _ => rfl) fun v61 hv61 => ?_
      refine g_iloadN X0 hx hby i0_33 rfl ?_
      refine g_bipush X0 hx hby i0_34 (z := (8 : Int32)) (by decide) ?_
      refine g_iushr X0 hx hby i0_36 ?_
      refine g_sipush X0 hx hby i0_37 (z := (255 : Int32)) (by decide) ?_
      refine g_iand X0 hx hby i0_40 ?_
      refine g_i2c X0 hx hby i0_41 ?_
      refine g_istoreW X0 hx hby i0_42 (l' := fun v62 => #[.val (.int p0), .val (.int p1), .val (.int p2), .val (.int (1 : Int32)), .val (.int (0 : Int32)), .val (.int v61), .val (.int v62), .unset, .unset, .unset, .unset, .unset, .unset, .unset, .unset, .unset]) (fun _ => rfl) fun v62 hv62 => ?_
      refine g_iloadN X0 hx hby i0_44 rfl ?_
      refine g_sipush X0 hx hby i0_45 (z := (255 : Int32)) (by decide) ?_
      refine g_iand X0 hx hby i0_48 ?_
      refine g_i2c X0 hx hby i0_49 ?_
      refine g_istoreW X0 hx hby i0_50 (l' := fun v63 => #[.val (.int p0), .val (.int p1), .val (.int p2), .val (.int (1 : Int32)), .val (.int (0 : Int32)), .val (.int v61), .val (.int v62), .val (.int v63), .unset, .unset, .unset, .unset, .unset, .unset, .unset, .unset]) (fun _ => rfl) fun v63 hv63 => ?_
      refine g_iloadN X0 hx hby i0_52 rfl ?_
      refine g_bipush X0 hx hby i0_53 (z := (8 : Int32)) (by decide) ?_
      refine g_iushr X0 hx hby i0_55 ?_
      refine g_sipush X0 hx hby i0_56 (z := (255 : Int32)) (by decide) ?_
      refine g_iand X0 hx hby i0_59 ?_
      refine g_i2c X0 hx hby i0_60 ?_
      refine g_istoreW X0 hx hby i0_61 (l' := fun v64 => #[.val (.int p0), .val (.int p1), .val (.int p2), .val (.int (1 : Int32)), .val (.int (0 : Int32)), .val (.int v61), .val (.int v62), .val (.int v63), .val (.int v64), .unset, .unset, .unset, .unset, .unset, .unset, .unset]) (fun _ => rfl) fun v64 hv64 => ?_
      refine g_new X0 hx hby hZ hown (hw _ (List.mem_of_getElem? (i := 0) rfl)) (hw _ (List.mem_of_getElem? (i := 1) rfl)) (hw _ (List.mem_of_getElem? (i := 2) rfl)) e0 i0_63 (by decide) (by decide) fun T65 h65 b65 X65 e65 E65 hb65 A65 D65 => ?_
      have g_b65 : n0 ≤ b65 := Nat.le_trans Z0 (Nat.le_of_eq hb65.symm)
      have O := O.ext E65
      have Z0 : n0 ≤ h65.size := Nat.le_trans Z0 E65.1
      have F65_lines : Fld Z h65 b65 "com/example/cloudgavel/cloudgavel/cli/Report" "lines" "Ljava/lang/StringBuilder;" .null := D65 (Or.inr (hw _ (List.mem_of_getElem? (i := 30) rfl))) (ty := (.object "java/lang/StringBuilder")) (by decide)
      refine g_dup X65 hx hby i0_66 rfl ?_
      refine g_callInit0 X65 hx hby hZ (y := (⟨"com/example/cloudgavel/cloudgavel/cli/Report", "<init>", "()V"⟩ : MethodName)) (argsL := []) (rest := [(.ref b65)]) rfl hown (hw _ (List.mem_of_getElem? (i := 3) rfl)) (hw _ (List.mem_of_getElem? (i := 4) rfl)) (hw _ (List.mem_of_getElem? (i := 2) rfl)) (hw _ (List.mem_of_getElem? (i := 5) rfl)) (by decide) (a := b65) (rm1 l Z a0 hw [] b65 cz h65 n0 Z0 S0 hcz O A65 F65_lines g_b65) e65 (by rw [hml]; rfl) pd_14 rfl rfl i0_67 (by decide) 1 rfl (by decide) (by decide) (by decide) fun T66 v66 L66 X66 q66 => ?_
      obtain ⟨rfl, K66, a66, -, FL66, g_a66, sa66, b66, ne_a66_b66, kb66, E66, FV66, FC66, FN66, V66, FM66, g_b66, sb66, N66⟩ := q66
      have N0 := Fr.app N0 N66
      have ne_b65_a66 : b65 ≠ a66 := Nat.ne_of_lt (Nat.lt_of_lt_of_le A65.lt sa66)
      have ne_b65_b66 : b65 ≠ b66 := Nat.ne_of_lt (Nat.lt_of_lt_of_le A65.lt sb66)
      have A65 := A65.keep K66
      have O := O.keep K66 (allS g_b65 all0)
      have Z0 : n0 ≤ T66.heap.size := Nat.le_trans Z0 K66.1
      show Gd p e below _ T66 (mkF m 70 #[.val (.int p0), .val (.int p1), .val (.int p2), .val (.int (1 : Int32)), .val (.int (0 : Int32)), .val (.int v61), .val (.int v62), .val (.int v63), .val (.int v64), .unset, .unset, .unset, .unset, .unset, .unset, .unset] [(.ref b65)])
      refine g_astore X66 hx hby i0_70 rfl (l' := #[.val (.int p0), .val (.int p1), .val (.int p2), .val (.int (1 : Int32)), .val (.int (0 : Int32)), .val (.int v61), .val (.int v62), .val (.int v63), .val (.int v64), .val (.ref b65), .unset, .unset, .unset, .unset, .unset, .unset]) rfl ?_
      refine g_new X66 hx hby hZ hown (hw _ (List.mem_of_getElem? (i := 0) rfl)) (hw _ (List.mem_of_getElem? (i := 1) rfl)) (hw _ (List.mem_of_getElem? (i := 2) rfl)) rfl i0_72 (by decide) (by decide) fun T67 h67 b67 X67 e67 E67 hb67 A67 D67 => ?_
      have ne_b65_b67 : b65 ≠ b67 := Nat.ne_of_lt (Nat.lt_of_lt_of_le A65.lt (Nat.le_of_eq hb67.symm))
      have ne_a66_b67 : a66 ≠ b67 := Nat.ne_of_lt (Nat.lt_of_lt_of_le E66.lt (Nat.le_of_eq hb67.symm))
      have ne_b66_b67 : b66 ≠ b67 := Nat.ne_of_lt (Nat.lt_of_lt_of_le V66.lt (Nat.le_of_eq hb67.symm))
      have g_b67 : n0 ≤ b67 := Nat.le_trans Z0 (Nat.le_of_eq hb67.symm)
      have A65 := A65.ext E67
      have FL66 := FL66.ext E67
      have E66 := E66.ext E67
      have FV66 := FV66.ext E67
      have FC66 := FC66.ext E67
      have FN66 := FN66.ext E67
      have FM66 := FM66.ext E67
      have V66 := V66.ext E67
      have O := O.ext E67
      have Z0 : n0 ≤ h67.size := Nat.le_trans Z0 E67.1
      have F67_lines : Fld Z h67 b67 "com/example/cloudgavel/cloudgavel/cli/Report" "lines" "Ljava/lang/StringBuilder;" .null := D67 (Or.inr (hw _ (List.mem_of_getElem? (i := 30) rfl))) (ty := (.object "java/lang/StringBuilder")) (by decide)
      refine g_dup X67 hx hby i0_75 rfl ?_
      refine g_callInit0 X67 hx hby hZ (y := (⟨"com/example/cloudgavel/cloudgavel/cli/Report", "<init>", "()V"⟩ : MethodName)) (argsL := []) (rest := [(.ref b67)]) rfl hown (hw _ (List.mem_of_getElem? (i := 3) rfl)) (hw _ (List.mem_of_getElem? (i := 4) rfl)) (hw _ (List.mem_of_getElem? (i := 2) rfl)) (hw _ (List.mem_of_getElem? (i := 5) rfl)) (by decide) (a := b67) (rm1 l Z a0 hw [] b67 cz h67 n0 Z0 S0 hcz O A67 F67_lines g_b67) e67 (by rw [hml]; rfl) pd_14 rfl rfl i0_76 (by decide) 1 rfl (by decide) (by decide) (by decide) fun T68 v68 L68 X68 q68 => ?_
      obtain ⟨rfl, K68, a68, -, FL68, g_a68, sa68, b68, ne_a68_b68, kb68, E68, FV68, FC68, FN68, V68, FM68, g_b68, sb68, N68⟩ := q68
      have N0 := Fr.app N0 N68
      have ne_b65_a68 : b65 ≠ a68 := Nat.ne_of_lt (Nat.lt_of_lt_of_le A65.lt sa68)
      have ne_a66_a68 : a66 ≠ a68 := Nat.ne_of_lt (Nat.lt_of_lt_of_le E66.lt sa68)
      have ne_b66_a68 : b66 ≠ a68 := Nat.ne_of_lt (Nat.lt_of_lt_of_le V66.lt sa68)
      have ne_b67_a68 : b67 ≠ a68 := Nat.ne_of_lt (Nat.lt_of_lt_of_le A67.lt sa68)
      have ne_b65_b68 : b65 ≠ b68 := Nat.ne_of_lt (Nat.lt_of_lt_of_le A65.lt sb68)
      have ne_a66_b68 : a66 ≠ b68 := Nat.ne_of_lt (Nat.lt_of_lt_of_le E66.lt sb68)
      have ne_b66_b68 : b66 ≠ b68 := Nat.ne_of_lt (Nat.lt_of_lt_of_le V66.lt sb68)
      have ne_b67_b68 : b67 ≠ b68 := Nat.ne_of_lt (Nat.lt_of_lt_of_le A67.lt sb68)
      have A65 := A65.keep K68
      have FL66 := FL66.keep K68 (ninS ne_b65_b67 nin0)
      have E66 := E66.keep K68
      have FV66 := FV66.keep K68 (ninS ne_a66_b67 nin0)
      have FC66 := FC66.keep K68 (ninS ne_a66_b67 nin0)
      have FN66 := FN66.keep K68 (ninS ne_a66_b67 nin0)
      have FM66 := FM66.keep K68 (ninS ne_a66_b67 nin0)
      have V66 := V66.keep K68 (ninS ne_b66_b67 nin0)
      have A67 := A67.keep K68
      have O := O.keep K68 (allS g_b67 all0)
      have Z0 : n0 ≤ T68.heap.size := Nat.le_trans Z0 K68.1
      show Gd p e below _ T68 (mkF m 79 #[.val (.int p0), .val (.int p1), .val (.int p2), .val (.int (1 : Int32)), .val (.int (0 : Int32)), .val (.int v61), .val (.int v62), .val (.int v63), .val (.int v64), .val (.ref b65), .unset, .unset, .unset, .unset, .unset, .unset] [(.ref b67)])
      refine g_astore X68 hx hby i0_79 rfl (l' := #[.val (.int p0), .val (.int p1), .val (.int p2), .val (.int (1 : Int32)), .val (.int (0 : Int32)), .val (.int v61), .val (.int v62), .val (.int v63), .val (.int v64), .val (.ref b65), .val (.ref b67), .unset, .unset, .unset, .unset, .unset]) rfl ?_
      refine g_iloadN X68 hx hby i0_81 rfl ?_
      refine g_if_eq X68 hx hby i0_82 (fun c82_69 => False.elim (absurd c82_69 (by decide))) fun c82_69 => ?_
      refine g_aload X68 hx hby i0_85 rfl rfl ?_
      refine g_iload X68 hx hby i0_87 rfl ?_
      refine g_callS0 X68 hx hby hZ (y := (⟨"java/lang/String", "valueOf", "(C)Ljava/lang/String;"⟩ : MethodName)) (argsL := [(.int v61)]) (rest := [(.ref b65)]) hown (hw _ (List.mem_of_getElem? (i := 31) rfl)) (hw _ (List.mem_of_getElem? (i := 32) rfl)) (hw _ (List.mem_of_getElem? (i := 23) rfl)) (hw _ (List.mem_of_getElem? (i := 33) rfl)) (by decide) (rm5 l Z a0 hw [] v61 cz T68.heap n0 Z0 S0 hcz O (own_enc hv61)) rfl (by rw [hml]; rfl) pd_31 rfl rfl i0_89 (by decide) 1 rfl (by decide) (by decide) (by decide) fun T70 v70 L70 X70 q70 => ?_
      obtain ⟨_, rfl, a70, b70, kb70, rfl, K70, E70, FV70, FC70, V70, g_a70, g_b70, sa70, sb70, ne_a70_b70, N70⟩ := q70
      have N0 := Fr.app N0 N70
      have ne_b65_a70 : b65 ≠ a70 := Nat.ne_of_lt (Nat.lt_of_lt_of_le A65.lt sa70)
      have ne_b65_b70 : b65 ≠ b70 := Nat.ne_of_lt (Nat.lt_of_lt_of_le A65.lt sb70)
      have ne_a66_a70 : a66 ≠ a70 := Nat.ne_of_lt (Nat.lt_of_lt_of_le E66.lt sa70)
      have ne_a66_b70 : a66 ≠ b70 := Nat.ne_of_lt (Nat.lt_of_lt_of_le E66.lt sb70)
      have ne_b66_a70 : b66 ≠ a70 := Nat.ne_of_lt (Nat.lt_of_lt_of_le V66.lt sa70)
      have ne_b66_b70 : b66 ≠ b70 := Nat.ne_of_lt (Nat.lt_of_lt_of_le V66.lt sb70)
      have ne_b67_a70 : b67 ≠ a70 := Nat.ne_of_lt (Nat.lt_of_lt_of_le A67.lt sa70)
      have ne_b67_b70 : b67 ≠ b70 := Nat.ne_of_lt (Nat.lt_of_lt_of_le A67.lt sb70)
      have ne_a68_a70 : a68 ≠ a70 := Nat.ne_of_lt (Nat.lt_of_lt_of_le E68.lt sa70)
      have ne_a68_b70 : a68 ≠ b70 := Nat.ne_of_lt (Nat.lt_of_lt_of_le E68.lt sb70)
      have ne_b68_a70 : b68 ≠ a70 := Nat.ne_of_lt (Nat.lt_of_lt_of_le V68.lt sa70)
      have ne_b68_b70 : b68 ≠ b70 := Nat.ne_of_lt (Nat.lt_of_lt_of_le V68.lt sb70)
      have A65 := A65.keep K70
      have FL66 := FL66.keep K70 nin0
      have E66 := E66.keep K70
      have FV66 := FV66.keep K70 nin0
      have FC66 := FC66.keep K70 nin0
      have FN66 := FN66.keep K70 nin0
      have FM66 := FM66.keep K70 nin0
      have V66 := V66.keep K70 nin0
      have A67 := A67.keep K70
      have FL68 := FL68.keep K70 nin0
      have E68 := E68.keep K70
      have FV68 := FV68.keep K70 nin0
      have FC68 := FC68.keep K70 nin0
      have FN68 := FN68.keep K70 nin0
      have FM68 := FM68.keep K70 nin0
      have V68 := V68.keep K70 nin0
      have O := O.keep K70 all0
      have Z0 : n0 ≤ T70.heap.size := Nat.le_trans Z0 K70.1
      show Gd p e below _ T70 (mkF m 92 #[.val (.int p0), .val (.int p1), .val (.int p2), .val (.int (1 : Int32)), .val (.int (0 : Int32)), .val (.int v61), .val (.int v62), .val (.int v63), .val (.int v64), .val (.ref b65), .val (.ref b67), .unset, .unset, .unset, .unset, .unset] [(.ref a70), (.ref b65)])
      refine g_iload X70 hx hby i0_92 rfl ?_
      refine g_callS0 X70 hx hby hZ (y := (⟨"java/lang/String", "valueOf", "(C)Ljava/lang/String;"⟩ : MethodName)) (argsL := [(.int v62)]) (rest := [(.ref a70), (.ref b65)]) hown (hw _ (List.mem_of_getElem? (i := 31) rfl)) (hw _ (List.mem_of_getElem? (i := 32) rfl)) (hw _ (List.mem_of_getElem? (i := 23) rfl)) (hw _ (List.mem_of_getElem? (i := 33) rfl)) (by decide) (rm5 l Z a0 hw [] v62 cz T70.heap n0 Z0 S0 hcz O (own_enc hv62)) rfl (by rw [hml]; rfl) pd_31 rfl rfl i0_94 (by decide) 2 rfl (by decide) (by decide) (by decide) fun T71 v71 L71 X71 q71 => ?_
      obtain ⟨_, rfl, a71, b71, kb71, rfl, K71, E71, FV71, FC71, V71, g_a71, g_b71, sa71, sb71, ne_a71_b71, N71⟩ := q71
      have N0 := Fr.app N0 N71
      have ne_b65_a71 : b65 ≠ a71 := Nat.ne_of_lt (Nat.lt_of_lt_of_le A65.lt sa71)
      have ne_b65_b71 : b65 ≠ b71 := Nat.ne_of_lt (Nat.lt_of_lt_of_le A65.lt sb71)
      have ne_a66_a71 : a66 ≠ a71 := Nat.ne_of_lt (Nat.lt_of_lt_of_le E66.lt sa71)
      have ne_a66_b71 : a66 ≠ b71 := Nat.ne_of_lt (Nat.lt_of_lt_of_le E66.lt sb71)
      have ne_b66_a71 : b66 ≠ a71 := Nat.ne_of_lt (Nat.lt_of_lt_of_le V66.lt sa71)
      have ne_b66_b71 : b66 ≠ b71 := Nat.ne_of_lt (Nat.lt_of_lt_of_le V66.lt sb71)
      have ne_b67_a71 : b67 ≠ a71 := Nat.ne_of_lt (Nat.lt_of_lt_of_le A67.lt sa71)
      have ne_b67_b71 : b67 ≠ b71 := Nat.ne_of_lt (Nat.lt_of_lt_of_le A67.lt sb71)
      have ne_a68_a71 : a68 ≠ a71 := Nat.ne_of_lt (Nat.lt_of_lt_of_le E68.lt sa71)
      have ne_a68_b71 : a68 ≠ b71 := Nat.ne_of_lt (Nat.lt_of_lt_of_le E68.lt sb71)
      have ne_b68_a71 : b68 ≠ a71 := Nat.ne_of_lt (Nat.lt_of_lt_of_le V68.lt sa71)
      have ne_b68_b71 : b68 ≠ b71 := Nat.ne_of_lt (Nat.lt_of_lt_of_le V68.lt sb71)
      have ne_a70_a71 : a70 ≠ a71 := Nat.ne_of_lt (Nat.lt_of_lt_of_le E70.lt sa71)
      have ne_a70_b71 : a70 ≠ b71 := Nat.ne_of_lt (Nat.lt_of_lt_of_le E70.lt sb71)
      have ne_b70_a71 : b70 ≠ a71 := Nat.ne_of_lt (Nat.lt_of_lt_of_le V70.lt sa71)
      have ne_b70_b71 : b70 ≠ b71 := Nat.ne_of_lt (Nat.lt_of_lt_of_le V70.lt sb71)
      have A65 := A65.keep K71
      have FL66 := FL66.keep K71 nin0
      have E66 := E66.keep K71
      have FV66 := FV66.keep K71 nin0
      have FC66 := FC66.keep K71 nin0
      have FN66 := FN66.keep K71 nin0
      have FM66 := FM66.keep K71 nin0
      have V66 := V66.keep K71 nin0
      have A67 := A67.keep K71
      have FL68 := FL68.keep K71 nin0
      have E68 := E68.keep K71
      have FV68 := FV68.keep K71 nin0
      have FC68 := FC68.keep K71 nin0
      have FN68 := FN68.keep K71 nin0
      have FM68 := FM68.keep K71 nin0
      have V68 := V68.keep K71 nin0
      have E70 := E70.keep K71
      have FV70 := FV70.keep K71 nin0
      have FC70 := FC70.keep K71 nin0
      have V70 := V70.keep K71 nin0
      have O := O.keep K71 all0
      have Z0 : n0 ≤ T71.heap.size := Nat.le_trans Z0 K71.1
      show Gd p e below _ T71 (mkF m 97 #[.val (.int p0), .val (.int p1), .val (.int p2), .val (.int (1 : Int32)), .val (.int (0 : Int32)), .val (.int v61), .val (.int v62), .val (.int v63), .val (.int v64), .val (.ref b65), .val (.ref b67), .unset, .unset, .unset, .unset, .unset] [(.ref a71), (.ref a70), (.ref b65)])
      refine g_callV0 X71 hx hby hZ (y0 := (⟨"com/example/cloudgavel/cloudgavel/cli/Report", "text", "(Ljava/lang/String;Ljava/lang/String;)Lcom/example/cloudgavel/cloudgavel/cli/Report;"⟩ : MethodName)) (y := (⟨"com/example/cloudgavel/cloudgavel/cli/Report", "text", "(Ljava/lang/String;Ljava/lang/String;)Lcom/example/cloudgavel/cloudgavel/cli/Report;"⟩ : MethodName)) (argsL := [(.ref a70), (.ref a71)]) (rest := []) hown (hw _ (List.mem_of_getElem? (i := 53) rfl)) (hw _ (List.mem_of_getElem? (i := 54) rfl)) (notFace_of_selects (args := #[]) (mvT hZ (hw _ (List.mem_of_getElem? (i := 56) rfl)))) (hw _ (List.mem_of_getElem? (i := 56) rfl)) (hw _ (List.mem_of_getElem? (i := 55) rfl)) (hw _ (List.mem_of_getElem? (i := 2) rfl)) (hw _ (List.mem_of_getElem? (i := 57) rfl)) (by decide) (a := b65) A65 (rm9 l Z a0 hw [] b65 a70 a71 cz a66 b66 kb66 b70 kb70 (nar .byte v61.toInt8.toInt32) b71 kb71 (nar .byte v62.toInt8.toInt32) T71.heap n0 Z0 S0 hcz O FL66 E66 FV66 FC66 FN66 V66 FM66 E70 FV70 FC70 V70 E71 FV71 FC71 V71 g_a66 g_b66 ne_b65_a66 ne_b65_b66 (Ne.symm ne_a66_a70) (Ne.symm ne_b66_a70) (Ne.symm ne_a66_b70) (Ne.symm ne_b66_b70) (Ne.symm ne_a66_a71) (Ne.symm ne_b66_a71) (Ne.symm ne_a66_b71) (Ne.symm ne_b66_b71) ne_a66_b66) rfl (by rw [hml]; rfl) pd_32 rfl rfl i0_97 (by decide) 0 rfl (by decide) (by decide) (by decide) fun T72 v72 L72 X72 q72 => ?_
      obtain ⟨_, rfl, rfl, K72, E72, FV72, FC72, FN72, V72, FM72, N72⟩ := q72
      have N0 := Fr.app N0 N72
      have A65 := A65.keep K72
      have FL66 := FL66.keep K72 (ninS ne_b65_a66 (ninS ne_b65_b66 nin0))
      have E66 := E66.keep K72
      have A67 := A67.keep K72
      have FL68 := FL68.keep K72 (ninS (Ne.symm ne_a66_b67) (ninS (Ne.symm ne_b66_b67) nin0))
      have E68 := E68.keep K72
      have FV68 := FV68.keep K72 (ninS (Ne.symm ne_a66_a68) (ninS (Ne.symm ne_b66_a68) nin0))
      have FC68 := FC68.keep K72 (ninS (Ne.symm ne_a66_a68) (ninS (Ne.symm ne_b66_a68) nin0))
      have FN68 := FN68.keep K72 (ninS (Ne.symm ne_a66_a68) (ninS (Ne.symm ne_b66_a68) nin0))
      have FM68 := FM68.keep K72 (ninS (Ne.symm ne_a66_a68) (ninS (Ne.symm ne_b66_a68) nin0))
      have V68 := V68.keep K72 (ninS (Ne.symm ne_a66_b68) (ninS (Ne.symm ne_b66_b68) nin0))
      have E70 := E70.keep K72
      have FV70 := FV70.keep K72 (ninS (Ne.symm ne_a66_a70) (ninS (Ne.symm ne_b66_a70) nin0))
      have FC70 := FC70.keep K72 (ninS (Ne.symm ne_a66_a70) (ninS (Ne.symm ne_b66_a70) nin0))
      have V70 := V70.keep K72 (ninS (Ne.symm ne_a66_b70) (ninS (Ne.symm ne_b66_b70) nin0))
      have E71 := E71.keep K72
      have FV71 := FV71.keep K72 (ninS (Ne.symm ne_a66_a71) (ninS (Ne.symm ne_b66_a71) nin0))
      have FC71 := FC71.keep K72 (ninS (Ne.symm ne_a66_a71) (ninS (Ne.symm ne_b66_a71) nin0))
      have V71 := V71.keep K72 (ninS (Ne.symm ne_a66_b71) (ninS (Ne.symm ne_b66_b71) nin0))
      have O := O.keep K72 (allS g_a66 (allS g_b66 all0))
      have Z0 : n0 ≤ T72.heap.size := Nat.le_trans Z0 K72.1
      show Gd p e below _ T72 (mkF m 100 #[.val (.int p0), .val (.int p1), .val (.int p2), .val (.int (1 : Int32)), .val (.int (0 : Int32)), .val (.int v61), .val (.int v62), .val (.int v63), .val (.int v64), .val (.ref b65), .val (.ref b67), .unset, .unset, .unset, .unset, .unset] [(.ref b65)])
      refine g_pop X72 hx hby i0_100 rfl ?_
      refine g_iload X72 hx hby i0_101 rfl ?_
      refine g_if_eq X72 hx hby i0_103 (fun c103_73 => ?_) (fun c103_73 => False.elim (absurd c103_73 (by decide)))
      refine g_aload X72 hx hby i0_122 rfl rfl ?_
      refine g_aload X72 hx hby i0_124 rfl rfl ?_
      refine g_callV0 X72 hx hby hZ (y0 := (⟨"com/example/cloudgavel/cloudgavel/cli/Report", "lines", "(Lcom/example/cloudgavel/cloudgavel/cli/Report;)Lcom/example/cloudgavel/cloudgavel/cli/Report;"⟩ : MethodName)) (y := (⟨"com/example/cloudgavel/cloudgavel/cli/Report", "lines", "(Lcom/example/cloudgavel/cloudgavel/cli/Report;)Lcom/example/cloudgavel/cloudgavel/cli/Report;"⟩ : MethodName)) (argsL := [(.ref b67)]) (rest := []) hown (hw _ (List.mem_of_getElem? (i := 120) rfl)) (hw _ (List.mem_of_getElem? (i := 121) rfl)) (notFace_of_selects (args := #[]) (mvT hZ (hw _ (List.mem_of_getElem? (i := 123) rfl)))) (hw _ (List.mem_of_getElem? (i := 123) rfl)) (hw _ (List.mem_of_getElem? (i := 122) rfl)) (hw _ (List.mem_of_getElem? (i := 2) rfl)) (hw _ (List.mem_of_getElem? (i := 124) rfl)) (by decide) (a := b65) A65 (rm21 l Z a0 hw [] b65 b67 cz a66 b66 kb66 _ (4 : Int32) a68 b68 kb68 _ (0 : Int32) 4 0 T72.heap n0 Z0 S0 hcz O FL66 FL68 E66 FV72 FC72 FN72 V72 FM72 E68 FV68 FC68 FN68 V68 FM68 g_a66 g_b66 ne_a66_b66 (Ne.symm ne_a66_a68) (Ne.symm ne_b66_a68) (Ne.symm ne_a66_b68) (Ne.symm ne_b66_b68) (by decide) (by decide) (by decide) (by decide) (by decide) (by decide) rfl (by decide) (by decide) ne_b65_a66 ne_b65_b66 (Ne.symm ne_a66_b67) (Ne.symm ne_b66_b67)) rfl (by rw [hml]; rfl) pd_29 rfl rfl i0_126 (by decide) 0 rfl (by decide) (by decide) (by decide) fun T74 v74 L74 X74 q74 => ?_
      obtain ⟨_, rfl, rfl, K74, E74, FV74, FC74, FN74, V74, FM74, N74⟩ := q74
      have N0 := Fr.app N0 N74
      have A65 := A65.keep K74
      have FL66 := FL66.keep K74 (ninS ne_b65_a66 (ninS ne_b65_b66 nin0))
      have E66 := E66.keep K74
      have A67 := A67.keep K74
      have FL68 := FL68.keep K74 (ninS (Ne.symm ne_a66_b67) (ninS (Ne.symm ne_b66_b67) nin0))
      have E68 := E68.keep K74
      have FV68 := FV68.keep K74 (ninS (Ne.symm ne_a66_a68) (ninS (Ne.symm ne_b66_a68) nin0))
      have FC68 := FC68.keep K74 (ninS (Ne.symm ne_a66_a68) (ninS (Ne.symm ne_b66_a68) nin0))
      have FN68 := FN68.keep K74 (ninS (Ne.symm ne_a66_a68) (ninS (Ne.symm ne_b66_a68) nin0))
      have FM68 := FM68.keep K74 (ninS (Ne.symm ne_a66_a68) (ninS (Ne.symm ne_b66_a68) nin0))
      have V68 := V68.keep K74 (ninS (Ne.symm ne_a66_b68) (ninS (Ne.symm ne_b66_b68) nin0))
      have E70 := E70.keep K74
      have FV70 := FV70.keep K74 (ninS (Ne.symm ne_a66_a70) (ninS (Ne.symm ne_b66_a70) nin0))
      have FC70 := FC70.keep K74 (ninS (Ne.symm ne_a66_a70) (ninS (Ne.symm ne_b66_a70) nin0))
      have V70 := V70.keep K74 (ninS (Ne.symm ne_a66_b70) (ninS (Ne.symm ne_b66_b70) nin0))
      have E71 := E71.keep K74
      have FV71 := FV71.keep K74 (ninS (Ne.symm ne_a66_a71) (ninS (Ne.symm ne_b66_a71) nin0))
      have FC71 := FC71.keep K74 (ninS (Ne.symm ne_a66_a71) (ninS (Ne.symm ne_b66_a71) nin0))
      have V71 := V71.keep K74 (ninS (Ne.symm ne_a66_b71) (ninS (Ne.symm ne_b66_b71) nin0))
      have O := O.keep K74 (allS g_a66 (allS g_b66 all0))
      have Z0 : n0 ≤ T74.heap.size := Nat.le_trans Z0 K74.1
      rw [show (4 : Int32) + (0 : Int32) = (4 : Int32) from by decide] at FN74
      have V74 : Arv Z T74.heap b66 kb66 .byte (16 : Int32) [(.int (nar .byte v61.toInt8.toInt32)), (.int (nar .byte (61 : Int32).toInt8.toInt32)), (.int (nar .byte v62.toInt8.toInt32)), (.int (nar .byte (10 : Int32).toInt8.toInt32)), (.int (0 : Int32)), (.int (0 : Int32)), (.int (0 : Int32)), (.int (0 : Int32)), (.int (0 : Int32)), (.int (0 : Int32)), (.int (0 : Int32)), (.int (0 : Int32)), (.int (0 : Int32)), (.int (0 : Int32)), (.int (0 : Int32)), (.int (0 : Int32))] (.int (0 : Int32)) := V74
      show Gd p e below _ T74 (mkF m 129 #[.val (.int p0), .val (.int p1), .val (.int p2), .val (.int (1 : Int32)), .val (.int (0 : Int32)), .val (.int v61), .val (.int v62), .val (.int v63), .val (.int v64), .val (.ref b65), .val (.ref b67), .unset, .unset, .unset, .unset, .unset] [(.ref b65)])
      refine g_astore X74 hx hby i0_129 rfl (l' := #[.val (.int p0), .val (.int p1), .val (.int p2), .val (.int (1 : Int32)), .val (.int (0 : Int32)), .val (.int v61), .val (.int v62), .val (.int v63), .val (.int v64), .val (.ref b65), .val (.ref b67), .val (.ref b65), .unset, .unset, .unset, .unset]) rfl ?_
      refine g_bipush X74 hx hby i0_131 (z := (8 : Int32)) (by decide) ?_
      refine g_newarray X74 hx hby hZ (ty := .char) rfl (hw _ (List.mem_of_getElem? (i := 169) rfl)) rfl i0_133 (by decide) 8 (by decide) (by decide) (by decide) (by decide) fun T75 h75 b75 k75 X75 e75 E75 hb75 V75 => ?_
      have ne_b65_b75 : b65 ≠ b75 := Nat.ne_of_lt (Nat.lt_of_lt_of_le A65.lt (Nat.le_of_eq hb75.symm))
      have ne_a66_b75 : a66 ≠ b75 := Nat.ne_of_lt (Nat.lt_of_lt_of_le E66.lt (Nat.le_of_eq hb75.symm))
      have ne_b67_b75 : b67 ≠ b75 := Nat.ne_of_lt (Nat.lt_of_lt_of_le A67.lt (Nat.le_of_eq hb75.symm))
      have ne_a68_b75 : a68 ≠ b75 := Nat.ne_of_lt (Nat.lt_of_lt_of_le E68.lt (Nat.le_of_eq hb75.symm))
      have ne_b68_b75 : b68 ≠ b75 := Nat.ne_of_lt (Nat.lt_of_lt_of_le V68.lt (Nat.le_of_eq hb75.symm))
      have ne_a70_b75 : a70 ≠ b75 := Nat.ne_of_lt (Nat.lt_of_lt_of_le E70.lt (Nat.le_of_eq hb75.symm))
      have ne_b70_b75 : b70 ≠ b75 := Nat.ne_of_lt (Nat.lt_of_lt_of_le V70.lt (Nat.le_of_eq hb75.symm))
      have ne_a71_b75 : a71 ≠ b75 := Nat.ne_of_lt (Nat.lt_of_lt_of_le E71.lt (Nat.le_of_eq hb75.symm))
      have ne_b71_b75 : b71 ≠ b75 := Nat.ne_of_lt (Nat.lt_of_lt_of_le V71.lt (Nat.le_of_eq hb75.symm))
      have ne_b66_b75 : b66 ≠ b75 := Nat.ne_of_lt (Nat.lt_of_lt_of_le V74.lt (Nat.le_of_eq hb75.symm))
      have g_b75 : n0 ≤ b75 := Nat.le_trans Z0 (Nat.le_of_eq hb75.symm)
      have A65 := A65.ext E75
      have FL66 := FL66.ext E75
      have E66 := E66.ext E75
      have A67 := A67.ext E75
      have FL68 := FL68.ext E75
      have E68 := E68.ext E75
      have FV68 := FV68.ext E75
      have FC68 := FC68.ext E75
      have FN68 := FN68.ext E75
      have FM68 := FM68.ext E75
      have V68 := V68.ext E75
      have E70 := E70.ext E75
      have FV70 := FV70.ext E75
      have FC70 := FC70.ext E75
      have V70 := V70.ext E75
      have E71 := E71.ext E75
      have FV71 := FV71.ext E75
      have FC71 := FC71.ext E75
      have V71 := V71.ext E75
      have FV74 := FV74.ext E75
      have FC74 := FC74.ext E75
      have FN74 := FN74.ext E75
      have FM74 := FM74.ext E75
      have V74 := V74.ext E75
      have O := O.ext E75
      have Z0 : n0 ≤ h75.size := Nat.le_trans Z0 E75.1
      have V75 : Arv Z h75 b75 k75 .char (8 : Int32) [(.int (0 : Int32)), (.int (0 : Int32)), (.int (0 : Int32)), (.int (0 : Int32)), (.int (0 : Int32)), (.int (0 : Int32)), (.int (0 : Int32)), (.int (0 : Int32))] (.int (0 : Int32)) := V75.pad (pad_rep [] _ 8)
      refine g_astore X75 hx hby i0_135 rfl (l' := #[.val (.int p0), .val (.int p1), .val (.int p2), .val (.int (1 : Int32)), .val (.int (0 : Int32)), .val (.int v61), .val (.int v62), .val (.int v63), .val (.int v64), .val (.ref b65), .val (.ref b67), .val (.ref b65), .val (.ref b75), .unset, .unset, .unset]) rfl ?_
      refine g_iconst X75 hx hby i0_137 (z := (0 : Int32)) (by decide) ?_
      refine g_istore X75 hx hby i0_138 (l' := #[.val (.int p0), .val (.int p1), .val (.int p2), .val (.int (1 : Int32)), .val (.int (0 : Int32)), .val (.int v61), .val (.int v62), .val (.int v63), .val (.int v64), .val (.ref b65), .val (.ref b67), .val (.ref b65), .val (.ref b75), .val (.int (0 : Int32)), .unset, .unset]) rfl ?_
      refine g_iloadN X75 hx hby i0_140 rfl ?_
      refine g_if_eq X75 hx hby i0_141 (fun c141_76 => False.elim (absurd c141_76 (by decide))) fun c141_76 => ?_
      refine g_aload X75 hx hby i0_144 rfl rfl ?_
      refine g_iconst X75 hx hby i0_146 (z := (0 : Int32)) (by decide) ?_
      refine g_iload X75 hx hby i0_147 rfl ?_
      refine g_castore X75 hx hby hZ e75 V75 (i := 0) (by decide) (by decide) (by decide) (Nat.le_of_ble_eq_true rfl) i0_149 fun T77 h77 X77 e77 W77 V75 => ?_
      have V75 : Arv Z h77 b75 k75 .char (8 : Int32) [(.int (nar .char v61)), (.int (0 : Int32)), (.int (0 : Int32)), (.int (0 : Int32)), (.int (0 : Int32)), (.int (0 : Int32)), (.int (0 : Int32)), (.int (0 : Int32))] (.int (0 : Int32)) := V75
      have A65 := A65.wr W77
      have FL66 := FL66.other W77 (Or.inl ne_b65_b75)
      have E66 := E66.wr W77
      have A67 := A67.wr W77
      have FL68 := FL68.other W77 (Or.inl ne_b67_b75)
      have E68 := E68.wr W77
      have FV68 := FV68.other W77 (Or.inl ne_a68_b75)
      have FC68 := FC68.other W77 (Or.inl ne_a68_b75)
      have FN68 := FN68.other W77 (Or.inl ne_a68_b75)
      have FM68 := FM68.other W77 (Or.inl ne_a68_b75)
      have V68 := V68.other W77 ne_b68_b75
      have E70 := E70.wr W77
      have FV70 := FV70.other W77 (Or.inl ne_a70_b75)
      have FC70 := FC70.other W77 (Or.inl ne_a70_b75)
      have V70 := V70.other W77 ne_b70_b75
      have E71 := E71.wr W77
      have FV71 := FV71.other W77 (Or.inl ne_a71_b75)
      have FC71 := FC71.other W77 (Or.inl ne_a71_b75)
      have V71 := V71.other W77 ne_b71_b75
      have FV74 := FV74.other W77 (Or.inl ne_a66_b75)
      have FC74 := FC74.other W77 (Or.inl ne_a66_b75)
      have FN74 := FN74.other W77 (Or.inl ne_a66_b75)
      have FM74 := FM74.other W77 (Or.inl ne_a66_b75)
      have V74 := V74.other W77 ne_b66_b75
      have O := O.wr W77 g_b75
      have Z0 : n0 ≤ h77.size := Nat.le_trans Z0 (Nat.le_of_eq W77.size.symm)
      have N0 := Fr.snoc X77 N0 g_b75
      refine g_aload X77 hx hby i0_150 rfl rfl ?_
      refine g_iconst X77 hx hby i0_152 (z := (1 : Int32)) (by decide) ?_
      refine g_bipush X77 hx hby i0_153 (z := (61 : Int32)) (by decide) ?_
      refine g_castore X77 hx hby hZ e77 V75 (i := 1) (by decide) (by decide) (by decide) (Nat.le_of_ble_eq_true rfl) i0_155 fun T78 h78 X78 e78 W78 V75 => ?_
      have V75 : Arv Z h78 b75 k75 .char (8 : Int32) [(.int (nar .char v61)), (.int (nar .char (61 : Int32))), (.int (0 : Int32)), (.int (0 : Int32)), (.int (0 : Int32)), (.int (0 : Int32)), (.int (0 : Int32)), (.int (0 : Int32))] (.int (0 : Int32)) := V75
      have A65 := A65.wr W78
      have FL66 := FL66.other W78 (Or.inl ne_b65_b75)
      have E66 := E66.wr W78
      have A67 := A67.wr W78
      have FL68 := FL68.other W78 (Or.inl ne_b67_b75)
      have E68 := E68.wr W78
      have FV68 := FV68.other W78 (Or.inl ne_a68_b75)
      have FC68 := FC68.other W78 (Or.inl ne_a68_b75)
      have FN68 := FN68.other W78 (Or.inl ne_a68_b75)
      have FM68 := FM68.other W78 (Or.inl ne_a68_b75)
      have V68 := V68.other W78 ne_b68_b75
      have E70 := E70.wr W78
      have FV70 := FV70.other W78 (Or.inl ne_a70_b75)
      have FC70 := FC70.other W78 (Or.inl ne_a70_b75)
      have V70 := V70.other W78 ne_b70_b75
      have E71 := E71.wr W78
      have FV71 := FV71.other W78 (Or.inl ne_a71_b75)
      have FC71 := FC71.other W78 (Or.inl ne_a71_b75)
      have V71 := V71.other W78 ne_b71_b75
      have FV74 := FV74.other W78 (Or.inl ne_a66_b75)
      have FC74 := FC74.other W78 (Or.inl ne_a66_b75)
      have FN74 := FN74.other W78 (Or.inl ne_a66_b75)
      have FM74 := FM74.other W78 (Or.inl ne_a66_b75)
      have V74 := V74.other W78 ne_b66_b75
      have O := O.wr W78 g_b75
      have Z0 : n0 ≤ h78.size := Nat.le_trans Z0 (Nat.le_of_eq W78.size.symm)
      have N0 := Fr.snoc X78 N0 g_b75
      refine g_aload X78 hx hby i0_156 rfl rfl ?_
      refine g_iconst X78 hx hby i0_158 (z := (2 : Int32)) (by decide) ?_
      refine g_iload X78 hx hby i0_159 rfl ?_
      refine g_castore X78 hx hby hZ e78 V75 (i := 2) (by decide) (by decide) (by decide) (Nat.le_of_ble_eq_true rfl) i0_161 fun T79 h79 X79 e79 W79 V75 => ?_
      have V75 : Arv Z h79 b75 k75 .char (8 : Int32) [(.int (nar .char v61)), (.int (nar .char (61 : Int32))), (.int (nar .char v62)), (.int (0 : Int32)), (.int (0 : Int32)), (.int (0 : Int32)), (.int (0 : Int32)), (.int (0 : Int32))] (.int (0 : Int32)) := V75
      have A65 := A65.wr W79
      have FL66 := FL66.other W79 (Or.inl ne_b65_b75)
      have E66 := E66.wr W79
      have A67 := A67.wr W79
      have FL68 := FL68.other W79 (Or.inl ne_b67_b75)
      have E68 := E68.wr W79
      have FV68 := FV68.other W79 (Or.inl ne_a68_b75)
      have FC68 := FC68.other W79 (Or.inl ne_a68_b75)
      have FN68 := FN68.other W79 (Or.inl ne_a68_b75)
      have FM68 := FM68.other W79 (Or.inl ne_a68_b75)
      have V68 := V68.other W79 ne_b68_b75
      have E70 := E70.wr W79
      have FV70 := FV70.other W79 (Or.inl ne_a70_b75)
      have FC70 := FC70.other W79 (Or.inl ne_a70_b75)
      have V70 := V70.other W79 ne_b70_b75
      have E71 := E71.wr W79
      have FV71 := FV71.other W79 (Or.inl ne_a71_b75)
      have FC71 := FC71.other W79 (Or.inl ne_a71_b75)
      have V71 := V71.other W79 ne_b71_b75
      have FV74 := FV74.other W79 (Or.inl ne_a66_b75)
      have FC74 := FC74.other W79 (Or.inl ne_a66_b75)
      have FN74 := FN74.other W79 (Or.inl ne_a66_b75)
      have FM74 := FM74.other W79 (Or.inl ne_a66_b75)
      have V74 := V74.other W79 ne_b66_b75
      have O := O.wr W79 g_b75
      have Z0 : n0 ≤ h79.size := Nat.le_trans Z0 (Nat.le_of_eq W79.size.symm)
      have N0 := Fr.snoc X79 N0 g_b75
      refine g_aload X79 hx hby i0_162 rfl rfl ?_
      refine g_iconst X79 hx hby i0_164 (z := (3 : Int32)) (by decide) ?_
      refine g_bipush X79 hx hby i0_165 (z := (10 : Int32)) (by decide) ?_
      refine g_castore X79 hx hby hZ e79 V75 (i := 3) (by decide) (by decide) (by decide) (Nat.le_of_ble_eq_true rfl) i0_167 fun T80 h80 X80 e80 W80 V75 => ?_
      have V75 : Arv Z h80 b75 k75 .char (8 : Int32) [(.int (nar .char v61)), (.int (nar .char (61 : Int32))), (.int (nar .char v62)), (.int (nar .char (10 : Int32))), (.int (0 : Int32)), (.int (0 : Int32)), (.int (0 : Int32)), (.int (0 : Int32))] (.int (0 : Int32)) := V75
      have A65 := A65.wr W80
      have FL66 := FL66.other W80 (Or.inl ne_b65_b75)
      have E66 := E66.wr W80
      have A67 := A67.wr W80
      have FL68 := FL68.other W80 (Or.inl ne_b67_b75)
      have E68 := E68.wr W80
      have FV68 := FV68.other W80 (Or.inl ne_a68_b75)
      have FC68 := FC68.other W80 (Or.inl ne_a68_b75)
      have FN68 := FN68.other W80 (Or.inl ne_a68_b75)
      have FM68 := FM68.other W80 (Or.inl ne_a68_b75)
      have V68 := V68.other W80 ne_b68_b75
      have E70 := E70.wr W80
      have FV70 := FV70.other W80 (Or.inl ne_a70_b75)
      have FC70 := FC70.other W80 (Or.inl ne_a70_b75)
      have V70 := V70.other W80 ne_b70_b75
      have E71 := E71.wr W80
      have FV71 := FV71.other W80 (Or.inl ne_a71_b75)
      have FC71 := FC71.other W80 (Or.inl ne_a71_b75)
      have V71 := V71.other W80 ne_b71_b75
      have FV74 := FV74.other W80 (Or.inl ne_a66_b75)
      have FC74 := FC74.other W80 (Or.inl ne_a66_b75)
      have FN74 := FN74.other W80 (Or.inl ne_a66_b75)
      have FM74 := FM74.other W80 (Or.inl ne_a66_b75)
      have V74 := V74.other W80 ne_b66_b75
      have O := O.wr W80 g_b75
      have Z0 : n0 ≤ h80.size := Nat.le_trans Z0 (Nat.le_of_eq W80.size.symm)
      have N0 := Fr.snoc X80 N0 g_b75
      refine g_iconst X80 hx hby i0_168 (z := (4 : Int32)) (by decide) ?_
      refine g_istore X80 hx hby i0_169 (l' := #[.val (.int p0), .val (.int p1), .val (.int p2), .val (.int (1 : Int32)), .val (.int (0 : Int32)), .val (.int v61), .val (.int v62), .val (.int v63), .val (.int v64), .val (.ref b65), .val (.ref b67), .val (.ref b65), .val (.ref b75), .val (.int (4 : Int32)), .unset, .unset]) rfl ?_
      refine g_iload X80 hx hby i0_171 rfl ?_
      refine g_if_eq X80 hx hby i0_173 (fun c173_81 => ?_) (fun c173_81 => False.elim (absurd c173_81 (by decide)))
      refine g_bipush X80 hx hby i0_216 (z := (8 : Int32)) (by decide) ?_
      refine g_newarray X80 hx hby hZ (ty := .char) rfl (hw _ (List.mem_of_getElem? (i := 169) rfl)) e80 i0_218 (by decide) 8 (by decide) (by decide) (by decide) (by decide) fun T82 h82 b82 k82 X82 e82 E82 hb82 V82 => ?_
      have ne_b65_b82 : b65 ≠ b82 := Nat.ne_of_lt (Nat.lt_of_lt_of_le A65.lt (Nat.le_of_eq hb82.symm))
      have ne_a66_b82 : a66 ≠ b82 := Nat.ne_of_lt (Nat.lt_of_lt_of_le E66.lt (Nat.le_of_eq hb82.symm))
      have ne_b67_b82 : b67 ≠ b82 := Nat.ne_of_lt (Nat.lt_of_lt_of_le A67.lt (Nat.le_of_eq hb82.symm))
      have ne_a68_b82 : a68 ≠ b82 := Nat.ne_of_lt (Nat.lt_of_lt_of_le E68.lt (Nat.le_of_eq hb82.symm))
      have ne_b68_b82 : b68 ≠ b82 := Nat.ne_of_lt (Nat.lt_of_lt_of_le V68.lt (Nat.le_of_eq hb82.symm))
      have ne_a70_b82 : a70 ≠ b82 := Nat.ne_of_lt (Nat.lt_of_lt_of_le E70.lt (Nat.le_of_eq hb82.symm))
      have ne_b70_b82 : b70 ≠ b82 := Nat.ne_of_lt (Nat.lt_of_lt_of_le V70.lt (Nat.le_of_eq hb82.symm))
      have ne_a71_b82 : a71 ≠ b82 := Nat.ne_of_lt (Nat.lt_of_lt_of_le E71.lt (Nat.le_of_eq hb82.symm))
      have ne_b71_b82 : b71 ≠ b82 := Nat.ne_of_lt (Nat.lt_of_lt_of_le V71.lt (Nat.le_of_eq hb82.symm))
      have ne_b66_b82 : b66 ≠ b82 := Nat.ne_of_lt (Nat.lt_of_lt_of_le V74.lt (Nat.le_of_eq hb82.symm))
      have ne_b75_b82 : b75 ≠ b82 := Nat.ne_of_lt (Nat.lt_of_lt_of_le V75.lt (Nat.le_of_eq hb82.symm))
      have g_b82 : n0 ≤ b82 := Nat.le_trans Z0 (Nat.le_of_eq hb82.symm)
      have A65 := A65.ext E82
      have FL66 := FL66.ext E82
      have E66 := E66.ext E82
      have A67 := A67.ext E82
      have FL68 := FL68.ext E82
      have E68 := E68.ext E82
      have FV68 := FV68.ext E82
      have FC68 := FC68.ext E82
      have FN68 := FN68.ext E82
      have FM68 := FM68.ext E82
      have V68 := V68.ext E82
      have E70 := E70.ext E82
      have FV70 := FV70.ext E82
      have FC70 := FC70.ext E82
      have V70 := V70.ext E82
      have E71 := E71.ext E82
      have FV71 := FV71.ext E82
      have FC71 := FC71.ext E82
      have V71 := V71.ext E82
      have FV74 := FV74.ext E82
      have FC74 := FC74.ext E82
      have FN74 := FN74.ext E82
      have FM74 := FM74.ext E82
      have V74 := V74.ext E82
      have V75 := V75.ext E82
      have O := O.ext E82
      have Z0 : n0 ≤ h82.size := Nat.le_trans Z0 E82.1
      have V82 : Arv Z h82 b82 k82 .char (8 : Int32) [(.int (0 : Int32)), (.int (0 : Int32)), (.int (0 : Int32)), (.int (0 : Int32)), (.int (0 : Int32)), (.int (0 : Int32)), (.int (0 : Int32)), (.int (0 : Int32))] (.int (0 : Int32)) := V82.pad (pad_rep [] _ 8)
      refine g_astore X82 hx hby i0_220 rfl (l' := #[.val (.int p0), .val (.int p1), .val (.int p2), .val (.int (1 : Int32)), .val (.int (0 : Int32)), .val (.int v61), .val (.int v62), .val (.int v63), .val (.int v64), .val (.ref b65), .val (.ref b67), .val (.ref b65), .val (.ref b75), .val (.int (4 : Int32)), .val (.ref b82), .unset]) rfl ?_
      refine g_iconst X82 hx hby i0_222 (z := (0 : Int32)) (by decide) ?_
      refine g_istore X82 hx hby i0_223 (l' := #[.val (.int p0), .val (.int p1), .val (.int p2), .val (.int (1 : Int32)), .val (.int (0 : Int32)), .val (.int v61), .val (.int v62), .val (.int v63), .val (.int v64), .val (.ref b65), .val (.ref b67), .val (.ref b65), .val (.ref b75), .val (.int (4 : Int32)), .val (.ref b82), .val (.int (0 : Int32))]) rfl ?_
      refine g_iload X82 hx hby i0_225 rfl ?_
      refine g_if_eq X82 hx hby i0_227 (fun c227_83 => ?_) (fun c227_83 => False.elim (absurd c227_83 (by decide)))
      refine g_aload X82 hx hby i0_257 rfl rfl ?_
      refine g_aload X82 hx hby i0_259 rfl rfl ?_
      refine g_acmp_ne X82 hx hby i0_261 rfl rfl (fun c261_84 => False.elim (c261_84 rfl)) fun c261_84 => ?_
      refine g_aload X82 hx hby i0_264 rfl rfl ?_
      refine g_callV0 X82 hx hby hZ (y0 := (⟨"com/example/cloudgavel/cloudgavel/cli/Report", "toString", "()Ljava/lang/String;"⟩ : MethodName)) (y := (⟨"com/example/cloudgavel/cloudgavel/cli/Report", "toString", "()Ljava/lang/String;"⟩ : MethodName)) (argsL := []) (rest := []) hown (hw _ (List.mem_of_getElem? (i := 170) rfl)) (hw _ (List.mem_of_getElem? (i := 171) rfl)) (notFace_of_selects (args := #[]) (mvT hZ (hw _ (List.mem_of_getElem? (i := 173) rfl)))) (hw _ (List.mem_of_getElem? (i := 173) rfl)) (hw _ (List.mem_of_getElem? (i := 172) rfl)) (hw _ (List.mem_of_getElem? (i := 2) rfl)) (hw _ (List.mem_of_getElem? (i := 174) rfl)) (by decide) (a := b65) A65 (rm30 l Z a0 hw [] b65 cz a66 b66 kb66 _ (4 : Int32) 4 h82 n0 Z0 S0 hcz O FL66 E66 FV74 FC74 FN74 V74 (by decide) (by decide) (by decide) (by decide)) e82 (by rw [hml]; rfl) pd_25 rfl rfl i0_266 (by decide) 0 rfl (by decide) (by decide) (by decide) fun T85 v85 L85 X85 q85 => ?_
      obtain ⟨_, rfl, K85, t85, tb85, kt85, rfl, g_t85, st85, E85, FV85, FC85, V85, g_tb85, stb85, ne_t85_tb85, N85⟩ := q85
      have N0 := Fr.app N0 N85
      have ne_b65_t85 : b65 ≠ t85 := Nat.ne_of_lt (Nat.lt_of_lt_of_le A65.lt st85)
      have ne_a66_t85 : a66 ≠ t85 := Nat.ne_of_lt (Nat.lt_of_lt_of_le E66.lt st85)
      have ne_b67_t85 : b67 ≠ t85 := Nat.ne_of_lt (Nat.lt_of_lt_of_le A67.lt st85)
      have ne_a68_t85 : a68 ≠ t85 := Nat.ne_of_lt (Nat.lt_of_lt_of_le E68.lt st85)
      have ne_b68_t85 : b68 ≠ t85 := Nat.ne_of_lt (Nat.lt_of_lt_of_le V68.lt st85)
      have ne_a70_t85 : a70 ≠ t85 := Nat.ne_of_lt (Nat.lt_of_lt_of_le E70.lt st85)
      have ne_b70_t85 : b70 ≠ t85 := Nat.ne_of_lt (Nat.lt_of_lt_of_le V70.lt st85)
      have ne_a71_t85 : a71 ≠ t85 := Nat.ne_of_lt (Nat.lt_of_lt_of_le E71.lt st85)
      have ne_b71_t85 : b71 ≠ t85 := Nat.ne_of_lt (Nat.lt_of_lt_of_le V71.lt st85)
      have ne_b66_t85 : b66 ≠ t85 := Nat.ne_of_lt (Nat.lt_of_lt_of_le V74.lt st85)
      have ne_b75_t85 : b75 ≠ t85 := Nat.ne_of_lt (Nat.lt_of_lt_of_le V75.lt st85)
      have ne_b82_t85 : b82 ≠ t85 := Nat.ne_of_lt (Nat.lt_of_lt_of_le V82.lt st85)
      have ne_b65_tb85 : b65 ≠ tb85 := Nat.ne_of_lt (Nat.lt_of_lt_of_le A65.lt stb85)
      have ne_a66_tb85 : a66 ≠ tb85 := Nat.ne_of_lt (Nat.lt_of_lt_of_le E66.lt stb85)
      have ne_b67_tb85 : b67 ≠ tb85 := Nat.ne_of_lt (Nat.lt_of_lt_of_le A67.lt stb85)
      have ne_a68_tb85 : a68 ≠ tb85 := Nat.ne_of_lt (Nat.lt_of_lt_of_le E68.lt stb85)
      have ne_b68_tb85 : b68 ≠ tb85 := Nat.ne_of_lt (Nat.lt_of_lt_of_le V68.lt stb85)
      have ne_a70_tb85 : a70 ≠ tb85 := Nat.ne_of_lt (Nat.lt_of_lt_of_le E70.lt stb85)
      have ne_b70_tb85 : b70 ≠ tb85 := Nat.ne_of_lt (Nat.lt_of_lt_of_le V70.lt stb85)
      have ne_a71_tb85 : a71 ≠ tb85 := Nat.ne_of_lt (Nat.lt_of_lt_of_le E71.lt stb85)
      have ne_b71_tb85 : b71 ≠ tb85 := Nat.ne_of_lt (Nat.lt_of_lt_of_le V71.lt stb85)
      have ne_b66_tb85 : b66 ≠ tb85 := Nat.ne_of_lt (Nat.lt_of_lt_of_le V74.lt stb85)
      have ne_b75_tb85 : b75 ≠ tb85 := Nat.ne_of_lt (Nat.lt_of_lt_of_le V75.lt stb85)
      have ne_b82_tb85 : b82 ≠ tb85 := Nat.ne_of_lt (Nat.lt_of_lt_of_le V82.lt stb85)
      have A65 := A65.keep K85
      have FL66 := FL66.keep K85 nin0
      have E66 := E66.keep K85
      have A67 := A67.keep K85
      have FL68 := FL68.keep K85 nin0
      have E68 := E68.keep K85
      have FV68 := FV68.keep K85 nin0
      have FC68 := FC68.keep K85 nin0
      have FN68 := FN68.keep K85 nin0
      have FM68 := FM68.keep K85 nin0
      have V68 := V68.keep K85 nin0
      have E70 := E70.keep K85
      have FV70 := FV70.keep K85 nin0
      have FC70 := FC70.keep K85 nin0
      have V70 := V70.keep K85 nin0
      have E71 := E71.keep K85
      have FV71 := FV71.keep K85 nin0
      have FC71 := FC71.keep K85 nin0
      have V71 := V71.keep K85 nin0
      have FV74 := FV74.keep K85 nin0
      have FC74 := FC74.keep K85 nin0
      have FN74 := FN74.keep K85 nin0
      have FM74 := FM74.keep K85 nin0
      have V74 := V74.keep K85 nin0
      have V75 := V75.keep K85 nin0
      have V82 := V82.keep K85 nin0
      have O := O.keep K85 all0
      have Z0 : n0 ≤ T85.heap.size := Nat.le_trans Z0 K85.1
      have V85 : Arv Z T85.heap tb85 kt85 .byte (4 : Int32) [(.int (nar .byte v61.toInt8.toInt32)), (.int (nar .byte (61 : Int32).toInt8.toInt32)), (.int (nar .byte v62.toInt8.toInt32)), (.int (nar .byte (10 : Int32).toInt8.toInt32))] (.int (0 : Int32)) := V85
      show Gd p e below _ T85 (mkF m 269 #[.val (.int p0), .val (.int p1), .val (.int p2), .val (.int (1 : Int32)), .val (.int (0 : Int32)), .val (.int v61), .val (.int v62), .val (.int v63), .val (.int v64), .val (.ref b65), .val (.ref b67), .val (.ref b65), .val (.ref b75), .val (.int (4 : Int32)), .val (.ref b82), .val (.int (0 : Int32))] [(.ref t85)])
      refine g_aload X85 hx hby i0_269 rfl rfl ?_
      refine g_iload X85 hx hby i0_271 rfl ?_
      refine g_callS0 X85 hx hby hZ (y := (⟨"com/example/cloudgavel/cloudgavel/cli/ReportLinesPinLaw", "same", "(Ljava/lang/String;[CI)Z"⟩ : MethodName)) (argsL := [(.ref t85), (.ref b75), (.int (4 : Int32))]) (rest := []) hown (hw _ (List.mem_of_getElem? (i := 209) rfl)) (hw _ (List.mem_of_getElem? (i := 210) rfl)) (hw _ (List.mem_of_getElem? (i := 211) rfl)) (hw _ (List.mem_of_getElem? (i := 212) rfl)) (by decide) (rm39_4 l Z a0 hw [] t85 b75 (4 : Int32) cz sv tb85 kt85 (nar .byte v61.toInt8.toInt32) (nar .byte (61 : Int32).toInt8.toInt32) (nar .byte v62.toInt8.toInt32) (nar .byte (10 : Int32).toInt8.toInt32) k75 (nar .char v61) (nar .char (61 : Int32)) (nar .char v62) (nar .char (10 : Int32)) (0 : Int32) (0 : Int32) (0 : Int32) (0 : Int32) T85.heap n0 Z0 S0 hcz O hsv S1 E85 FV85 FC85 V85 V75 rfl (own_rt hv61) (by decide) (own_rt hv62) (by decide)) rfl (by rw [hml]; rfl) pd_30 rfl rfl i0_273 (by decide) 0 rfl (by decide) (by decide) (by decide) fun T86 v86 L86 X86 q86 => ?_
      obtain ⟨_, rfl, rfl, e86, N86⟩ := q86
      have N0 := Fr.app N0 N86
      show Gd p e below _ T86 (mkF m 276 #[.val (.int p0), .val (.int p1), .val (.int p2), .val (.int (1 : Int32)), .val (.int (0 : Int32)), .val (.int v61), .val (.int v62), .val (.int v63), .val (.int v64), .val (.ref b65), .val (.ref b67), .val (.ref b65), .val (.ref b75), .val (.int (4 : Int32)), .val (.ref b82), .val (.int (0 : Int32))] [(.int (1 : Int32))])
      refine g_if_eq X86 hx hby i0_276 (fun c276_87 => False.elim (absurd c276_87 (by decide))) fun c276_87 => ?_
      refine g_aload X86 hx hby i0_279 rfl rfl ?_
      refine g_callV0 X86 hx hby hZ (y0 := (⟨"com/example/cloudgavel/cloudgavel/cli/Report", "toString", "()Ljava/lang/String;"⟩ : MethodName)) (y := (⟨"com/example/cloudgavel/cloudgavel/cli/Report", "toString", "()Ljava/lang/String;"⟩ : MethodName)) (argsL := []) (rest := []) hown (hw _ (List.mem_of_getElem? (i := 170) rfl)) (hw _ (List.mem_of_getElem? (i := 171) rfl)) (notFace_of_selects (args := #[]) (mvT hZ (hw _ (List.mem_of_getElem? (i := 173) rfl)))) (hw _ (List.mem_of_getElem? (i := 173) rfl)) (hw _ (List.mem_of_getElem? (i := 172) rfl)) (hw _ (List.mem_of_getElem? (i := 2) rfl)) (hw _ (List.mem_of_getElem? (i := 174) rfl)) (by decide) (a := b67) A67 (rm30 l Z a0 hw [] b67 cz a68 b68 kb68 _ (0 : Int32) 0 T85.heap n0 Z0 S0 hcz O FL68 E68 FV68 FC68 FN68 V68 (by decide) (by decide) (by decide) (by decide)) e86 (by rw [hml]; rfl) pd_25 rfl rfl i0_281 (by decide) 0 rfl (by decide) (by decide) (by decide) fun T88 v88 L88 X88 q88 => ?_
      obtain ⟨_, rfl, K88, t88, tb88, kt88, rfl, g_t88, st88, E88, FV88, FC88, V88, g_tb88, stb88, ne_t88_tb88, N88⟩ := q88
      have N0 := Fr.app N0 N88
      have ne_b65_t88 : b65 ≠ t88 := Nat.ne_of_lt (Nat.lt_of_lt_of_le A65.lt st88)
      have ne_a66_t88 : a66 ≠ t88 := Nat.ne_of_lt (Nat.lt_of_lt_of_le E66.lt st88)
      have ne_b67_t88 : b67 ≠ t88 := Nat.ne_of_lt (Nat.lt_of_lt_of_le A67.lt st88)
      have ne_a68_t88 : a68 ≠ t88 := Nat.ne_of_lt (Nat.lt_of_lt_of_le E68.lt st88)
      have ne_b68_t88 : b68 ≠ t88 := Nat.ne_of_lt (Nat.lt_of_lt_of_le V68.lt st88)
      have ne_a70_t88 : a70 ≠ t88 := Nat.ne_of_lt (Nat.lt_of_lt_of_le E70.lt st88)
      have ne_b70_t88 : b70 ≠ t88 := Nat.ne_of_lt (Nat.lt_of_lt_of_le V70.lt st88)
      have ne_a71_t88 : a71 ≠ t88 := Nat.ne_of_lt (Nat.lt_of_lt_of_le E71.lt st88)
      have ne_b71_t88 : b71 ≠ t88 := Nat.ne_of_lt (Nat.lt_of_lt_of_le V71.lt st88)
      have ne_b66_t88 : b66 ≠ t88 := Nat.ne_of_lt (Nat.lt_of_lt_of_le V74.lt st88)
      have ne_b75_t88 : b75 ≠ t88 := Nat.ne_of_lt (Nat.lt_of_lt_of_le V75.lt st88)
      have ne_b82_t88 : b82 ≠ t88 := Nat.ne_of_lt (Nat.lt_of_lt_of_le V82.lt st88)
      have ne_t85_t88 : t85 ≠ t88 := Nat.ne_of_lt (Nat.lt_of_lt_of_le E85.lt st88)
      have ne_tb85_t88 : tb85 ≠ t88 := Nat.ne_of_lt (Nat.lt_of_lt_of_le V85.lt st88)
      have ne_b65_tb88 : b65 ≠ tb88 := Nat.ne_of_lt (Nat.lt_of_lt_of_le A65.lt stb88)
      have ne_a66_tb88 : a66 ≠ tb88 := Nat.ne_of_lt (Nat.lt_of_lt_of_le E66.lt stb88)
      have ne_b67_tb88 : b67 ≠ tb88 := Nat.ne_of_lt (Nat.lt_of_lt_of_le A67.lt stb88)
      have ne_a68_tb88 : a68 ≠ tb88 := Nat.ne_of_lt (Nat.lt_of_lt_of_le E68.lt stb88)
      have ne_b68_tb88 : b68 ≠ tb88 := Nat.ne_of_lt (Nat.lt_of_lt_of_le V68.lt stb88)
      have ne_a70_tb88 : a70 ≠ tb88 := Nat.ne_of_lt (Nat.lt_of_lt_of_le E70.lt stb88)
      have ne_b70_tb88 : b70 ≠ tb88 := Nat.ne_of_lt (Nat.lt_of_lt_of_le V70.lt stb88)
      have ne_a71_tb88 : a71 ≠ tb88 := Nat.ne_of_lt (Nat.lt_of_lt_of_le E71.lt stb88)
      have ne_b71_tb88 : b71 ≠ tb88 := Nat.ne_of_lt (Nat.lt_of_lt_of_le V71.lt stb88)
      have ne_b66_tb88 : b66 ≠ tb88 := Nat.ne_of_lt (Nat.lt_of_lt_of_le V74.lt stb88)
      have ne_b75_tb88 : b75 ≠ tb88 := Nat.ne_of_lt (Nat.lt_of_lt_of_le V75.lt stb88)
      have ne_b82_tb88 : b82 ≠ tb88 := Nat.ne_of_lt (Nat.lt_of_lt_of_le V82.lt stb88)
      have ne_t85_tb88 : t85 ≠ tb88 := Nat.ne_of_lt (Nat.lt_of_lt_of_le E85.lt stb88)
      have ne_tb85_tb88 : tb85 ≠ tb88 := Nat.ne_of_lt (Nat.lt_of_lt_of_le V85.lt stb88)
      have A65 := A65.keep K88
      have FL66 := FL66.keep K88 nin0
      have E66 := E66.keep K88
      have A67 := A67.keep K88
      have FL68 := FL68.keep K88 nin0
      have E68 := E68.keep K88
      have FV68 := FV68.keep K88 nin0
      have FC68 := FC68.keep K88 nin0
      have FN68 := FN68.keep K88 nin0
      have FM68 := FM68.keep K88 nin0
      have V68 := V68.keep K88 nin0
      have E70 := E70.keep K88
      have FV70 := FV70.keep K88 nin0
      have FC70 := FC70.keep K88 nin0
      have V70 := V70.keep K88 nin0
      have E71 := E71.keep K88
      have FV71 := FV71.keep K88 nin0
      have FC71 := FC71.keep K88 nin0
      have V71 := V71.keep K88 nin0
      have FV74 := FV74.keep K88 nin0
      have FC74 := FC74.keep K88 nin0
      have FN74 := FN74.keep K88 nin0
      have FM74 := FM74.keep K88 nin0
      have V74 := V74.keep K88 nin0
      have V75 := V75.keep K88 nin0
      have V82 := V82.keep K88 nin0
      have E85 := E85.keep K88
      have FV85 := FV85.keep K88 nin0
      have FC85 := FC85.keep K88 nin0
      have V85 := V85.keep K88 nin0
      have O := O.keep K88 all0
      have Z0 : n0 ≤ T88.heap.size := Nat.le_trans Z0 K88.1
      have V88 : Arv Z T88.heap tb88 kt88 .byte (0 : Int32) [] (.int (0 : Int32)) := V88
      show Gd p e below _ T88 (mkF m 284 #[.val (.int p0), .val (.int p1), .val (.int p2), .val (.int (1 : Int32)), .val (.int (0 : Int32)), .val (.int v61), .val (.int v62), .val (.int v63), .val (.int v64), .val (.ref b65), .val (.ref b67), .val (.ref b65), .val (.ref b75), .val (.int (4 : Int32)), .val (.ref b82), .val (.int (0 : Int32))] [(.ref t88)])
      refine g_aload X88 hx hby i0_284 rfl rfl ?_
      refine g_iload X88 hx hby i0_286 rfl ?_
      refine g_callS0 X88 hx hby hZ (y := (⟨"com/example/cloudgavel/cloudgavel/cli/ReportLinesPinLaw", "same", "(Ljava/lang/String;[CI)Z"⟩ : MethodName)) (argsL := [(.ref t88), (.ref b82), (.int (0 : Int32))]) (rest := []) hown (hw _ (List.mem_of_getElem? (i := 209) rfl)) (hw _ (List.mem_of_getElem? (i := 210) rfl)) (hw _ (List.mem_of_getElem? (i := 211) rfl)) (hw _ (List.mem_of_getElem? (i := 212) rfl)) (by decide) (rm39_0 l Z a0 hw [] t88 b82 (0 : Int32) cz sv tb88 kt88  k82 (0 : Int32) (0 : Int32) (0 : Int32) (0 : Int32) (0 : Int32) (0 : Int32) (0 : Int32) (0 : Int32) T88.heap n0 Z0 S0 hcz O hsv S1 E88 FV88 FC88 V88 V82 rfl ) rfl (by rw [hml]; rfl) pd_30 rfl rfl i0_288 (by decide) 0 rfl (by decide) (by decide) (by decide) fun T89 v89 L89 X89 q89 => ?_
      obtain ⟨_, rfl, rfl, e89, N89⟩ := q89
      have N0 := Fr.app N0 N89
      show Gd p e below _ T89 (mkF m 291 #[.val (.int p0), .val (.int p1), .val (.int p2), .val (.int (1 : Int32)), .val (.int (0 : Int32)), .val (.int v61), .val (.int v62), .val (.int v63), .val (.int v64), .val (.ref b65), .val (.ref b67), .val (.ref b65), .val (.ref b75), .val (.int (4 : Int32)), .val (.ref b82), .val (.int (0 : Int32))] [(.int (1 : Int32))])
      refine g_if_eq X89 hx hby i0_291 (fun c291_90 => False.elim (absurd c291_90 (by decide))) fun c291_90 => ?_
      refine g_iconst X89 hx hby i0_294 (z := (1 : Int32)) (by decide) ?_
      refine g_goto X89 hx hby i0_295 ?_
      refine g_ireturnN X89 hx hby (ty := .boolean) hret (by simp) hlk i0_299 (by decide) (by decide) ?_
      exact ⟨_, rfl, rfl, N0⟩
    · refine g_iconst X0 hx hby i0_18 (z := (1 : Int32)) (by decide) ?_
      refine g_goto X0 hx hby i0_19 ?_
      refine g_istore X0 hx hby i0_23 (l' := #[.val (.int p0), .val (.int p1), .val (.int p2), .val (.int (1 : Int32)), .val (.int (1 : Int32)), .unset, .unset, .unset, .unset, .unset, .unset, .unset, .unset, .unset, .unset, .unset]) rfl ?_
      refine g_iloadN X0 hx hby i0_25 rfl ?_
      refine g_sipush X0 hx hby i0_26 (z := (255 : Int32)) (by decide) ?_
      refine g_iand X0 hx hby i0_29 ?_
      refine g_i2c X0 hx hby i0_30 ?_
      refine g_istoreW X0 hx hby i0_31 (l' := fun v91 => #[.val (.int p0), .val (.int p1), .val (.int p2), .val (.int (1 : Int32)), .val (.int (1 : Int32)), .val (.int v91), .unset, .unset, .unset, .unset, .unset, .unset, .unset, .unset, .unset, .unset]) (fun _ => rfl) fun v91 hv91 => ?_
      refine g_iloadN X0 hx hby i0_33 rfl ?_
      refine g_bipush X0 hx hby i0_34 (z := (8 : Int32)) (by decide) ?_
      refine g_iushr X0 hx hby i0_36 ?_
      refine g_sipush X0 hx hby i0_37 (z := (255 : Int32)) (by decide) ?_
      refine g_iand X0 hx hby i0_40 ?_
      refine g_i2c X0 hx hby i0_41 ?_
      refine g_istoreW X0 hx hby i0_42 (l' := fun v92 => #[.val (.int p0), .val (.int p1), .val (.int p2), .val (.int (1 : Int32)), .val (.int (1 : Int32)), .val (.int v91), .val (.int v92), .unset, .unset, .unset, .unset, .unset, .unset, .unset, .unset, .unset]) (fun _ => rfl) fun v92 hv92 => ?_
      refine g_iloadN X0 hx hby i0_44 rfl ?_
      refine g_sipush X0 hx hby i0_45 (z := (255 : Int32)) (by decide) ?_
      refine g_iand X0 hx hby i0_48 ?_
      refine g_i2c X0 hx hby i0_49 ?_
      refine g_istoreW X0 hx hby i0_50 (l' := fun v93 => #[.val (.int p0), .val (.int p1), .val (.int p2), .val (.int (1 : Int32)), .val (.int (1 : Int32)), .val (.int v91), .val (.int v92), .val (.int v93), .unset, .unset, .unset, .unset, .unset, .unset, .unset, .unset]) (fun _ => rfl) fun v93 hv93 => ?_
      refine g_iloadN X0 hx hby i0_52 rfl ?_
      refine g_bipush X0 hx hby i0_53 (z := (8 : Int32)) (by decide) ?_
      refine g_iushr X0 hx hby i0_55 ?_
      refine g_sipush X0 hx hby i0_56 (z := (255 : Int32)) (by decide) ?_
      refine g_iand X0 hx hby i0_59 ?_
      refine g_i2c X0 hx hby i0_60 ?_
      refine g_istoreW X0 hx hby i0_61 (l' := fun v94 => #[.val (.int p0), .val (.int p1), .val (.int p2), .val (.int (1 : Int32)), .val (.int (1 : Int32)), .val (.int v91), .val (.int v92), .val (.int v93), .val (.int v94), .unset, .unset, .unset, .unset, .unset, .unset, .unset]) (fun _ => rfl) fun v94 hv94 => ?_
      refine g_new X0 hx hby hZ hown (hw _ (List.mem_of_getElem? (i := 0) rfl)) (hw _ (List.mem_of_getElem? (i := 1) rfl)) (hw _ (List.mem_of_getElem? (i := 2) rfl)) e0 i0_63 (by decide) (by decide) fun T95 h95 b95 X95 e95 E95 hb95 A95 D95 => ?_
      have g_b95 : n0 ≤ b95 := Nat.le_trans Z0 (Nat.le_of_eq hb95.symm)
      have O := O.ext E95
      have Z0 : n0 ≤ h95.size := Nat.le_trans Z0 E95.1
      have F95_lines : Fld Z h95 b95 "com/example/cloudgavel/cloudgavel/cli/Report" "lines" "Ljava/lang/StringBuilder;" .null := D95 (Or.inr (hw _ (List.mem_of_getElem? (i := 30) rfl))) (ty := (.object "java/lang/StringBuilder")) (by decide)
      refine g_dup X95 hx hby i0_66 rfl ?_
      refine g_callInit0 X95 hx hby hZ (y := (⟨"com/example/cloudgavel/cloudgavel/cli/Report", "<init>", "()V"⟩ : MethodName)) (argsL := []) (rest := [(.ref b95)]) rfl hown (hw _ (List.mem_of_getElem? (i := 3) rfl)) (hw _ (List.mem_of_getElem? (i := 4) rfl)) (hw _ (List.mem_of_getElem? (i := 2) rfl)) (hw _ (List.mem_of_getElem? (i := 5) rfl)) (by decide) (a := b95) (rm1 l Z a0 hw [] b95 cz h95 n0 Z0 S0 hcz O A95 F95_lines g_b95) e95 (by rw [hml]; rfl) pd_14 rfl rfl i0_67 (by decide) 1 rfl (by decide) (by decide) (by decide) fun T96 v96 L96 X96 q96 => ?_
      obtain ⟨rfl, K96, a96, -, FL96, g_a96, sa96, b96, ne_a96_b96, kb96, E96, FV96, FC96, FN96, V96, FM96, g_b96, sb96, N96⟩ := q96
      have N0 := Fr.app N0 N96
      have ne_b95_a96 : b95 ≠ a96 := Nat.ne_of_lt (Nat.lt_of_lt_of_le A95.lt sa96)
      have ne_b95_b96 : b95 ≠ b96 := Nat.ne_of_lt (Nat.lt_of_lt_of_le A95.lt sb96)
      have A95 := A95.keep K96
      have O := O.keep K96 (allS g_b95 all0)
      have Z0 : n0 ≤ T96.heap.size := Nat.le_trans Z0 K96.1
      show Gd p e below _ T96 (mkF m 70 #[.val (.int p0), .val (.int p1), .val (.int p2), .val (.int (1 : Int32)), .val (.int (1 : Int32)), .val (.int v91), .val (.int v92), .val (.int v93), .val (.int v94), .unset, .unset, .unset, .unset, .unset, .unset, .unset] [(.ref b95)])
      refine g_astore X96 hx hby i0_70 rfl (l' := #[.val (.int p0), .val (.int p1), .val (.int p2), .val (.int (1 : Int32)), .val (.int (1 : Int32)), .val (.int v91), .val (.int v92), .val (.int v93), .val (.int v94), .val (.ref b95), .unset, .unset, .unset, .unset, .unset, .unset]) rfl ?_
      refine g_new X96 hx hby hZ hown (hw _ (List.mem_of_getElem? (i := 0) rfl)) (hw _ (List.mem_of_getElem? (i := 1) rfl)) (hw _ (List.mem_of_getElem? (i := 2) rfl)) rfl i0_72 (by decide) (by decide) fun T97 h97 b97 X97 e97 E97 hb97 A97 D97 => ?_
      have ne_b95_b97 : b95 ≠ b97 := Nat.ne_of_lt (Nat.lt_of_lt_of_le A95.lt (Nat.le_of_eq hb97.symm))
      have ne_a96_b97 : a96 ≠ b97 := Nat.ne_of_lt (Nat.lt_of_lt_of_le E96.lt (Nat.le_of_eq hb97.symm))
      have ne_b96_b97 : b96 ≠ b97 := Nat.ne_of_lt (Nat.lt_of_lt_of_le V96.lt (Nat.le_of_eq hb97.symm))
      have g_b97 : n0 ≤ b97 := Nat.le_trans Z0 (Nat.le_of_eq hb97.symm)
      have A95 := A95.ext E97
      have FL96 := FL96.ext E97
      have E96 := E96.ext E97
      have FV96 := FV96.ext E97
      have FC96 := FC96.ext E97
      have FN96 := FN96.ext E97
      have FM96 := FM96.ext E97
      have V96 := V96.ext E97
      have O := O.ext E97
      have Z0 : n0 ≤ h97.size := Nat.le_trans Z0 E97.1
      have F97_lines : Fld Z h97 b97 "com/example/cloudgavel/cloudgavel/cli/Report" "lines" "Ljava/lang/StringBuilder;" .null := D97 (Or.inr (hw _ (List.mem_of_getElem? (i := 30) rfl))) (ty := (.object "java/lang/StringBuilder")) (by decide)
      refine g_dup X97 hx hby i0_75 rfl ?_
      refine g_callInit0 X97 hx hby hZ (y := (⟨"com/example/cloudgavel/cloudgavel/cli/Report", "<init>", "()V"⟩ : MethodName)) (argsL := []) (rest := [(.ref b97)]) rfl hown (hw _ (List.mem_of_getElem? (i := 3) rfl)) (hw _ (List.mem_of_getElem? (i := 4) rfl)) (hw _ (List.mem_of_getElem? (i := 2) rfl)) (hw _ (List.mem_of_getElem? (i := 5) rfl)) (by decide) (a := b97) (rm1 l Z a0 hw [] b97 cz h97 n0 Z0 S0 hcz O A97 F97_lines g_b97) e97 (by rw [hml]; rfl) pd_14 rfl rfl i0_76 (by decide) 1 rfl (by decide) (by decide) (by decide) fun T98 v98 L98 X98 q98 => ?_
      obtain ⟨rfl, K98, a98, -, FL98, g_a98, sa98, b98, ne_a98_b98, kb98, E98, FV98, FC98, FN98, V98, FM98, g_b98, sb98, N98⟩ := q98
      have N0 := Fr.app N0 N98
      have ne_b95_a98 : b95 ≠ a98 := Nat.ne_of_lt (Nat.lt_of_lt_of_le A95.lt sa98)
      have ne_a96_a98 : a96 ≠ a98 := Nat.ne_of_lt (Nat.lt_of_lt_of_le E96.lt sa98)
      have ne_b96_a98 : b96 ≠ a98 := Nat.ne_of_lt (Nat.lt_of_lt_of_le V96.lt sa98)
      have ne_b97_a98 : b97 ≠ a98 := Nat.ne_of_lt (Nat.lt_of_lt_of_le A97.lt sa98)
      have ne_b95_b98 : b95 ≠ b98 := Nat.ne_of_lt (Nat.lt_of_lt_of_le A95.lt sb98)
      have ne_a96_b98 : a96 ≠ b98 := Nat.ne_of_lt (Nat.lt_of_lt_of_le E96.lt sb98)
      have ne_b96_b98 : b96 ≠ b98 := Nat.ne_of_lt (Nat.lt_of_lt_of_le V96.lt sb98)
      have ne_b97_b98 : b97 ≠ b98 := Nat.ne_of_lt (Nat.lt_of_lt_of_le A97.lt sb98)
      have A95 := A95.keep K98
      have FL96 := FL96.keep K98 (ninS ne_b95_b97 nin0)
      have E96 := E96.keep K98
      have FV96 := FV96.keep K98 (ninS ne_a96_b97 nin0)
      have FC96 := FC96.keep K98 (ninS ne_a96_b97 nin0)
      have FN96 := FN96.keep K98 (ninS ne_a96_b97 nin0)
      have FM96 := FM96.keep K98 (ninS ne_a96_b97 nin0)
      have V96 := V96.keep K98 (ninS ne_b96_b97 nin0)
      have A97 := A97.keep K98
      have O := O.keep K98 (allS g_b97 all0)
      have Z0 : n0 ≤ T98.heap.size := Nat.le_trans Z0 K98.1
      show Gd p e below _ T98 (mkF m 79 #[.val (.int p0), .val (.int p1), .val (.int p2), .val (.int (1 : Int32)), .val (.int (1 : Int32)), .val (.int v91), .val (.int v92), .val (.int v93), .val (.int v94), .val (.ref b95), .unset, .unset, .unset, .unset, .unset, .unset] [(.ref b97)])
      refine g_astore X98 hx hby i0_79 rfl (l' := #[.val (.int p0), .val (.int p1), .val (.int p2), .val (.int (1 : Int32)), .val (.int (1 : Int32)), .val (.int v91), .val (.int v92), .val (.int v93), .val (.int v94), .val (.ref b95), .val (.ref b97), .unset, .unset, .unset, .unset, .unset]) rfl ?_
      refine g_iloadN X98 hx hby i0_81 rfl ?_
      refine g_if_eq X98 hx hby i0_82 (fun c82_99 => False.elim (absurd c82_99 (by decide))) fun c82_99 => ?_
      refine g_aload X98 hx hby i0_85 rfl rfl ?_
      refine g_iload X98 hx hby i0_87 rfl ?_
      refine g_callS0 X98 hx hby hZ (y := (⟨"java/lang/String", "valueOf", "(C)Ljava/lang/String;"⟩ : MethodName)) (argsL := [(.int v91)]) (rest := [(.ref b95)]) hown (hw _ (List.mem_of_getElem? (i := 31) rfl)) (hw _ (List.mem_of_getElem? (i := 32) rfl)) (hw _ (List.mem_of_getElem? (i := 23) rfl)) (hw _ (List.mem_of_getElem? (i := 33) rfl)) (by decide) (rm5 l Z a0 hw [] v91 cz T98.heap n0 Z0 S0 hcz O (own_enc hv91)) rfl (by rw [hml]; rfl) pd_31 rfl rfl i0_89 (by decide) 1 rfl (by decide) (by decide) (by decide) fun T100 v100 L100 X100 q100 => ?_
      obtain ⟨_, rfl, a100, b100, kb100, rfl, K100, E100, FV100, FC100, V100, g_a100, g_b100, sa100, sb100, ne_a100_b100, N100⟩ := q100
      have N0 := Fr.app N0 N100
      have ne_b95_a100 : b95 ≠ a100 := Nat.ne_of_lt (Nat.lt_of_lt_of_le A95.lt sa100)
      have ne_b95_b100 : b95 ≠ b100 := Nat.ne_of_lt (Nat.lt_of_lt_of_le A95.lt sb100)
      have ne_a96_a100 : a96 ≠ a100 := Nat.ne_of_lt (Nat.lt_of_lt_of_le E96.lt sa100)
      have ne_a96_b100 : a96 ≠ b100 := Nat.ne_of_lt (Nat.lt_of_lt_of_le E96.lt sb100)
      have ne_b96_a100 : b96 ≠ a100 := Nat.ne_of_lt (Nat.lt_of_lt_of_le V96.lt sa100)
      have ne_b96_b100 : b96 ≠ b100 := Nat.ne_of_lt (Nat.lt_of_lt_of_le V96.lt sb100)
      have ne_b97_a100 : b97 ≠ a100 := Nat.ne_of_lt (Nat.lt_of_lt_of_le A97.lt sa100)
      have ne_b97_b100 : b97 ≠ b100 := Nat.ne_of_lt (Nat.lt_of_lt_of_le A97.lt sb100)
      have ne_a98_a100 : a98 ≠ a100 := Nat.ne_of_lt (Nat.lt_of_lt_of_le E98.lt sa100)
      have ne_a98_b100 : a98 ≠ b100 := Nat.ne_of_lt (Nat.lt_of_lt_of_le E98.lt sb100)
      have ne_b98_a100 : b98 ≠ a100 := Nat.ne_of_lt (Nat.lt_of_lt_of_le V98.lt sa100)
      have ne_b98_b100 : b98 ≠ b100 := Nat.ne_of_lt (Nat.lt_of_lt_of_le V98.lt sb100)
      have A95 := A95.keep K100
      have FL96 := FL96.keep K100 nin0
      have E96 := E96.keep K100
      have FV96 := FV96.keep K100 nin0
      have FC96 := FC96.keep K100 nin0
      have FN96 := FN96.keep K100 nin0
      have FM96 := FM96.keep K100 nin0
      have V96 := V96.keep K100 nin0
      have A97 := A97.keep K100
      have FL98 := FL98.keep K100 nin0
      have E98 := E98.keep K100
      have FV98 := FV98.keep K100 nin0
      have FC98 := FC98.keep K100 nin0
      have FN98 := FN98.keep K100 nin0
      have FM98 := FM98.keep K100 nin0
      have V98 := V98.keep K100 nin0
      have O := O.keep K100 all0
      have Z0 : n0 ≤ T100.heap.size := Nat.le_trans Z0 K100.1
      show Gd p e below _ T100 (mkF m 92 #[.val (.int p0), .val (.int p1), .val (.int p2), .val (.int (1 : Int32)), .val (.int (1 : Int32)), .val (.int v91), .val (.int v92), .val (.int v93), .val (.int v94), .val (.ref b95), .val (.ref b97), .unset, .unset, .unset, .unset, .unset] [(.ref a100), (.ref b95)])
      refine g_iload X100 hx hby i0_92 rfl ?_
      refine g_callS0 X100 hx hby hZ (y := (⟨"java/lang/String", "valueOf", "(C)Ljava/lang/String;"⟩ : MethodName)) (argsL := [(.int v92)]) (rest := [(.ref a100), (.ref b95)]) hown (hw _ (List.mem_of_getElem? (i := 31) rfl)) (hw _ (List.mem_of_getElem? (i := 32) rfl)) (hw _ (List.mem_of_getElem? (i := 23) rfl)) (hw _ (List.mem_of_getElem? (i := 33) rfl)) (by decide) (rm5 l Z a0 hw [] v92 cz T100.heap n0 Z0 S0 hcz O (own_enc hv92)) rfl (by rw [hml]; rfl) pd_31 rfl rfl i0_94 (by decide) 2 rfl (by decide) (by decide) (by decide) fun T101 v101 L101 X101 q101 => ?_
      obtain ⟨_, rfl, a101, b101, kb101, rfl, K101, E101, FV101, FC101, V101, g_a101, g_b101, sa101, sb101, ne_a101_b101, N101⟩ := q101
      have N0 := Fr.app N0 N101
      have ne_b95_a101 : b95 ≠ a101 := Nat.ne_of_lt (Nat.lt_of_lt_of_le A95.lt sa101)
      have ne_b95_b101 : b95 ≠ b101 := Nat.ne_of_lt (Nat.lt_of_lt_of_le A95.lt sb101)
      have ne_a96_a101 : a96 ≠ a101 := Nat.ne_of_lt (Nat.lt_of_lt_of_le E96.lt sa101)
      have ne_a96_b101 : a96 ≠ b101 := Nat.ne_of_lt (Nat.lt_of_lt_of_le E96.lt sb101)
      have ne_b96_a101 : b96 ≠ a101 := Nat.ne_of_lt (Nat.lt_of_lt_of_le V96.lt sa101)
      have ne_b96_b101 : b96 ≠ b101 := Nat.ne_of_lt (Nat.lt_of_lt_of_le V96.lt sb101)
      have ne_b97_a101 : b97 ≠ a101 := Nat.ne_of_lt (Nat.lt_of_lt_of_le A97.lt sa101)
      have ne_b97_b101 : b97 ≠ b101 := Nat.ne_of_lt (Nat.lt_of_lt_of_le A97.lt sb101)
      have ne_a98_a101 : a98 ≠ a101 := Nat.ne_of_lt (Nat.lt_of_lt_of_le E98.lt sa101)
      have ne_a98_b101 : a98 ≠ b101 := Nat.ne_of_lt (Nat.lt_of_lt_of_le E98.lt sb101)
      have ne_b98_a101 : b98 ≠ a101 := Nat.ne_of_lt (Nat.lt_of_lt_of_le V98.lt sa101)
      have ne_b98_b101 : b98 ≠ b101 := Nat.ne_of_lt (Nat.lt_of_lt_of_le V98.lt sb101)
      have ne_a100_a101 : a100 ≠ a101 := Nat.ne_of_lt (Nat.lt_of_lt_of_le E100.lt sa101)
      have ne_a100_b101 : a100 ≠ b101 := Nat.ne_of_lt (Nat.lt_of_lt_of_le E100.lt sb101)
      have ne_b100_a101 : b100 ≠ a101 := Nat.ne_of_lt (Nat.lt_of_lt_of_le V100.lt sa101)
      have ne_b100_b101 : b100 ≠ b101 := Nat.ne_of_lt (Nat.lt_of_lt_of_le V100.lt sb101)
      have A95 := A95.keep K101
      have FL96 := FL96.keep K101 nin0
      have E96 := E96.keep K101
      have FV96 := FV96.keep K101 nin0
      have FC96 := FC96.keep K101 nin0
      have FN96 := FN96.keep K101 nin0
      have FM96 := FM96.keep K101 nin0
      have V96 := V96.keep K101 nin0
      have A97 := A97.keep K101
      have FL98 := FL98.keep K101 nin0
      have E98 := E98.keep K101
      have FV98 := FV98.keep K101 nin0
      have FC98 := FC98.keep K101 nin0
      have FN98 := FN98.keep K101 nin0
      have FM98 := FM98.keep K101 nin0
      have V98 := V98.keep K101 nin0
      have E100 := E100.keep K101
      have FV100 := FV100.keep K101 nin0
      have FC100 := FC100.keep K101 nin0
      have V100 := V100.keep K101 nin0
      have O := O.keep K101 all0
      have Z0 : n0 ≤ T101.heap.size := Nat.le_trans Z0 K101.1
      show Gd p e below _ T101 (mkF m 97 #[.val (.int p0), .val (.int p1), .val (.int p2), .val (.int (1 : Int32)), .val (.int (1 : Int32)), .val (.int v91), .val (.int v92), .val (.int v93), .val (.int v94), .val (.ref b95), .val (.ref b97), .unset, .unset, .unset, .unset, .unset] [(.ref a101), (.ref a100), (.ref b95)])
      refine g_callV0 X101 hx hby hZ (y0 := (⟨"com/example/cloudgavel/cloudgavel/cli/Report", "text", "(Ljava/lang/String;Ljava/lang/String;)Lcom/example/cloudgavel/cloudgavel/cli/Report;"⟩ : MethodName)) (y := (⟨"com/example/cloudgavel/cloudgavel/cli/Report", "text", "(Ljava/lang/String;Ljava/lang/String;)Lcom/example/cloudgavel/cloudgavel/cli/Report;"⟩ : MethodName)) (argsL := [(.ref a100), (.ref a101)]) (rest := []) hown (hw _ (List.mem_of_getElem? (i := 53) rfl)) (hw _ (List.mem_of_getElem? (i := 54) rfl)) (notFace_of_selects (args := #[]) (mvT hZ (hw _ (List.mem_of_getElem? (i := 56) rfl)))) (hw _ (List.mem_of_getElem? (i := 56) rfl)) (hw _ (List.mem_of_getElem? (i := 55) rfl)) (hw _ (List.mem_of_getElem? (i := 2) rfl)) (hw _ (List.mem_of_getElem? (i := 57) rfl)) (by decide) (a := b95) A95 (rm9 l Z a0 hw [] b95 a100 a101 cz a96 b96 kb96 b100 kb100 (nar .byte v91.toInt8.toInt32) b101 kb101 (nar .byte v92.toInt8.toInt32) T101.heap n0 Z0 S0 hcz O FL96 E96 FV96 FC96 FN96 V96 FM96 E100 FV100 FC100 V100 E101 FV101 FC101 V101 g_a96 g_b96 ne_b95_a96 ne_b95_b96 (Ne.symm ne_a96_a100) (Ne.symm ne_b96_a100) (Ne.symm ne_a96_b100) (Ne.symm ne_b96_b100) (Ne.symm ne_a96_a101) (Ne.symm ne_b96_a101) (Ne.symm ne_a96_b101) (Ne.symm ne_b96_b101) ne_a96_b96) rfl (by rw [hml]; rfl) pd_32 rfl rfl i0_97 (by decide) 0 rfl (by decide) (by decide) (by decide) fun T102 v102 L102 X102 q102 => ?_
      obtain ⟨_, rfl, rfl, K102, E102, FV102, FC102, FN102, V102, FM102, N102⟩ := q102
      have N0 := Fr.app N0 N102
      have A95 := A95.keep K102
      have FL96 := FL96.keep K102 (ninS ne_b95_a96 (ninS ne_b95_b96 nin0))
      have E96 := E96.keep K102
      have A97 := A97.keep K102
      have FL98 := FL98.keep K102 (ninS (Ne.symm ne_a96_b97) (ninS (Ne.symm ne_b96_b97) nin0))
      have E98 := E98.keep K102
      have FV98 := FV98.keep K102 (ninS (Ne.symm ne_a96_a98) (ninS (Ne.symm ne_b96_a98) nin0))
      have FC98 := FC98.keep K102 (ninS (Ne.symm ne_a96_a98) (ninS (Ne.symm ne_b96_a98) nin0))
      have FN98 := FN98.keep K102 (ninS (Ne.symm ne_a96_a98) (ninS (Ne.symm ne_b96_a98) nin0))
      have FM98 := FM98.keep K102 (ninS (Ne.symm ne_a96_a98) (ninS (Ne.symm ne_b96_a98) nin0))
      have V98 := V98.keep K102 (ninS (Ne.symm ne_a96_b98) (ninS (Ne.symm ne_b96_b98) nin0))
      have E100 := E100.keep K102
      have FV100 := FV100.keep K102 (ninS (Ne.symm ne_a96_a100) (ninS (Ne.symm ne_b96_a100) nin0))
      have FC100 := FC100.keep K102 (ninS (Ne.symm ne_a96_a100) (ninS (Ne.symm ne_b96_a100) nin0))
      have V100 := V100.keep K102 (ninS (Ne.symm ne_a96_b100) (ninS (Ne.symm ne_b96_b100) nin0))
      have E101 := E101.keep K102
      have FV101 := FV101.keep K102 (ninS (Ne.symm ne_a96_a101) (ninS (Ne.symm ne_b96_a101) nin0))
      have FC101 := FC101.keep K102 (ninS (Ne.symm ne_a96_a101) (ninS (Ne.symm ne_b96_a101) nin0))
      have V101 := V101.keep K102 (ninS (Ne.symm ne_a96_b101) (ninS (Ne.symm ne_b96_b101) nin0))
      have O := O.keep K102 (allS g_a96 (allS g_b96 all0))
      have Z0 : n0 ≤ T102.heap.size := Nat.le_trans Z0 K102.1
      show Gd p e below _ T102 (mkF m 100 #[.val (.int p0), .val (.int p1), .val (.int p2), .val (.int (1 : Int32)), .val (.int (1 : Int32)), .val (.int v91), .val (.int v92), .val (.int v93), .val (.int v94), .val (.ref b95), .val (.ref b97), .unset, .unset, .unset, .unset, .unset] [(.ref b95)])
      refine g_pop X102 hx hby i0_100 rfl ?_
      refine g_iload X102 hx hby i0_101 rfl ?_
      refine g_if_eq X102 hx hby i0_103 (fun c103_103 => False.elim (absurd c103_103 (by decide))) fun c103_103 => ?_
      refine g_aload X102 hx hby i0_106 rfl rfl ?_
      refine g_iload X102 hx hby i0_108 rfl ?_
      refine g_callS0 X102 hx hby hZ (y := (⟨"java/lang/String", "valueOf", "(C)Ljava/lang/String;"⟩ : MethodName)) (argsL := [(.int v93)]) (rest := [(.ref b97)]) hown (hw _ (List.mem_of_getElem? (i := 31) rfl)) (hw _ (List.mem_of_getElem? (i := 32) rfl)) (hw _ (List.mem_of_getElem? (i := 23) rfl)) (hw _ (List.mem_of_getElem? (i := 33) rfl)) (by decide) (rm5 l Z a0 hw [] v93 cz T102.heap n0 Z0 S0 hcz O (own_enc hv93)) rfl (by rw [hml]; rfl) pd_31 rfl rfl i0_110 (by decide) 1 rfl (by decide) (by decide) (by decide) fun T104 v104 L104 X104 q104 => ?_
      obtain ⟨_, rfl, a104, b104, kb104, rfl, K104, E104, FV104, FC104, V104, g_a104, g_b104, sa104, sb104, ne_a104_b104, N104⟩ := q104
      have N0 := Fr.app N0 N104
      have ne_b95_a104 : b95 ≠ a104 := Nat.ne_of_lt (Nat.lt_of_lt_of_le A95.lt sa104)
      have ne_b95_b104 : b95 ≠ b104 := Nat.ne_of_lt (Nat.lt_of_lt_of_le A95.lt sb104)
      have ne_a96_a104 : a96 ≠ a104 := Nat.ne_of_lt (Nat.lt_of_lt_of_le E96.lt sa104)
      have ne_a96_b104 : a96 ≠ b104 := Nat.ne_of_lt (Nat.lt_of_lt_of_le E96.lt sb104)
      have ne_b97_a104 : b97 ≠ a104 := Nat.ne_of_lt (Nat.lt_of_lt_of_le A97.lt sa104)
      have ne_b97_b104 : b97 ≠ b104 := Nat.ne_of_lt (Nat.lt_of_lt_of_le A97.lt sb104)
      have ne_a98_a104 : a98 ≠ a104 := Nat.ne_of_lt (Nat.lt_of_lt_of_le E98.lt sa104)
      have ne_a98_b104 : a98 ≠ b104 := Nat.ne_of_lt (Nat.lt_of_lt_of_le E98.lt sb104)
      have ne_b98_a104 : b98 ≠ a104 := Nat.ne_of_lt (Nat.lt_of_lt_of_le V98.lt sa104)
      have ne_b98_b104 : b98 ≠ b104 := Nat.ne_of_lt (Nat.lt_of_lt_of_le V98.lt sb104)
      have ne_a100_a104 : a100 ≠ a104 := Nat.ne_of_lt (Nat.lt_of_lt_of_le E100.lt sa104)
      have ne_a100_b104 : a100 ≠ b104 := Nat.ne_of_lt (Nat.lt_of_lt_of_le E100.lt sb104)
      have ne_b100_a104 : b100 ≠ a104 := Nat.ne_of_lt (Nat.lt_of_lt_of_le V100.lt sa104)
      have ne_b100_b104 : b100 ≠ b104 := Nat.ne_of_lt (Nat.lt_of_lt_of_le V100.lt sb104)
      have ne_a101_a104 : a101 ≠ a104 := Nat.ne_of_lt (Nat.lt_of_lt_of_le E101.lt sa104)
      have ne_a101_b104 : a101 ≠ b104 := Nat.ne_of_lt (Nat.lt_of_lt_of_le E101.lt sb104)
      have ne_b101_a104 : b101 ≠ a104 := Nat.ne_of_lt (Nat.lt_of_lt_of_le V101.lt sa104)
      have ne_b101_b104 : b101 ≠ b104 := Nat.ne_of_lt (Nat.lt_of_lt_of_le V101.lt sb104)
      have ne_b96_a104 : b96 ≠ a104 := Nat.ne_of_lt (Nat.lt_of_lt_of_le V102.lt sa104)
      have ne_b96_b104 : b96 ≠ b104 := Nat.ne_of_lt (Nat.lt_of_lt_of_le V102.lt sb104)
      have A95 := A95.keep K104
      have FL96 := FL96.keep K104 nin0
      have E96 := E96.keep K104
      have A97 := A97.keep K104
      have FL98 := FL98.keep K104 nin0
      have E98 := E98.keep K104
      have FV98 := FV98.keep K104 nin0
      have FC98 := FC98.keep K104 nin0
      have FN98 := FN98.keep K104 nin0
      have FM98 := FM98.keep K104 nin0
      have V98 := V98.keep K104 nin0
      have E100 := E100.keep K104
      have FV100 := FV100.keep K104 nin0
      have FC100 := FC100.keep K104 nin0
      have V100 := V100.keep K104 nin0
      have E101 := E101.keep K104
      have FV101 := FV101.keep K104 nin0
      have FC101 := FC101.keep K104 nin0
      have V101 := V101.keep K104 nin0
      have FV102 := FV102.keep K104 nin0
      have FC102 := FC102.keep K104 nin0
      have FN102 := FN102.keep K104 nin0
      have FM102 := FM102.keep K104 nin0
      have V102 := V102.keep K104 nin0
      have O := O.keep K104 all0
      have Z0 : n0 ≤ T104.heap.size := Nat.le_trans Z0 K104.1
      show Gd p e below _ T104 (mkF m 113 #[.val (.int p0), .val (.int p1), .val (.int p2), .val (.int (1 : Int32)), .val (.int (1 : Int32)), .val (.int v91), .val (.int v92), .val (.int v93), .val (.int v94), .val (.ref b95), .val (.ref b97), .unset, .unset, .unset, .unset, .unset] [(.ref a104), (.ref b97)])
      refine g_iload X104 hx hby i0_113 rfl ?_
      refine g_callS0 X104 hx hby hZ (y := (⟨"java/lang/String", "valueOf", "(C)Ljava/lang/String;"⟩ : MethodName)) (argsL := [(.int v94)]) (rest := [(.ref a104), (.ref b97)]) hown (hw _ (List.mem_of_getElem? (i := 31) rfl)) (hw _ (List.mem_of_getElem? (i := 32) rfl)) (hw _ (List.mem_of_getElem? (i := 23) rfl)) (hw _ (List.mem_of_getElem? (i := 33) rfl)) (by decide) (rm5 l Z a0 hw [] v94 cz T104.heap n0 Z0 S0 hcz O (own_enc hv94)) rfl (by rw [hml]; rfl) pd_31 rfl rfl i0_115 (by decide) 2 rfl (by decide) (by decide) (by decide) fun T105 v105 L105 X105 q105 => ?_
      obtain ⟨_, rfl, a105, b105, kb105, rfl, K105, E105, FV105, FC105, V105, g_a105, g_b105, sa105, sb105, ne_a105_b105, N105⟩ := q105
      have N0 := Fr.app N0 N105
      have ne_b95_a105 : b95 ≠ a105 := Nat.ne_of_lt (Nat.lt_of_lt_of_le A95.lt sa105)
      have ne_b95_b105 : b95 ≠ b105 := Nat.ne_of_lt (Nat.lt_of_lt_of_le A95.lt sb105)
      have ne_a96_a105 : a96 ≠ a105 := Nat.ne_of_lt (Nat.lt_of_lt_of_le E96.lt sa105)
      have ne_a96_b105 : a96 ≠ b105 := Nat.ne_of_lt (Nat.lt_of_lt_of_le E96.lt sb105)
      have ne_b97_a105 : b97 ≠ a105 := Nat.ne_of_lt (Nat.lt_of_lt_of_le A97.lt sa105)
      have ne_b97_b105 : b97 ≠ b105 := Nat.ne_of_lt (Nat.lt_of_lt_of_le A97.lt sb105)
      have ne_a98_a105 : a98 ≠ a105 := Nat.ne_of_lt (Nat.lt_of_lt_of_le E98.lt sa105)
      have ne_a98_b105 : a98 ≠ b105 := Nat.ne_of_lt (Nat.lt_of_lt_of_le E98.lt sb105)
      have ne_b98_a105 : b98 ≠ a105 := Nat.ne_of_lt (Nat.lt_of_lt_of_le V98.lt sa105)
      have ne_b98_b105 : b98 ≠ b105 := Nat.ne_of_lt (Nat.lt_of_lt_of_le V98.lt sb105)
      have ne_a100_a105 : a100 ≠ a105 := Nat.ne_of_lt (Nat.lt_of_lt_of_le E100.lt sa105)
      have ne_a100_b105 : a100 ≠ b105 := Nat.ne_of_lt (Nat.lt_of_lt_of_le E100.lt sb105)
      have ne_b100_a105 : b100 ≠ a105 := Nat.ne_of_lt (Nat.lt_of_lt_of_le V100.lt sa105)
      have ne_b100_b105 : b100 ≠ b105 := Nat.ne_of_lt (Nat.lt_of_lt_of_le V100.lt sb105)
      have ne_a101_a105 : a101 ≠ a105 := Nat.ne_of_lt (Nat.lt_of_lt_of_le E101.lt sa105)
      have ne_a101_b105 : a101 ≠ b105 := Nat.ne_of_lt (Nat.lt_of_lt_of_le E101.lt sb105)
      have ne_b101_a105 : b101 ≠ a105 := Nat.ne_of_lt (Nat.lt_of_lt_of_le V101.lt sa105)
      have ne_b101_b105 : b101 ≠ b105 := Nat.ne_of_lt (Nat.lt_of_lt_of_le V101.lt sb105)
      have ne_b96_a105 : b96 ≠ a105 := Nat.ne_of_lt (Nat.lt_of_lt_of_le V102.lt sa105)
      have ne_b96_b105 : b96 ≠ b105 := Nat.ne_of_lt (Nat.lt_of_lt_of_le V102.lt sb105)
      have ne_a104_a105 : a104 ≠ a105 := Nat.ne_of_lt (Nat.lt_of_lt_of_le E104.lt sa105)
      have ne_a104_b105 : a104 ≠ b105 := Nat.ne_of_lt (Nat.lt_of_lt_of_le E104.lt sb105)
      have ne_b104_a105 : b104 ≠ a105 := Nat.ne_of_lt (Nat.lt_of_lt_of_le V104.lt sa105)
      have ne_b104_b105 : b104 ≠ b105 := Nat.ne_of_lt (Nat.lt_of_lt_of_le V104.lt sb105)
      have A95 := A95.keep K105
      have FL96 := FL96.keep K105 nin0
      have E96 := E96.keep K105
      have A97 := A97.keep K105
      have FL98 := FL98.keep K105 nin0
      have E98 := E98.keep K105
      have FV98 := FV98.keep K105 nin0
      have FC98 := FC98.keep K105 nin0
      have FN98 := FN98.keep K105 nin0
      have FM98 := FM98.keep K105 nin0
      have V98 := V98.keep K105 nin0
      have E100 := E100.keep K105
      have FV100 := FV100.keep K105 nin0
      have FC100 := FC100.keep K105 nin0
      have V100 := V100.keep K105 nin0
      have E101 := E101.keep K105
      have FV101 := FV101.keep K105 nin0
      have FC101 := FC101.keep K105 nin0
      have V101 := V101.keep K105 nin0
      have FV102 := FV102.keep K105 nin0
      have FC102 := FC102.keep K105 nin0
      have FN102 := FN102.keep K105 nin0
      have FM102 := FM102.keep K105 nin0
      have V102 := V102.keep K105 nin0
      have E104 := E104.keep K105
      have FV104 := FV104.keep K105 nin0
      have FC104 := FC104.keep K105 nin0
      have V104 := V104.keep K105 nin0
      have O := O.keep K105 all0
      have Z0 : n0 ≤ T105.heap.size := Nat.le_trans Z0 K105.1
      show Gd p e below _ T105 (mkF m 118 #[.val (.int p0), .val (.int p1), .val (.int p2), .val (.int (1 : Int32)), .val (.int (1 : Int32)), .val (.int v91), .val (.int v92), .val (.int v93), .val (.int v94), .val (.ref b95), .val (.ref b97), .unset, .unset, .unset, .unset, .unset] [(.ref a105), (.ref a104), (.ref b97)])
      refine g_callV0 X105 hx hby hZ (y0 := (⟨"com/example/cloudgavel/cloudgavel/cli/Report", "text", "(Ljava/lang/String;Ljava/lang/String;)Lcom/example/cloudgavel/cloudgavel/cli/Report;"⟩ : MethodName)) (y := (⟨"com/example/cloudgavel/cloudgavel/cli/Report", "text", "(Ljava/lang/String;Ljava/lang/String;)Lcom/example/cloudgavel/cloudgavel/cli/Report;"⟩ : MethodName)) (argsL := [(.ref a104), (.ref a105)]) (rest := []) hown (hw _ (List.mem_of_getElem? (i := 53) rfl)) (hw _ (List.mem_of_getElem? (i := 54) rfl)) (notFace_of_selects (args := #[]) (mvT hZ (hw _ (List.mem_of_getElem? (i := 56) rfl)))) (hw _ (List.mem_of_getElem? (i := 56) rfl)) (hw _ (List.mem_of_getElem? (i := 55) rfl)) (hw _ (List.mem_of_getElem? (i := 2) rfl)) (hw _ (List.mem_of_getElem? (i := 57) rfl)) (by decide) (a := b97) A97 (rm9 l Z a0 hw [] b97 a104 a105 cz a98 b98 kb98 b104 kb104 (nar .byte v93.toInt8.toInt32) b105 kb105 (nar .byte v94.toInt8.toInt32) T105.heap n0 Z0 S0 hcz O FL98 E98 FV98 FC98 FN98 V98 FM98 E104 FV104 FC104 V104 E105 FV105 FC105 V105 g_a98 g_b98 ne_b97_a98 ne_b97_b98 (Ne.symm ne_a98_a104) (Ne.symm ne_b98_a104) (Ne.symm ne_a98_b104) (Ne.symm ne_b98_b104) (Ne.symm ne_a98_a105) (Ne.symm ne_b98_a105) (Ne.symm ne_a98_b105) (Ne.symm ne_b98_b105) ne_a98_b98) rfl (by rw [hml]; rfl) pd_32 rfl rfl i0_118 (by decide) 0 rfl (by decide) (by decide) (by decide) fun T106 v106 L106 X106 q106 => ?_
      obtain ⟨_, rfl, rfl, K106, E106, FV106, FC106, FN106, V106, FM106, N106⟩ := q106
      have N0 := Fr.app N0 N106
      have A95 := A95.keep K106
      have FL96 := FL96.keep K106 (ninS ne_b95_a98 (ninS ne_b95_b98 nin0))
      have E96 := E96.keep K106
      have A97 := A97.keep K106
      have FL98 := FL98.keep K106 (ninS ne_b97_a98 (ninS ne_b97_b98 nin0))
      have E98 := E98.keep K106
      have E100 := E100.keep K106
      have FV100 := FV100.keep K106 (ninS (Ne.symm ne_a98_a100) (ninS (Ne.symm ne_b98_a100) nin0))
      have FC100 := FC100.keep K106 (ninS (Ne.symm ne_a98_a100) (ninS (Ne.symm ne_b98_a100) nin0))
      have V100 := V100.keep K106 (ninS (Ne.symm ne_a98_b100) (ninS (Ne.symm ne_b98_b100) nin0))
      have E101 := E101.keep K106
      have FV101 := FV101.keep K106 (ninS (Ne.symm ne_a98_a101) (ninS (Ne.symm ne_b98_a101) nin0))
      have FC101 := FC101.keep K106 (ninS (Ne.symm ne_a98_a101) (ninS (Ne.symm ne_b98_a101) nin0))
      have V101 := V101.keep K106 (ninS (Ne.symm ne_a98_b101) (ninS (Ne.symm ne_b98_b101) nin0))
      have FV102 := FV102.keep K106 (ninS ne_a96_a98 (ninS ne_a96_b98 nin0))
      have FC102 := FC102.keep K106 (ninS ne_a96_a98 (ninS ne_a96_b98 nin0))
      have FN102 := FN102.keep K106 (ninS ne_a96_a98 (ninS ne_a96_b98 nin0))
      have FM102 := FM102.keep K106 (ninS ne_a96_a98 (ninS ne_a96_b98 nin0))
      have V102 := V102.keep K106 (ninS ne_b96_a98 (ninS ne_b96_b98 nin0))
      have E104 := E104.keep K106
      have FV104 := FV104.keep K106 (ninS (Ne.symm ne_a98_a104) (ninS (Ne.symm ne_b98_a104) nin0))
      have FC104 := FC104.keep K106 (ninS (Ne.symm ne_a98_a104) (ninS (Ne.symm ne_b98_a104) nin0))
      have V104 := V104.keep K106 (ninS (Ne.symm ne_a98_b104) (ninS (Ne.symm ne_b98_b104) nin0))
      have E105 := E105.keep K106
      have FV105 := FV105.keep K106 (ninS (Ne.symm ne_a98_a105) (ninS (Ne.symm ne_b98_a105) nin0))
      have FC105 := FC105.keep K106 (ninS (Ne.symm ne_a98_a105) (ninS (Ne.symm ne_b98_a105) nin0))
      have V105 := V105.keep K106 (ninS (Ne.symm ne_a98_b105) (ninS (Ne.symm ne_b98_b105) nin0))
      have O := O.keep K106 (allS g_a98 (allS g_b98 all0))
      have Z0 : n0 ≤ T106.heap.size := Nat.le_trans Z0 K106.1
      show Gd p e below _ T106 (mkF m 121 #[.val (.int p0), .val (.int p1), .val (.int p2), .val (.int (1 : Int32)), .val (.int (1 : Int32)), .val (.int v91), .val (.int v92), .val (.int v93), .val (.int v94), .val (.ref b95), .val (.ref b97), .unset, .unset, .unset, .unset, .unset] [(.ref b97)])
      refine g_pop X106 hx hby i0_121 rfl ?_
      refine g_aload X106 hx hby i0_122 rfl rfl ?_
      refine g_aload X106 hx hby i0_124 rfl rfl ?_
      refine g_callV0 X106 hx hby hZ (y0 := (⟨"com/example/cloudgavel/cloudgavel/cli/Report", "lines", "(Lcom/example/cloudgavel/cloudgavel/cli/Report;)Lcom/example/cloudgavel/cloudgavel/cli/Report;"⟩ : MethodName)) (y := (⟨"com/example/cloudgavel/cloudgavel/cli/Report", "lines", "(Lcom/example/cloudgavel/cloudgavel/cli/Report;)Lcom/example/cloudgavel/cloudgavel/cli/Report;"⟩ : MethodName)) (argsL := [(.ref b97)]) (rest := []) hown (hw _ (List.mem_of_getElem? (i := 120) rfl)) (hw _ (List.mem_of_getElem? (i := 121) rfl)) (notFace_of_selects (args := #[]) (mvT hZ (hw _ (List.mem_of_getElem? (i := 123) rfl)))) (hw _ (List.mem_of_getElem? (i := 123) rfl)) (hw _ (List.mem_of_getElem? (i := 122) rfl)) (hw _ (List.mem_of_getElem? (i := 2) rfl)) (hw _ (List.mem_of_getElem? (i := 124) rfl)) (by decide) (a := b95) A95 (rm21 l Z a0 hw [] b95 b97 cz a96 b96 kb96 _ (4 : Int32) a98 b98 kb98 _ (4 : Int32) 4 4 T106.heap n0 Z0 S0 hcz O FL96 FL98 E96 FV102 FC102 FN102 V102 FM102 E98 FV106 FC106 FN106 V106 FM106 g_a96 g_b96 ne_a96_b96 (Ne.symm ne_a96_a98) (Ne.symm ne_b96_a98) (Ne.symm ne_a96_b98) (Ne.symm ne_b96_b98) (by decide) (by decide) (by decide) (by decide) (by decide) (by decide) rfl (by decide) (by decide) ne_b95_a96 ne_b95_b96 (Ne.symm ne_a96_b97) (Ne.symm ne_b96_b97)) rfl (by rw [hml]; rfl) pd_29 rfl rfl i0_126 (by decide) 0 rfl (by decide) (by decide) (by decide) fun T107 v107 L107 X107 q107 => ?_
      obtain ⟨_, rfl, rfl, K107, E107, FV107, FC107, FN107, V107, FM107, N107⟩ := q107
      have N0 := Fr.app N0 N107
      have A95 := A95.keep K107
      have FL96 := FL96.keep K107 (ninS ne_b95_a96 (ninS ne_b95_b96 nin0))
      have E96 := E96.keep K107
      have A97 := A97.keep K107
      have FL98 := FL98.keep K107 (ninS (Ne.symm ne_a96_b97) (ninS (Ne.symm ne_b96_b97) nin0))
      have E98 := E98.keep K107
      have E100 := E100.keep K107
      have FV100 := FV100.keep K107 (ninS (Ne.symm ne_a96_a100) (ninS (Ne.symm ne_b96_a100) nin0))
      have FC100 := FC100.keep K107 (ninS (Ne.symm ne_a96_a100) (ninS (Ne.symm ne_b96_a100) nin0))
      have V100 := V100.keep K107 (ninS (Ne.symm ne_a96_b100) (ninS (Ne.symm ne_b96_b100) nin0))
      have E101 := E101.keep K107
      have FV101 := FV101.keep K107 (ninS (Ne.symm ne_a96_a101) (ninS (Ne.symm ne_b96_a101) nin0))
      have FC101 := FC101.keep K107 (ninS (Ne.symm ne_a96_a101) (ninS (Ne.symm ne_b96_a101) nin0))
      have V101 := V101.keep K107 (ninS (Ne.symm ne_a96_b101) (ninS (Ne.symm ne_b96_b101) nin0))
      have E104 := E104.keep K107
      have FV104 := FV104.keep K107 (ninS (Ne.symm ne_a96_a104) (ninS (Ne.symm ne_b96_a104) nin0))
      have FC104 := FC104.keep K107 (ninS (Ne.symm ne_a96_a104) (ninS (Ne.symm ne_b96_a104) nin0))
      have V104 := V104.keep K107 (ninS (Ne.symm ne_a96_b104) (ninS (Ne.symm ne_b96_b104) nin0))
      have E105 := E105.keep K107
      have FV105 := FV105.keep K107 (ninS (Ne.symm ne_a96_a105) (ninS (Ne.symm ne_b96_a105) nin0))
      have FC105 := FC105.keep K107 (ninS (Ne.symm ne_a96_a105) (ninS (Ne.symm ne_b96_a105) nin0))
      have V105 := V105.keep K107 (ninS (Ne.symm ne_a96_b105) (ninS (Ne.symm ne_b96_b105) nin0))
      have FV106 := FV106.keep K107 (ninS (Ne.symm ne_a96_a98) (ninS (Ne.symm ne_b96_a98) nin0))
      have FC106 := FC106.keep K107 (ninS (Ne.symm ne_a96_a98) (ninS (Ne.symm ne_b96_a98) nin0))
      have FN106 := FN106.keep K107 (ninS (Ne.symm ne_a96_a98) (ninS (Ne.symm ne_b96_a98) nin0))
      have FM106 := FM106.keep K107 (ninS (Ne.symm ne_a96_a98) (ninS (Ne.symm ne_b96_a98) nin0))
      have V106 := V106.keep K107 (ninS (Ne.symm ne_a96_b98) (ninS (Ne.symm ne_b96_b98) nin0))
      have O := O.keep K107 (allS g_a96 (allS g_b96 all0))
      have Z0 : n0 ≤ T107.heap.size := Nat.le_trans Z0 K107.1
      rw [show (4 : Int32) + (4 : Int32) = (8 : Int32) from by decide] at FN107
      have V107 : Arv Z T107.heap b96 kb96 .byte (16 : Int32) [(.int (nar .byte v91.toInt8.toInt32)), (.int (nar .byte (61 : Int32).toInt8.toInt32)), (.int (nar .byte v92.toInt8.toInt32)), (.int (nar .byte (10 : Int32).toInt8.toInt32)), (.int (nar .byte v93.toInt8.toInt32)), (.int (nar .byte (61 : Int32).toInt8.toInt32)), (.int (nar .byte v94.toInt8.toInt32)), (.int (nar .byte (10 : Int32).toInt8.toInt32)), (.int (0 : Int32)), (.int (0 : Int32)), (.int (0 : Int32)), (.int (0 : Int32)), (.int (0 : Int32)), (.int (0 : Int32)), (.int (0 : Int32)), (.int (0 : Int32))] (.int (0 : Int32)) := V107
      show Gd p e below _ T107 (mkF m 129 #[.val (.int p0), .val (.int p1), .val (.int p2), .val (.int (1 : Int32)), .val (.int (1 : Int32)), .val (.int v91), .val (.int v92), .val (.int v93), .val (.int v94), .val (.ref b95), .val (.ref b97), .unset, .unset, .unset, .unset, .unset] [(.ref b95)])
      refine g_astore X107 hx hby i0_129 rfl (l' := #[.val (.int p0), .val (.int p1), .val (.int p2), .val (.int (1 : Int32)), .val (.int (1 : Int32)), .val (.int v91), .val (.int v92), .val (.int v93), .val (.int v94), .val (.ref b95), .val (.ref b97), .val (.ref b95), .unset, .unset, .unset, .unset]) rfl ?_
      refine g_bipush X107 hx hby i0_131 (z := (8 : Int32)) (by decide) ?_
      refine g_newarray X107 hx hby hZ (ty := .char) rfl (hw _ (List.mem_of_getElem? (i := 169) rfl)) rfl i0_133 (by decide) 8 (by decide) (by decide) (by decide) (by decide) fun T108 h108 b108 k108 X108 e108 E108 hb108 V108 => ?_
      have ne_b95_b108 : b95 ≠ b108 := Nat.ne_of_lt (Nat.lt_of_lt_of_le A95.lt (Nat.le_of_eq hb108.symm))
      have ne_a96_b108 : a96 ≠ b108 := Nat.ne_of_lt (Nat.lt_of_lt_of_le E96.lt (Nat.le_of_eq hb108.symm))
      have ne_b97_b108 : b97 ≠ b108 := Nat.ne_of_lt (Nat.lt_of_lt_of_le A97.lt (Nat.le_of_eq hb108.symm))
      have ne_a98_b108 : a98 ≠ b108 := Nat.ne_of_lt (Nat.lt_of_lt_of_le E98.lt (Nat.le_of_eq hb108.symm))
      have ne_a100_b108 : a100 ≠ b108 := Nat.ne_of_lt (Nat.lt_of_lt_of_le E100.lt (Nat.le_of_eq hb108.symm))
      have ne_b100_b108 : b100 ≠ b108 := Nat.ne_of_lt (Nat.lt_of_lt_of_le V100.lt (Nat.le_of_eq hb108.symm))
      have ne_a101_b108 : a101 ≠ b108 := Nat.ne_of_lt (Nat.lt_of_lt_of_le E101.lt (Nat.le_of_eq hb108.symm))
      have ne_b101_b108 : b101 ≠ b108 := Nat.ne_of_lt (Nat.lt_of_lt_of_le V101.lt (Nat.le_of_eq hb108.symm))
      have ne_a104_b108 : a104 ≠ b108 := Nat.ne_of_lt (Nat.lt_of_lt_of_le E104.lt (Nat.le_of_eq hb108.symm))
      have ne_b104_b108 : b104 ≠ b108 := Nat.ne_of_lt (Nat.lt_of_lt_of_le V104.lt (Nat.le_of_eq hb108.symm))
      have ne_a105_b108 : a105 ≠ b108 := Nat.ne_of_lt (Nat.lt_of_lt_of_le E105.lt (Nat.le_of_eq hb108.symm))
      have ne_b105_b108 : b105 ≠ b108 := Nat.ne_of_lt (Nat.lt_of_lt_of_le V105.lt (Nat.le_of_eq hb108.symm))
      have ne_b98_b108 : b98 ≠ b108 := Nat.ne_of_lt (Nat.lt_of_lt_of_le V106.lt (Nat.le_of_eq hb108.symm))
      have ne_b96_b108 : b96 ≠ b108 := Nat.ne_of_lt (Nat.lt_of_lt_of_le V107.lt (Nat.le_of_eq hb108.symm))
      have g_b108 : n0 ≤ b108 := Nat.le_trans Z0 (Nat.le_of_eq hb108.symm)
      have A95 := A95.ext E108
      have FL96 := FL96.ext E108
      have E96 := E96.ext E108
      have A97 := A97.ext E108
      have FL98 := FL98.ext E108
      have E98 := E98.ext E108
      have E100 := E100.ext E108
      have FV100 := FV100.ext E108
      have FC100 := FC100.ext E108
      have V100 := V100.ext E108
      have E101 := E101.ext E108
      have FV101 := FV101.ext E108
      have FC101 := FC101.ext E108
      have V101 := V101.ext E108
      have E104 := E104.ext E108
      have FV104 := FV104.ext E108
      have FC104 := FC104.ext E108
      have V104 := V104.ext E108
      have E105 := E105.ext E108
      have FV105 := FV105.ext E108
      have FC105 := FC105.ext E108
      have V105 := V105.ext E108
      have FV106 := FV106.ext E108
      have FC106 := FC106.ext E108
      have FN106 := FN106.ext E108
      have FM106 := FM106.ext E108
      have V106 := V106.ext E108
      have FV107 := FV107.ext E108
      have FC107 := FC107.ext E108
      have FN107 := FN107.ext E108
      have FM107 := FM107.ext E108
      have V107 := V107.ext E108
      have O := O.ext E108
      have Z0 : n0 ≤ h108.size := Nat.le_trans Z0 E108.1
      have V108 : Arv Z h108 b108 k108 .char (8 : Int32) [(.int (0 : Int32)), (.int (0 : Int32)), (.int (0 : Int32)), (.int (0 : Int32)), (.int (0 : Int32)), (.int (0 : Int32)), (.int (0 : Int32)), (.int (0 : Int32))] (.int (0 : Int32)) := V108.pad (pad_rep [] _ 8)
      refine g_astore X108 hx hby i0_135 rfl (l' := #[.val (.int p0), .val (.int p1), .val (.int p2), .val (.int (1 : Int32)), .val (.int (1 : Int32)), .val (.int v91), .val (.int v92), .val (.int v93), .val (.int v94), .val (.ref b95), .val (.ref b97), .val (.ref b95), .val (.ref b108), .unset, .unset, .unset]) rfl ?_
      refine g_iconst X108 hx hby i0_137 (z := (0 : Int32)) (by decide) ?_
      refine g_istore X108 hx hby i0_138 (l' := #[.val (.int p0), .val (.int p1), .val (.int p2), .val (.int (1 : Int32)), .val (.int (1 : Int32)), .val (.int v91), .val (.int v92), .val (.int v93), .val (.int v94), .val (.ref b95), .val (.ref b97), .val (.ref b95), .val (.ref b108), .val (.int (0 : Int32)), .unset, .unset]) rfl ?_
      refine g_iloadN X108 hx hby i0_140 rfl ?_
      refine g_if_eq X108 hx hby i0_141 (fun c141_109 => False.elim (absurd c141_109 (by decide))) fun c141_109 => ?_
      refine g_aload X108 hx hby i0_144 rfl rfl ?_
      refine g_iconst X108 hx hby i0_146 (z := (0 : Int32)) (by decide) ?_
      refine g_iload X108 hx hby i0_147 rfl ?_
      refine g_castore X108 hx hby hZ e108 V108 (i := 0) (by decide) (by decide) (by decide) (Nat.le_of_ble_eq_true rfl) i0_149 fun T110 h110 X110 e110 W110 V108 => ?_
      have V108 : Arv Z h110 b108 k108 .char (8 : Int32) [(.int (nar .char v91)), (.int (0 : Int32)), (.int (0 : Int32)), (.int (0 : Int32)), (.int (0 : Int32)), (.int (0 : Int32)), (.int (0 : Int32)), (.int (0 : Int32))] (.int (0 : Int32)) := V108
      have A95 := A95.wr W110
      have FL96 := FL96.other W110 (Or.inl ne_b95_b108)
      have E96 := E96.wr W110
      have A97 := A97.wr W110
      have FL98 := FL98.other W110 (Or.inl ne_b97_b108)
      have E98 := E98.wr W110
      have E100 := E100.wr W110
      have FV100 := FV100.other W110 (Or.inl ne_a100_b108)
      have FC100 := FC100.other W110 (Or.inl ne_a100_b108)
      have V100 := V100.other W110 ne_b100_b108
      have E101 := E101.wr W110
      have FV101 := FV101.other W110 (Or.inl ne_a101_b108)
      have FC101 := FC101.other W110 (Or.inl ne_a101_b108)
      have V101 := V101.other W110 ne_b101_b108
      have E104 := E104.wr W110
      have FV104 := FV104.other W110 (Or.inl ne_a104_b108)
      have FC104 := FC104.other W110 (Or.inl ne_a104_b108)
      have V104 := V104.other W110 ne_b104_b108
      have E105 := E105.wr W110
      have FV105 := FV105.other W110 (Or.inl ne_a105_b108)
      have FC105 := FC105.other W110 (Or.inl ne_a105_b108)
      have V105 := V105.other W110 ne_b105_b108
      have FV106 := FV106.other W110 (Or.inl ne_a98_b108)
      have FC106 := FC106.other W110 (Or.inl ne_a98_b108)
      have FN106 := FN106.other W110 (Or.inl ne_a98_b108)
      have FM106 := FM106.other W110 (Or.inl ne_a98_b108)
      have V106 := V106.other W110 ne_b98_b108
      have FV107 := FV107.other W110 (Or.inl ne_a96_b108)
      have FC107 := FC107.other W110 (Or.inl ne_a96_b108)
      have FN107 := FN107.other W110 (Or.inl ne_a96_b108)
      have FM107 := FM107.other W110 (Or.inl ne_a96_b108)
      have V107 := V107.other W110 ne_b96_b108
      have O := O.wr W110 g_b108
      have Z0 : n0 ≤ h110.size := Nat.le_trans Z0 (Nat.le_of_eq W110.size.symm)
      have N0 := Fr.snoc X110 N0 g_b108
      refine g_aload X110 hx hby i0_150 rfl rfl ?_
      refine g_iconst X110 hx hby i0_152 (z := (1 : Int32)) (by decide) ?_
      refine g_bipush X110 hx hby i0_153 (z := (61 : Int32)) (by decide) ?_
      refine g_castore X110 hx hby hZ e110 V108 (i := 1) (by decide) (by decide) (by decide) (Nat.le_of_ble_eq_true rfl) i0_155 fun T111 h111 X111 e111 W111 V108 => ?_
      have V108 : Arv Z h111 b108 k108 .char (8 : Int32) [(.int (nar .char v91)), (.int (nar .char (61 : Int32))), (.int (0 : Int32)), (.int (0 : Int32)), (.int (0 : Int32)), (.int (0 : Int32)), (.int (0 : Int32)), (.int (0 : Int32))] (.int (0 : Int32)) := V108
      have A95 := A95.wr W111
      have FL96 := FL96.other W111 (Or.inl ne_b95_b108)
      have E96 := E96.wr W111
      have A97 := A97.wr W111
      have FL98 := FL98.other W111 (Or.inl ne_b97_b108)
      have E98 := E98.wr W111
      have E100 := E100.wr W111
      have FV100 := FV100.other W111 (Or.inl ne_a100_b108)
      have FC100 := FC100.other W111 (Or.inl ne_a100_b108)
      have V100 := V100.other W111 ne_b100_b108
      have E101 := E101.wr W111
      have FV101 := FV101.other W111 (Or.inl ne_a101_b108)
      have FC101 := FC101.other W111 (Or.inl ne_a101_b108)
      have V101 := V101.other W111 ne_b101_b108
      have E104 := E104.wr W111
      have FV104 := FV104.other W111 (Or.inl ne_a104_b108)
      have FC104 := FC104.other W111 (Or.inl ne_a104_b108)
      have V104 := V104.other W111 ne_b104_b108
      have E105 := E105.wr W111
      have FV105 := FV105.other W111 (Or.inl ne_a105_b108)
      have FC105 := FC105.other W111 (Or.inl ne_a105_b108)
      have V105 := V105.other W111 ne_b105_b108
      have FV106 := FV106.other W111 (Or.inl ne_a98_b108)
      have FC106 := FC106.other W111 (Or.inl ne_a98_b108)
      have FN106 := FN106.other W111 (Or.inl ne_a98_b108)
      have FM106 := FM106.other W111 (Or.inl ne_a98_b108)
      have V106 := V106.other W111 ne_b98_b108
      have FV107 := FV107.other W111 (Or.inl ne_a96_b108)
      have FC107 := FC107.other W111 (Or.inl ne_a96_b108)
      have FN107 := FN107.other W111 (Or.inl ne_a96_b108)
      have FM107 := FM107.other W111 (Or.inl ne_a96_b108)
      have V107 := V107.other W111 ne_b96_b108
      have O := O.wr W111 g_b108
      have Z0 : n0 ≤ h111.size := Nat.le_trans Z0 (Nat.le_of_eq W111.size.symm)
      have N0 := Fr.snoc X111 N0 g_b108
      refine g_aload X111 hx hby i0_156 rfl rfl ?_
      refine g_iconst X111 hx hby i0_158 (z := (2 : Int32)) (by decide) ?_
      refine g_iload X111 hx hby i0_159 rfl ?_
      refine g_castore X111 hx hby hZ e111 V108 (i := 2) (by decide) (by decide) (by decide) (Nat.le_of_ble_eq_true rfl) i0_161 fun T112 h112 X112 e112 W112 V108 => ?_
      have V108 : Arv Z h112 b108 k108 .char (8 : Int32) [(.int (nar .char v91)), (.int (nar .char (61 : Int32))), (.int (nar .char v92)), (.int (0 : Int32)), (.int (0 : Int32)), (.int (0 : Int32)), (.int (0 : Int32)), (.int (0 : Int32))] (.int (0 : Int32)) := V108
      have A95 := A95.wr W112
      have FL96 := FL96.other W112 (Or.inl ne_b95_b108)
      have E96 := E96.wr W112
      have A97 := A97.wr W112
      have FL98 := FL98.other W112 (Or.inl ne_b97_b108)
      have E98 := E98.wr W112
      have E100 := E100.wr W112
      have FV100 := FV100.other W112 (Or.inl ne_a100_b108)
      have FC100 := FC100.other W112 (Or.inl ne_a100_b108)
      have V100 := V100.other W112 ne_b100_b108
      have E101 := E101.wr W112
      have FV101 := FV101.other W112 (Or.inl ne_a101_b108)
      have FC101 := FC101.other W112 (Or.inl ne_a101_b108)
      have V101 := V101.other W112 ne_b101_b108
      have E104 := E104.wr W112
      have FV104 := FV104.other W112 (Or.inl ne_a104_b108)
      have FC104 := FC104.other W112 (Or.inl ne_a104_b108)
      have V104 := V104.other W112 ne_b104_b108
      have E105 := E105.wr W112
      have FV105 := FV105.other W112 (Or.inl ne_a105_b108)
      have FC105 := FC105.other W112 (Or.inl ne_a105_b108)
      have V105 := V105.other W112 ne_b105_b108
      have FV106 := FV106.other W112 (Or.inl ne_a98_b108)
      have FC106 := FC106.other W112 (Or.inl ne_a98_b108)
      have FN106 := FN106.other W112 (Or.inl ne_a98_b108)
      have FM106 := FM106.other W112 (Or.inl ne_a98_b108)
      have V106 := V106.other W112 ne_b98_b108
      have FV107 := FV107.other W112 (Or.inl ne_a96_b108)
      have FC107 := FC107.other W112 (Or.inl ne_a96_b108)
      have FN107 := FN107.other W112 (Or.inl ne_a96_b108)
      have FM107 := FM107.other W112 (Or.inl ne_a96_b108)
      have V107 := V107.other W112 ne_b96_b108
      have O := O.wr W112 g_b108
      have Z0 : n0 ≤ h112.size := Nat.le_trans Z0 (Nat.le_of_eq W112.size.symm)
      have N0 := Fr.snoc X112 N0 g_b108
      refine g_aload X112 hx hby i0_162 rfl rfl ?_
      refine g_iconst X112 hx hby i0_164 (z := (3 : Int32)) (by decide) ?_
      refine g_bipush X112 hx hby i0_165 (z := (10 : Int32)) (by decide) ?_
      refine g_castore X112 hx hby hZ e112 V108 (i := 3) (by decide) (by decide) (by decide) (Nat.le_of_ble_eq_true rfl) i0_167 fun T113 h113 X113 e113 W113 V108 => ?_
      have V108 : Arv Z h113 b108 k108 .char (8 : Int32) [(.int (nar .char v91)), (.int (nar .char (61 : Int32))), (.int (nar .char v92)), (.int (nar .char (10 : Int32))), (.int (0 : Int32)), (.int (0 : Int32)), (.int (0 : Int32)), (.int (0 : Int32))] (.int (0 : Int32)) := V108
      have A95 := A95.wr W113
      have FL96 := FL96.other W113 (Or.inl ne_b95_b108)
      have E96 := E96.wr W113
      have A97 := A97.wr W113
      have FL98 := FL98.other W113 (Or.inl ne_b97_b108)
      have E98 := E98.wr W113
      have E100 := E100.wr W113
      have FV100 := FV100.other W113 (Or.inl ne_a100_b108)
      have FC100 := FC100.other W113 (Or.inl ne_a100_b108)
      have V100 := V100.other W113 ne_b100_b108
      have E101 := E101.wr W113
      have FV101 := FV101.other W113 (Or.inl ne_a101_b108)
      have FC101 := FC101.other W113 (Or.inl ne_a101_b108)
      have V101 := V101.other W113 ne_b101_b108
      have E104 := E104.wr W113
      have FV104 := FV104.other W113 (Or.inl ne_a104_b108)
      have FC104 := FC104.other W113 (Or.inl ne_a104_b108)
      have V104 := V104.other W113 ne_b104_b108
      have E105 := E105.wr W113
      have FV105 := FV105.other W113 (Or.inl ne_a105_b108)
      have FC105 := FC105.other W113 (Or.inl ne_a105_b108)
      have V105 := V105.other W113 ne_b105_b108
      have FV106 := FV106.other W113 (Or.inl ne_a98_b108)
      have FC106 := FC106.other W113 (Or.inl ne_a98_b108)
      have FN106 := FN106.other W113 (Or.inl ne_a98_b108)
      have FM106 := FM106.other W113 (Or.inl ne_a98_b108)
      have V106 := V106.other W113 ne_b98_b108
      have FV107 := FV107.other W113 (Or.inl ne_a96_b108)
      have FC107 := FC107.other W113 (Or.inl ne_a96_b108)
      have FN107 := FN107.other W113 (Or.inl ne_a96_b108)
      have FM107 := FM107.other W113 (Or.inl ne_a96_b108)
      have V107 := V107.other W113 ne_b96_b108
      have O := O.wr W113 g_b108
      have Z0 : n0 ≤ h113.size := Nat.le_trans Z0 (Nat.le_of_eq W113.size.symm)
      have N0 := Fr.snoc X113 N0 g_b108
      refine g_iconst X113 hx hby i0_168 (z := (4 : Int32)) (by decide) ?_
      refine g_istore X113 hx hby i0_169 (l' := #[.val (.int p0), .val (.int p1), .val (.int p2), .val (.int (1 : Int32)), .val (.int (1 : Int32)), .val (.int v91), .val (.int v92), .val (.int v93), .val (.int v94), .val (.ref b95), .val (.ref b97), .val (.ref b95), .val (.ref b108), .val (.int (4 : Int32)), .unset, .unset]) rfl ?_
      refine g_iload X113 hx hby i0_171 rfl ?_
      refine g_if_eq X113 hx hby i0_173 (fun c173_114 => False.elim (absurd c173_114 (by decide))) fun c173_114 => ?_
      refine g_aload X113 hx hby i0_176 rfl rfl ?_
      refine g_iload X113 hx hby i0_178 rfl ?_
      refine g_iload X113 hx hby i0_180 rfl ?_
      refine g_castore X113 hx hby hZ e113 V108 (i := 4) (by decide) (by decide) (by decide) (Nat.le_of_ble_eq_true rfl) i0_182 fun T115 h115 X115 e115 W115 V108 => ?_
      have V108 : Arv Z h115 b108 k108 .char (8 : Int32) [(.int (nar .char v91)), (.int (nar .char (61 : Int32))), (.int (nar .char v92)), (.int (nar .char (10 : Int32))), (.int (nar .char v93)), (.int (0 : Int32)), (.int (0 : Int32)), (.int (0 : Int32))] (.int (0 : Int32)) := V108
      have A95 := A95.wr W115
      have FL96 := FL96.other W115 (Or.inl ne_b95_b108)
      have E96 := E96.wr W115
      have A97 := A97.wr W115
      have FL98 := FL98.other W115 (Or.inl ne_b97_b108)
      have E98 := E98.wr W115
      have E100 := E100.wr W115
      have FV100 := FV100.other W115 (Or.inl ne_a100_b108)
      have FC100 := FC100.other W115 (Or.inl ne_a100_b108)
      have V100 := V100.other W115 ne_b100_b108
      have E101 := E101.wr W115
      have FV101 := FV101.other W115 (Or.inl ne_a101_b108)
      have FC101 := FC101.other W115 (Or.inl ne_a101_b108)
      have V101 := V101.other W115 ne_b101_b108
      have E104 := E104.wr W115
      have FV104 := FV104.other W115 (Or.inl ne_a104_b108)
      have FC104 := FC104.other W115 (Or.inl ne_a104_b108)
      have V104 := V104.other W115 ne_b104_b108
      have E105 := E105.wr W115
      have FV105 := FV105.other W115 (Or.inl ne_a105_b108)
      have FC105 := FC105.other W115 (Or.inl ne_a105_b108)
      have V105 := V105.other W115 ne_b105_b108
      have FV106 := FV106.other W115 (Or.inl ne_a98_b108)
      have FC106 := FC106.other W115 (Or.inl ne_a98_b108)
      have FN106 := FN106.other W115 (Or.inl ne_a98_b108)
      have FM106 := FM106.other W115 (Or.inl ne_a98_b108)
      have V106 := V106.other W115 ne_b98_b108
      have FV107 := FV107.other W115 (Or.inl ne_a96_b108)
      have FC107 := FC107.other W115 (Or.inl ne_a96_b108)
      have FN107 := FN107.other W115 (Or.inl ne_a96_b108)
      have FM107 := FM107.other W115 (Or.inl ne_a96_b108)
      have V107 := V107.other W115 ne_b96_b108
      have O := O.wr W115 g_b108
      have Z0 : n0 ≤ h115.size := Nat.le_trans Z0 (Nat.le_of_eq W115.size.symm)
      have N0 := Fr.snoc X115 N0 g_b108
      refine g_aload X115 hx hby i0_183 rfl rfl ?_
      refine g_iload X115 hx hby i0_185 rfl ?_
      refine g_iconst X115 hx hby i0_187 (z := (1 : Int32)) (by decide) ?_
      refine g_iadd X115 hx hby i0_188 ?_
      rw [show (4 : Int32) + (1 : Int32) = (5 : Int32) from by decide]
      refine g_bipush X115 hx hby i0_189 (z := (61 : Int32)) (by decide) ?_
      refine g_castore X115 hx hby hZ e115 V108 (i := 5) (by decide) (by decide) (by decide) (Nat.le_of_ble_eq_true rfl) i0_191 fun T116 h116 X116 e116 W116 V108 => ?_
      have V108 : Arv Z h116 b108 k108 .char (8 : Int32) [(.int (nar .char v91)), (.int (nar .char (61 : Int32))), (.int (nar .char v92)), (.int (nar .char (10 : Int32))), (.int (nar .char v93)), (.int (nar .char (61 : Int32))), (.int (0 : Int32)), (.int (0 : Int32))] (.int (0 : Int32)) := V108
      have A95 := A95.wr W116
      have FL96 := FL96.other W116 (Or.inl ne_b95_b108)
      have E96 := E96.wr W116
      have A97 := A97.wr W116
      have FL98 := FL98.other W116 (Or.inl ne_b97_b108)
      have E98 := E98.wr W116
      have E100 := E100.wr W116
      have FV100 := FV100.other W116 (Or.inl ne_a100_b108)
      have FC100 := FC100.other W116 (Or.inl ne_a100_b108)
      have V100 := V100.other W116 ne_b100_b108
      have E101 := E101.wr W116
      have FV101 := FV101.other W116 (Or.inl ne_a101_b108)
      have FC101 := FC101.other W116 (Or.inl ne_a101_b108)
      have V101 := V101.other W116 ne_b101_b108
      have E104 := E104.wr W116
      have FV104 := FV104.other W116 (Or.inl ne_a104_b108)
      have FC104 := FC104.other W116 (Or.inl ne_a104_b108)
      have V104 := V104.other W116 ne_b104_b108
      have E105 := E105.wr W116
      have FV105 := FV105.other W116 (Or.inl ne_a105_b108)
      have FC105 := FC105.other W116 (Or.inl ne_a105_b108)
      have V105 := V105.other W116 ne_b105_b108
      have FV106 := FV106.other W116 (Or.inl ne_a98_b108)
      have FC106 := FC106.other W116 (Or.inl ne_a98_b108)
      have FN106 := FN106.other W116 (Or.inl ne_a98_b108)
      have FM106 := FM106.other W116 (Or.inl ne_a98_b108)
      have V106 := V106.other W116 ne_b98_b108
      have FV107 := FV107.other W116 (Or.inl ne_a96_b108)
      have FC107 := FC107.other W116 (Or.inl ne_a96_b108)
      have FN107 := FN107.other W116 (Or.inl ne_a96_b108)
      have FM107 := FM107.other W116 (Or.inl ne_a96_b108)
      have V107 := V107.other W116 ne_b96_b108
      have O := O.wr W116 g_b108
      have Z0 : n0 ≤ h116.size := Nat.le_trans Z0 (Nat.le_of_eq W116.size.symm)
      have N0 := Fr.snoc X116 N0 g_b108
      refine g_aload X116 hx hby i0_192 rfl rfl ?_
      refine g_iload X116 hx hby i0_194 rfl ?_
      refine g_iconst X116 hx hby i0_196 (z := (2 : Int32)) (by decide) ?_
      refine g_iadd X116 hx hby i0_197 ?_
      rw [show (4 : Int32) + (2 : Int32) = (6 : Int32) from by decide]
      refine g_iload X116 hx hby i0_198 rfl ?_
      refine g_castore X116 hx hby hZ e116 V108 (i := 6) (by decide) (by decide) (by decide) (Nat.le_of_ble_eq_true rfl) i0_200 fun T117 h117 X117 e117 W117 V108 => ?_
      have V108 : Arv Z h117 b108 k108 .char (8 : Int32) [(.int (nar .char v91)), (.int (nar .char (61 : Int32))), (.int (nar .char v92)), (.int (nar .char (10 : Int32))), (.int (nar .char v93)), (.int (nar .char (61 : Int32))), (.int (nar .char v94)), (.int (0 : Int32))] (.int (0 : Int32)) := V108
      have A95 := A95.wr W117
      have FL96 := FL96.other W117 (Or.inl ne_b95_b108)
      have E96 := E96.wr W117
      have A97 := A97.wr W117
      have FL98 := FL98.other W117 (Or.inl ne_b97_b108)
      have E98 := E98.wr W117
      have E100 := E100.wr W117
      have FV100 := FV100.other W117 (Or.inl ne_a100_b108)
      have FC100 := FC100.other W117 (Or.inl ne_a100_b108)
      have V100 := V100.other W117 ne_b100_b108
      have E101 := E101.wr W117
      have FV101 := FV101.other W117 (Or.inl ne_a101_b108)
      have FC101 := FC101.other W117 (Or.inl ne_a101_b108)
      have V101 := V101.other W117 ne_b101_b108
      have E104 := E104.wr W117
      have FV104 := FV104.other W117 (Or.inl ne_a104_b108)
      have FC104 := FC104.other W117 (Or.inl ne_a104_b108)
      have V104 := V104.other W117 ne_b104_b108
      have E105 := E105.wr W117
      have FV105 := FV105.other W117 (Or.inl ne_a105_b108)
      have FC105 := FC105.other W117 (Or.inl ne_a105_b108)
      have V105 := V105.other W117 ne_b105_b108
      have FV106 := FV106.other W117 (Or.inl ne_a98_b108)
      have FC106 := FC106.other W117 (Or.inl ne_a98_b108)
      have FN106 := FN106.other W117 (Or.inl ne_a98_b108)
      have FM106 := FM106.other W117 (Or.inl ne_a98_b108)
      have V106 := V106.other W117 ne_b98_b108
      have FV107 := FV107.other W117 (Or.inl ne_a96_b108)
      have FC107 := FC107.other W117 (Or.inl ne_a96_b108)
      have FN107 := FN107.other W117 (Or.inl ne_a96_b108)
      have FM107 := FM107.other W117 (Or.inl ne_a96_b108)
      have V107 := V107.other W117 ne_b96_b108
      have O := O.wr W117 g_b108
      have Z0 : n0 ≤ h117.size := Nat.le_trans Z0 (Nat.le_of_eq W117.size.symm)
      have N0 := Fr.snoc X117 N0 g_b108
      refine g_aload X117 hx hby i0_201 rfl rfl ?_
      refine g_iload X117 hx hby i0_203 rfl ?_
      refine g_iconst X117 hx hby i0_205 (z := (3 : Int32)) (by decide) ?_
      refine g_iadd X117 hx hby i0_206 ?_
      rw [show (4 : Int32) + (3 : Int32) = (7 : Int32) from by decide]
      refine g_bipush X117 hx hby i0_207 (z := (10 : Int32)) (by decide) ?_
      refine g_castore X117 hx hby hZ e117 V108 (i := 7) (by decide) (by decide) (by decide) (Nat.le_of_ble_eq_true rfl) i0_209 fun T118 h118 X118 e118 W118 V108 => ?_
      have V108 : Arv Z h118 b108 k108 .char (8 : Int32) [(.int (nar .char v91)), (.int (nar .char (61 : Int32))), (.int (nar .char v92)), (.int (nar .char (10 : Int32))), (.int (nar .char v93)), (.int (nar .char (61 : Int32))), (.int (nar .char v94)), (.int (nar .char (10 : Int32)))] (.int (0 : Int32)) := V108
      have A95 := A95.wr W118
      have FL96 := FL96.other W118 (Or.inl ne_b95_b108)
      have E96 := E96.wr W118
      have A97 := A97.wr W118
      have FL98 := FL98.other W118 (Or.inl ne_b97_b108)
      have E98 := E98.wr W118
      have E100 := E100.wr W118
      have FV100 := FV100.other W118 (Or.inl ne_a100_b108)
      have FC100 := FC100.other W118 (Or.inl ne_a100_b108)
      have V100 := V100.other W118 ne_b100_b108
      have E101 := E101.wr W118
      have FV101 := FV101.other W118 (Or.inl ne_a101_b108)
      have FC101 := FC101.other W118 (Or.inl ne_a101_b108)
      have V101 := V101.other W118 ne_b101_b108
      have E104 := E104.wr W118
      have FV104 := FV104.other W118 (Or.inl ne_a104_b108)
      have FC104 := FC104.other W118 (Or.inl ne_a104_b108)
      have V104 := V104.other W118 ne_b104_b108
      have E105 := E105.wr W118
      have FV105 := FV105.other W118 (Or.inl ne_a105_b108)
      have FC105 := FC105.other W118 (Or.inl ne_a105_b108)
      have V105 := V105.other W118 ne_b105_b108
      have FV106 := FV106.other W118 (Or.inl ne_a98_b108)
      have FC106 := FC106.other W118 (Or.inl ne_a98_b108)
      have FN106 := FN106.other W118 (Or.inl ne_a98_b108)
      have FM106 := FM106.other W118 (Or.inl ne_a98_b108)
      have V106 := V106.other W118 ne_b98_b108
      have FV107 := FV107.other W118 (Or.inl ne_a96_b108)
      have FC107 := FC107.other W118 (Or.inl ne_a96_b108)
      have FN107 := FN107.other W118 (Or.inl ne_a96_b108)
      have FM107 := FM107.other W118 (Or.inl ne_a96_b108)
      have V107 := V107.other W118 ne_b96_b108
      have O := O.wr W118 g_b108
      have Z0 : n0 ≤ h118.size := Nat.le_trans Z0 (Nat.le_of_eq W118.size.symm)
      have N0 := Fr.snoc X118 N0 g_b108
      refine g_iload X118 hx hby i0_210 rfl ?_
      refine g_iconst X118 hx hby i0_212 (z := (4 : Int32)) (by decide) ?_
      refine g_iadd X118 hx hby i0_213 ?_
      rw [show (4 : Int32) + (4 : Int32) = (8 : Int32) from by decide]
      refine g_istore X118 hx hby i0_214 (l' := #[.val (.int p0), .val (.int p1), .val (.int p2), .val (.int (1 : Int32)), .val (.int (1 : Int32)), .val (.int v91), .val (.int v92), .val (.int v93), .val (.int v94), .val (.ref b95), .val (.ref b97), .val (.ref b95), .val (.ref b108), .val (.int (8 : Int32)), .unset, .unset]) rfl ?_
      refine g_bipush X118 hx hby i0_216 (z := (8 : Int32)) (by decide) ?_
      refine g_newarray X118 hx hby hZ (ty := .char) rfl (hw _ (List.mem_of_getElem? (i := 169) rfl)) e118 i0_218 (by decide) 8 (by decide) (by decide) (by decide) (by decide) fun T119 h119 b119 k119 X119 e119 E119 hb119 V119 => ?_
      have ne_b95_b119 : b95 ≠ b119 := Nat.ne_of_lt (Nat.lt_of_lt_of_le A95.lt (Nat.le_of_eq hb119.symm))
      have ne_a96_b119 : a96 ≠ b119 := Nat.ne_of_lt (Nat.lt_of_lt_of_le E96.lt (Nat.le_of_eq hb119.symm))
      have ne_b97_b119 : b97 ≠ b119 := Nat.ne_of_lt (Nat.lt_of_lt_of_le A97.lt (Nat.le_of_eq hb119.symm))
      have ne_a98_b119 : a98 ≠ b119 := Nat.ne_of_lt (Nat.lt_of_lt_of_le E98.lt (Nat.le_of_eq hb119.symm))
      have ne_a100_b119 : a100 ≠ b119 := Nat.ne_of_lt (Nat.lt_of_lt_of_le E100.lt (Nat.le_of_eq hb119.symm))
      have ne_b100_b119 : b100 ≠ b119 := Nat.ne_of_lt (Nat.lt_of_lt_of_le V100.lt (Nat.le_of_eq hb119.symm))
      have ne_a101_b119 : a101 ≠ b119 := Nat.ne_of_lt (Nat.lt_of_lt_of_le E101.lt (Nat.le_of_eq hb119.symm))
      have ne_b101_b119 : b101 ≠ b119 := Nat.ne_of_lt (Nat.lt_of_lt_of_le V101.lt (Nat.le_of_eq hb119.symm))
      have ne_a104_b119 : a104 ≠ b119 := Nat.ne_of_lt (Nat.lt_of_lt_of_le E104.lt (Nat.le_of_eq hb119.symm))
      have ne_b104_b119 : b104 ≠ b119 := Nat.ne_of_lt (Nat.lt_of_lt_of_le V104.lt (Nat.le_of_eq hb119.symm))
      have ne_a105_b119 : a105 ≠ b119 := Nat.ne_of_lt (Nat.lt_of_lt_of_le E105.lt (Nat.le_of_eq hb119.symm))
      have ne_b105_b119 : b105 ≠ b119 := Nat.ne_of_lt (Nat.lt_of_lt_of_le V105.lt (Nat.le_of_eq hb119.symm))
      have ne_b98_b119 : b98 ≠ b119 := Nat.ne_of_lt (Nat.lt_of_lt_of_le V106.lt (Nat.le_of_eq hb119.symm))
      have ne_b96_b119 : b96 ≠ b119 := Nat.ne_of_lt (Nat.lt_of_lt_of_le V107.lt (Nat.le_of_eq hb119.symm))
      have ne_b108_b119 : b108 ≠ b119 := Nat.ne_of_lt (Nat.lt_of_lt_of_le V108.lt (Nat.le_of_eq hb119.symm))
      have g_b119 : n0 ≤ b119 := Nat.le_trans Z0 (Nat.le_of_eq hb119.symm)
      have A95 := A95.ext E119
      have FL96 := FL96.ext E119
      have E96 := E96.ext E119
      have A97 := A97.ext E119
      have FL98 := FL98.ext E119
      have E98 := E98.ext E119
      have E100 := E100.ext E119
      have FV100 := FV100.ext E119
      have FC100 := FC100.ext E119
      have V100 := V100.ext E119
      have E101 := E101.ext E119
      have FV101 := FV101.ext E119
      have FC101 := FC101.ext E119
      have V101 := V101.ext E119
      have E104 := E104.ext E119
      have FV104 := FV104.ext E119
      have FC104 := FC104.ext E119
      have V104 := V104.ext E119
      have E105 := E105.ext E119
      have FV105 := FV105.ext E119
      have FC105 := FC105.ext E119
      have V105 := V105.ext E119
      have FV106 := FV106.ext E119
      have FC106 := FC106.ext E119
      have FN106 := FN106.ext E119
      have FM106 := FM106.ext E119
      have V106 := V106.ext E119
      have FV107 := FV107.ext E119
      have FC107 := FC107.ext E119
      have FN107 := FN107.ext E119
      have FM107 := FM107.ext E119
      have V107 := V107.ext E119
      have V108 := V108.ext E119
      have O := O.ext E119
      have Z0 : n0 ≤ h119.size := Nat.le_trans Z0 E119.1
      have V119 : Arv Z h119 b119 k119 .char (8 : Int32) [(.int (0 : Int32)), (.int (0 : Int32)), (.int (0 : Int32)), (.int (0 : Int32)), (.int (0 : Int32)), (.int (0 : Int32)), (.int (0 : Int32)), (.int (0 : Int32))] (.int (0 : Int32)) := V119.pad (pad_rep [] _ 8)
      refine g_astore X119 hx hby i0_220 rfl (l' := #[.val (.int p0), .val (.int p1), .val (.int p2), .val (.int (1 : Int32)), .val (.int (1 : Int32)), .val (.int v91), .val (.int v92), .val (.int v93), .val (.int v94), .val (.ref b95), .val (.ref b97), .val (.ref b95), .val (.ref b108), .val (.int (8 : Int32)), .val (.ref b119), .unset]) rfl ?_
      refine g_iconst X119 hx hby i0_222 (z := (0 : Int32)) (by decide) ?_
      refine g_istore X119 hx hby i0_223 (l' := #[.val (.int p0), .val (.int p1), .val (.int p2), .val (.int (1 : Int32)), .val (.int (1 : Int32)), .val (.int v91), .val (.int v92), .val (.int v93), .val (.int v94), .val (.ref b95), .val (.ref b97), .val (.ref b95), .val (.ref b108), .val (.int (8 : Int32)), .val (.ref b119), .val (.int (0 : Int32))]) rfl ?_
      refine g_iload X119 hx hby i0_225 rfl ?_
      refine g_if_eq X119 hx hby i0_227 (fun c227_120 => False.elim (absurd c227_120 (by decide))) fun c227_120 => ?_
      refine g_aload X119 hx hby i0_230 rfl rfl ?_
      refine g_iconst X119 hx hby i0_232 (z := (0 : Int32)) (by decide) ?_
      refine g_iload X119 hx hby i0_233 rfl ?_
      refine g_castore X119 hx hby hZ e119 V119 (i := 0) (by decide) (by decide) (by decide) (Nat.le_of_ble_eq_true rfl) i0_235 fun T121 h121 X121 e121 W121 V119 => ?_
      have V119 : Arv Z h121 b119 k119 .char (8 : Int32) [(.int (nar .char v93)), (.int (0 : Int32)), (.int (0 : Int32)), (.int (0 : Int32)), (.int (0 : Int32)), (.int (0 : Int32)), (.int (0 : Int32)), (.int (0 : Int32))] (.int (0 : Int32)) := V119
      have A95 := A95.wr W121
      have FL96 := FL96.other W121 (Or.inl ne_b95_b119)
      have E96 := E96.wr W121
      have A97 := A97.wr W121
      have FL98 := FL98.other W121 (Or.inl ne_b97_b119)
      have E98 := E98.wr W121
      have E100 := E100.wr W121
      have FV100 := FV100.other W121 (Or.inl ne_a100_b119)
      have FC100 := FC100.other W121 (Or.inl ne_a100_b119)
      have V100 := V100.other W121 ne_b100_b119
      have E101 := E101.wr W121
      have FV101 := FV101.other W121 (Or.inl ne_a101_b119)
      have FC101 := FC101.other W121 (Or.inl ne_a101_b119)
      have V101 := V101.other W121 ne_b101_b119
      have E104 := E104.wr W121
      have FV104 := FV104.other W121 (Or.inl ne_a104_b119)
      have FC104 := FC104.other W121 (Or.inl ne_a104_b119)
      have V104 := V104.other W121 ne_b104_b119
      have E105 := E105.wr W121
      have FV105 := FV105.other W121 (Or.inl ne_a105_b119)
      have FC105 := FC105.other W121 (Or.inl ne_a105_b119)
      have V105 := V105.other W121 ne_b105_b119
      have FV106 := FV106.other W121 (Or.inl ne_a98_b119)
      have FC106 := FC106.other W121 (Or.inl ne_a98_b119)
      have FN106 := FN106.other W121 (Or.inl ne_a98_b119)
      have FM106 := FM106.other W121 (Or.inl ne_a98_b119)
      have V106 := V106.other W121 ne_b98_b119
      have FV107 := FV107.other W121 (Or.inl ne_a96_b119)
      have FC107 := FC107.other W121 (Or.inl ne_a96_b119)
      have FN107 := FN107.other W121 (Or.inl ne_a96_b119)
      have FM107 := FM107.other W121 (Or.inl ne_a96_b119)
      have V107 := V107.other W121 ne_b96_b119
      have V108 := V108.other W121 ne_b108_b119
      have O := O.wr W121 g_b119
      have Z0 : n0 ≤ h121.size := Nat.le_trans Z0 (Nat.le_of_eq W121.size.symm)
      have N0 := Fr.snoc X121 N0 g_b119
      refine g_aload X121 hx hby i0_236 rfl rfl ?_
      refine g_iconst X121 hx hby i0_238 (z := (1 : Int32)) (by decide) ?_
      refine g_bipush X121 hx hby i0_239 (z := (61 : Int32)) (by decide) ?_
      refine g_castore X121 hx hby hZ e121 V119 (i := 1) (by decide) (by decide) (by decide) (Nat.le_of_ble_eq_true rfl) i0_241 fun T122 h122 X122 e122 W122 V119 => ?_
      have V119 : Arv Z h122 b119 k119 .char (8 : Int32) [(.int (nar .char v93)), (.int (nar .char (61 : Int32))), (.int (0 : Int32)), (.int (0 : Int32)), (.int (0 : Int32)), (.int (0 : Int32)), (.int (0 : Int32)), (.int (0 : Int32))] (.int (0 : Int32)) := V119
      have A95 := A95.wr W122
      have FL96 := FL96.other W122 (Or.inl ne_b95_b119)
      have E96 := E96.wr W122
      have A97 := A97.wr W122
      have FL98 := FL98.other W122 (Or.inl ne_b97_b119)
      have E98 := E98.wr W122
      have E100 := E100.wr W122
      have FV100 := FV100.other W122 (Or.inl ne_a100_b119)
      have FC100 := FC100.other W122 (Or.inl ne_a100_b119)
      have V100 := V100.other W122 ne_b100_b119
      have E101 := E101.wr W122
      have FV101 := FV101.other W122 (Or.inl ne_a101_b119)
      have FC101 := FC101.other W122 (Or.inl ne_a101_b119)
      have V101 := V101.other W122 ne_b101_b119
      have E104 := E104.wr W122
      have FV104 := FV104.other W122 (Or.inl ne_a104_b119)
      have FC104 := FC104.other W122 (Or.inl ne_a104_b119)
      have V104 := V104.other W122 ne_b104_b119
      have E105 := E105.wr W122
      have FV105 := FV105.other W122 (Or.inl ne_a105_b119)
      have FC105 := FC105.other W122 (Or.inl ne_a105_b119)
      have V105 := V105.other W122 ne_b105_b119
      have FV106 := FV106.other W122 (Or.inl ne_a98_b119)
      have FC106 := FC106.other W122 (Or.inl ne_a98_b119)
      have FN106 := FN106.other W122 (Or.inl ne_a98_b119)
      have FM106 := FM106.other W122 (Or.inl ne_a98_b119)
      have V106 := V106.other W122 ne_b98_b119
      have FV107 := FV107.other W122 (Or.inl ne_a96_b119)
      have FC107 := FC107.other W122 (Or.inl ne_a96_b119)
      have FN107 := FN107.other W122 (Or.inl ne_a96_b119)
      have FM107 := FM107.other W122 (Or.inl ne_a96_b119)
      have V107 := V107.other W122 ne_b96_b119
      have V108 := V108.other W122 ne_b108_b119
      have O := O.wr W122 g_b119
      have Z0 : n0 ≤ h122.size := Nat.le_trans Z0 (Nat.le_of_eq W122.size.symm)
      have N0 := Fr.snoc X122 N0 g_b119
      refine g_aload X122 hx hby i0_242 rfl rfl ?_
      refine g_iconst X122 hx hby i0_244 (z := (2 : Int32)) (by decide) ?_
      refine g_iload X122 hx hby i0_245 rfl ?_
      refine g_castore X122 hx hby hZ e122 V119 (i := 2) (by decide) (by decide) (by decide) (Nat.le_of_ble_eq_true rfl) i0_247 fun T123 h123 X123 e123 W123 V119 => ?_
      have V119 : Arv Z h123 b119 k119 .char (8 : Int32) [(.int (nar .char v93)), (.int (nar .char (61 : Int32))), (.int (nar .char v94)), (.int (0 : Int32)), (.int (0 : Int32)), (.int (0 : Int32)), (.int (0 : Int32)), (.int (0 : Int32))] (.int (0 : Int32)) := V119
      have A95 := A95.wr W123
      have FL96 := FL96.other W123 (Or.inl ne_b95_b119)
      have E96 := E96.wr W123
      have A97 := A97.wr W123
      have FL98 := FL98.other W123 (Or.inl ne_b97_b119)
      have E98 := E98.wr W123
      have E100 := E100.wr W123
      have FV100 := FV100.other W123 (Or.inl ne_a100_b119)
      have FC100 := FC100.other W123 (Or.inl ne_a100_b119)
      have V100 := V100.other W123 ne_b100_b119
      have E101 := E101.wr W123
      have FV101 := FV101.other W123 (Or.inl ne_a101_b119)
      have FC101 := FC101.other W123 (Or.inl ne_a101_b119)
      have V101 := V101.other W123 ne_b101_b119
      have E104 := E104.wr W123
      have FV104 := FV104.other W123 (Or.inl ne_a104_b119)
      have FC104 := FC104.other W123 (Or.inl ne_a104_b119)
      have V104 := V104.other W123 ne_b104_b119
      have E105 := E105.wr W123
      have FV105 := FV105.other W123 (Or.inl ne_a105_b119)
      have FC105 := FC105.other W123 (Or.inl ne_a105_b119)
      have V105 := V105.other W123 ne_b105_b119
      have FV106 := FV106.other W123 (Or.inl ne_a98_b119)
      have FC106 := FC106.other W123 (Or.inl ne_a98_b119)
      have FN106 := FN106.other W123 (Or.inl ne_a98_b119)
      have FM106 := FM106.other W123 (Or.inl ne_a98_b119)
      have V106 := V106.other W123 ne_b98_b119
      have FV107 := FV107.other W123 (Or.inl ne_a96_b119)
      have FC107 := FC107.other W123 (Or.inl ne_a96_b119)
      have FN107 := FN107.other W123 (Or.inl ne_a96_b119)
      have FM107 := FM107.other W123 (Or.inl ne_a96_b119)
      have V107 := V107.other W123 ne_b96_b119
      have V108 := V108.other W123 ne_b108_b119
      have O := O.wr W123 g_b119
      have Z0 : n0 ≤ h123.size := Nat.le_trans Z0 (Nat.le_of_eq W123.size.symm)
      have N0 := Fr.snoc X123 N0 g_b119
      refine g_aload X123 hx hby i0_248 rfl rfl ?_
      refine g_iconst X123 hx hby i0_250 (z := (3 : Int32)) (by decide) ?_
      refine g_bipush X123 hx hby i0_251 (z := (10 : Int32)) (by decide) ?_
      refine g_castore X123 hx hby hZ e123 V119 (i := 3) (by decide) (by decide) (by decide) (Nat.le_of_ble_eq_true rfl) i0_253 fun T124 h124 X124 e124 W124 V119 => ?_
      have V119 : Arv Z h124 b119 k119 .char (8 : Int32) [(.int (nar .char v93)), (.int (nar .char (61 : Int32))), (.int (nar .char v94)), (.int (nar .char (10 : Int32))), (.int (0 : Int32)), (.int (0 : Int32)), (.int (0 : Int32)), (.int (0 : Int32))] (.int (0 : Int32)) := V119
      have A95 := A95.wr W124
      have FL96 := FL96.other W124 (Or.inl ne_b95_b119)
      have E96 := E96.wr W124
      have A97 := A97.wr W124
      have FL98 := FL98.other W124 (Or.inl ne_b97_b119)
      have E98 := E98.wr W124
      have E100 := E100.wr W124
      have FV100 := FV100.other W124 (Or.inl ne_a100_b119)
      have FC100 := FC100.other W124 (Or.inl ne_a100_b119)
      have V100 := V100.other W124 ne_b100_b119
      have E101 := E101.wr W124
      have FV101 := FV101.other W124 (Or.inl ne_a101_b119)
      have FC101 := FC101.other W124 (Or.inl ne_a101_b119)
      have V101 := V101.other W124 ne_b101_b119
      have E104 := E104.wr W124
      have FV104 := FV104.other W124 (Or.inl ne_a104_b119)
      have FC104 := FC104.other W124 (Or.inl ne_a104_b119)
      have V104 := V104.other W124 ne_b104_b119
      have E105 := E105.wr W124
      have FV105 := FV105.other W124 (Or.inl ne_a105_b119)
      have FC105 := FC105.other W124 (Or.inl ne_a105_b119)
      have V105 := V105.other W124 ne_b105_b119
      have FV106 := FV106.other W124 (Or.inl ne_a98_b119)
      have FC106 := FC106.other W124 (Or.inl ne_a98_b119)
      have FN106 := FN106.other W124 (Or.inl ne_a98_b119)
      have FM106 := FM106.other W124 (Or.inl ne_a98_b119)
      have V106 := V106.other W124 ne_b98_b119
      have FV107 := FV107.other W124 (Or.inl ne_a96_b119)
      have FC107 := FC107.other W124 (Or.inl ne_a96_b119)
      have FN107 := FN107.other W124 (Or.inl ne_a96_b119)
      have FM107 := FM107.other W124 (Or.inl ne_a96_b119)
      have V107 := V107.other W124 ne_b96_b119
      have V108 := V108.other W124 ne_b108_b119
      have O := O.wr W124 g_b119
      have Z0 : n0 ≤ h124.size := Nat.le_trans Z0 (Nat.le_of_eq W124.size.symm)
      have N0 := Fr.snoc X124 N0 g_b119
      refine g_iconst X124 hx hby i0_254 (z := (4 : Int32)) (by decide) ?_
      refine g_istore X124 hx hby i0_255 (l' := #[.val (.int p0), .val (.int p1), .val (.int p2), .val (.int (1 : Int32)), .val (.int (1 : Int32)), .val (.int v91), .val (.int v92), .val (.int v93), .val (.int v94), .val (.ref b95), .val (.ref b97), .val (.ref b95), .val (.ref b108), .val (.int (8 : Int32)), .val (.ref b119), .val (.int (4 : Int32))]) rfl ?_
      refine g_aload X124 hx hby i0_257 rfl rfl ?_
      refine g_aload X124 hx hby i0_259 rfl rfl ?_
      refine g_acmp_ne X124 hx hby i0_261 rfl rfl (fun c261_125 => False.elim (c261_125 rfl)) fun c261_125 => ?_
      refine g_aload X124 hx hby i0_264 rfl rfl ?_
      refine g_callV0 X124 hx hby hZ (y0 := (⟨"com/example/cloudgavel/cloudgavel/cli/Report", "toString", "()Ljava/lang/String;"⟩ : MethodName)) (y := (⟨"com/example/cloudgavel/cloudgavel/cli/Report", "toString", "()Ljava/lang/String;"⟩ : MethodName)) (argsL := []) (rest := []) hown (hw _ (List.mem_of_getElem? (i := 170) rfl)) (hw _ (List.mem_of_getElem? (i := 171) rfl)) (notFace_of_selects (args := #[]) (mvT hZ (hw _ (List.mem_of_getElem? (i := 173) rfl)))) (hw _ (List.mem_of_getElem? (i := 173) rfl)) (hw _ (List.mem_of_getElem? (i := 172) rfl)) (hw _ (List.mem_of_getElem? (i := 2) rfl)) (hw _ (List.mem_of_getElem? (i := 174) rfl)) (by decide) (a := b95) A95 (rm30 l Z a0 hw [] b95 cz a96 b96 kb96 _ (8 : Int32) 8 h124 n0 Z0 S0 hcz O FL96 E96 FV107 FC107 FN107 V107 (by decide) (by decide) (by decide) (by decide)) e124 (by rw [hml]; rfl) pd_25 rfl rfl i0_266 (by decide) 0 rfl (by decide) (by decide) (by decide) fun T126 v126 L126 X126 q126 => ?_
      obtain ⟨_, rfl, K126, t126, tb126, kt126, rfl, g_t126, st126, E126, FV126, FC126, V126, g_tb126, stb126, ne_t126_tb126, N126⟩ := q126
      have N0 := Fr.app N0 N126
      have ne_b95_t126 : b95 ≠ t126 := Nat.ne_of_lt (Nat.lt_of_lt_of_le A95.lt st126)
      have ne_a96_t126 : a96 ≠ t126 := Nat.ne_of_lt (Nat.lt_of_lt_of_le E96.lt st126)
      have ne_b97_t126 : b97 ≠ t126 := Nat.ne_of_lt (Nat.lt_of_lt_of_le A97.lt st126)
      have ne_a98_t126 : a98 ≠ t126 := Nat.ne_of_lt (Nat.lt_of_lt_of_le E98.lt st126)
      have ne_a100_t126 : a100 ≠ t126 := Nat.ne_of_lt (Nat.lt_of_lt_of_le E100.lt st126)
      have ne_b100_t126 : b100 ≠ t126 := Nat.ne_of_lt (Nat.lt_of_lt_of_le V100.lt st126)
      have ne_a101_t126 : a101 ≠ t126 := Nat.ne_of_lt (Nat.lt_of_lt_of_le E101.lt st126)
      have ne_b101_t126 : b101 ≠ t126 := Nat.ne_of_lt (Nat.lt_of_lt_of_le V101.lt st126)
      have ne_a104_t126 : a104 ≠ t126 := Nat.ne_of_lt (Nat.lt_of_lt_of_le E104.lt st126)
      have ne_b104_t126 : b104 ≠ t126 := Nat.ne_of_lt (Nat.lt_of_lt_of_le V104.lt st126)
      have ne_a105_t126 : a105 ≠ t126 := Nat.ne_of_lt (Nat.lt_of_lt_of_le E105.lt st126)
      have ne_b105_t126 : b105 ≠ t126 := Nat.ne_of_lt (Nat.lt_of_lt_of_le V105.lt st126)
      have ne_b98_t126 : b98 ≠ t126 := Nat.ne_of_lt (Nat.lt_of_lt_of_le V106.lt st126)
      have ne_b96_t126 : b96 ≠ t126 := Nat.ne_of_lt (Nat.lt_of_lt_of_le V107.lt st126)
      have ne_b108_t126 : b108 ≠ t126 := Nat.ne_of_lt (Nat.lt_of_lt_of_le V108.lt st126)
      have ne_b119_t126 : b119 ≠ t126 := Nat.ne_of_lt (Nat.lt_of_lt_of_le V119.lt st126)
      have ne_b95_tb126 : b95 ≠ tb126 := Nat.ne_of_lt (Nat.lt_of_lt_of_le A95.lt stb126)
      have ne_a96_tb126 : a96 ≠ tb126 := Nat.ne_of_lt (Nat.lt_of_lt_of_le E96.lt stb126)
      have ne_b97_tb126 : b97 ≠ tb126 := Nat.ne_of_lt (Nat.lt_of_lt_of_le A97.lt stb126)
      have ne_a98_tb126 : a98 ≠ tb126 := Nat.ne_of_lt (Nat.lt_of_lt_of_le E98.lt stb126)
      have ne_a100_tb126 : a100 ≠ tb126 := Nat.ne_of_lt (Nat.lt_of_lt_of_le E100.lt stb126)
      have ne_b100_tb126 : b100 ≠ tb126 := Nat.ne_of_lt (Nat.lt_of_lt_of_le V100.lt stb126)
      have ne_a101_tb126 : a101 ≠ tb126 := Nat.ne_of_lt (Nat.lt_of_lt_of_le E101.lt stb126)
      have ne_b101_tb126 : b101 ≠ tb126 := Nat.ne_of_lt (Nat.lt_of_lt_of_le V101.lt stb126)
      have ne_a104_tb126 : a104 ≠ tb126 := Nat.ne_of_lt (Nat.lt_of_lt_of_le E104.lt stb126)
      have ne_b104_tb126 : b104 ≠ tb126 := Nat.ne_of_lt (Nat.lt_of_lt_of_le V104.lt stb126)
      have ne_a105_tb126 : a105 ≠ tb126 := Nat.ne_of_lt (Nat.lt_of_lt_of_le E105.lt stb126)
      have ne_b105_tb126 : b105 ≠ tb126 := Nat.ne_of_lt (Nat.lt_of_lt_of_le V105.lt stb126)
      have ne_b98_tb126 : b98 ≠ tb126 := Nat.ne_of_lt (Nat.lt_of_lt_of_le V106.lt stb126)
      have ne_b96_tb126 : b96 ≠ tb126 := Nat.ne_of_lt (Nat.lt_of_lt_of_le V107.lt stb126)
      have ne_b108_tb126 : b108 ≠ tb126 := Nat.ne_of_lt (Nat.lt_of_lt_of_le V108.lt stb126)
      have ne_b119_tb126 : b119 ≠ tb126 := Nat.ne_of_lt (Nat.lt_of_lt_of_le V119.lt stb126)
      have A95 := A95.keep K126
      have FL96 := FL96.keep K126 nin0
      have E96 := E96.keep K126
      have A97 := A97.keep K126
      have FL98 := FL98.keep K126 nin0
      have E98 := E98.keep K126
      have E100 := E100.keep K126
      have FV100 := FV100.keep K126 nin0
      have FC100 := FC100.keep K126 nin0
      have V100 := V100.keep K126 nin0
      have E101 := E101.keep K126
      have FV101 := FV101.keep K126 nin0
      have FC101 := FC101.keep K126 nin0
      have V101 := V101.keep K126 nin0
      have E104 := E104.keep K126
      have FV104 := FV104.keep K126 nin0
      have FC104 := FC104.keep K126 nin0
      have V104 := V104.keep K126 nin0
      have E105 := E105.keep K126
      have FV105 := FV105.keep K126 nin0
      have FC105 := FC105.keep K126 nin0
      have V105 := V105.keep K126 nin0
      have FV106 := FV106.keep K126 nin0
      have FC106 := FC106.keep K126 nin0
      have FN106 := FN106.keep K126 nin0
      have FM106 := FM106.keep K126 nin0
      have V106 := V106.keep K126 nin0
      have FV107 := FV107.keep K126 nin0
      have FC107 := FC107.keep K126 nin0
      have FN107 := FN107.keep K126 nin0
      have FM107 := FM107.keep K126 nin0
      have V107 := V107.keep K126 nin0
      have V108 := V108.keep K126 nin0
      have V119 := V119.keep K126 nin0
      have O := O.keep K126 all0
      have Z0 : n0 ≤ T126.heap.size := Nat.le_trans Z0 K126.1
      have V126 : Arv Z T126.heap tb126 kt126 .byte (8 : Int32) [(.int (nar .byte v91.toInt8.toInt32)), (.int (nar .byte (61 : Int32).toInt8.toInt32)), (.int (nar .byte v92.toInt8.toInt32)), (.int (nar .byte (10 : Int32).toInt8.toInt32)), (.int (nar .byte v93.toInt8.toInt32)), (.int (nar .byte (61 : Int32).toInt8.toInt32)), (.int (nar .byte v94.toInt8.toInt32)), (.int (nar .byte (10 : Int32).toInt8.toInt32))] (.int (0 : Int32)) := V126
      show Gd p e below _ T126 (mkF m 269 #[.val (.int p0), .val (.int p1), .val (.int p2), .val (.int (1 : Int32)), .val (.int (1 : Int32)), .val (.int v91), .val (.int v92), .val (.int v93), .val (.int v94), .val (.ref b95), .val (.ref b97), .val (.ref b95), .val (.ref b108), .val (.int (8 : Int32)), .val (.ref b119), .val (.int (4 : Int32))] [(.ref t126)])
      refine g_aload X126 hx hby i0_269 rfl rfl ?_
      refine g_iload X126 hx hby i0_271 rfl ?_
      refine g_callS0 X126 hx hby hZ (y := (⟨"com/example/cloudgavel/cloudgavel/cli/ReportLinesPinLaw", "same", "(Ljava/lang/String;[CI)Z"⟩ : MethodName)) (argsL := [(.ref t126), (.ref b108), (.int (8 : Int32))]) (rest := []) hown (hw _ (List.mem_of_getElem? (i := 209) rfl)) (hw _ (List.mem_of_getElem? (i := 210) rfl)) (hw _ (List.mem_of_getElem? (i := 211) rfl)) (hw _ (List.mem_of_getElem? (i := 212) rfl)) (by decide) (rm39_8 l Z a0 hw [] t126 b108 (8 : Int32) cz sv tb126 kt126 (nar .byte v91.toInt8.toInt32) (nar .byte (61 : Int32).toInt8.toInt32) (nar .byte v92.toInt8.toInt32) (nar .byte (10 : Int32).toInt8.toInt32) (nar .byte v93.toInt8.toInt32) (nar .byte (61 : Int32).toInt8.toInt32) (nar .byte v94.toInt8.toInt32) (nar .byte (10 : Int32).toInt8.toInt32) k108 (nar .char v91) (nar .char (61 : Int32)) (nar .char v92) (nar .char (10 : Int32)) (nar .char v93) (nar .char (61 : Int32)) (nar .char v94) (nar .char (10 : Int32)) T126.heap n0 Z0 S0 hcz O hsv S1 E126 FV126 FC126 V126 V108 rfl (own_rt hv91) (by decide) (own_rt hv92) (by decide) (own_rt hv93) (by decide) (own_rt hv94) (by decide)) rfl (by rw [hml]; rfl) pd_30 rfl rfl i0_273 (by decide) 0 rfl (by decide) (by decide) (by decide) fun T127 v127 L127 X127 q127 => ?_
      obtain ⟨_, rfl, rfl, e127, N127⟩ := q127
      have N0 := Fr.app N0 N127
      show Gd p e below _ T127 (mkF m 276 #[.val (.int p0), .val (.int p1), .val (.int p2), .val (.int (1 : Int32)), .val (.int (1 : Int32)), .val (.int v91), .val (.int v92), .val (.int v93), .val (.int v94), .val (.ref b95), .val (.ref b97), .val (.ref b95), .val (.ref b108), .val (.int (8 : Int32)), .val (.ref b119), .val (.int (4 : Int32))] [(.int (1 : Int32))])
      refine g_if_eq X127 hx hby i0_276 (fun c276_128 => False.elim (absurd c276_128 (by decide))) fun c276_128 => ?_
      refine g_aload X127 hx hby i0_279 rfl rfl ?_
      refine g_callV0 X127 hx hby hZ (y0 := (⟨"com/example/cloudgavel/cloudgavel/cli/Report", "toString", "()Ljava/lang/String;"⟩ : MethodName)) (y := (⟨"com/example/cloudgavel/cloudgavel/cli/Report", "toString", "()Ljava/lang/String;"⟩ : MethodName)) (argsL := []) (rest := []) hown (hw _ (List.mem_of_getElem? (i := 170) rfl)) (hw _ (List.mem_of_getElem? (i := 171) rfl)) (notFace_of_selects (args := #[]) (mvT hZ (hw _ (List.mem_of_getElem? (i := 173) rfl)))) (hw _ (List.mem_of_getElem? (i := 173) rfl)) (hw _ (List.mem_of_getElem? (i := 172) rfl)) (hw _ (List.mem_of_getElem? (i := 2) rfl)) (hw _ (List.mem_of_getElem? (i := 174) rfl)) (by decide) (a := b97) A97 (rm30 l Z a0 hw [] b97 cz a98 b98 kb98 _ (4 : Int32) 4 T126.heap n0 Z0 S0 hcz O FL98 E98 FV106 FC106 FN106 V106 (by decide) (by decide) (by decide) (by decide)) e127 (by rw [hml]; rfl) pd_25 rfl rfl i0_281 (by decide) 0 rfl (by decide) (by decide) (by decide) fun T129 v129 L129 X129 q129 => ?_
      obtain ⟨_, rfl, K129, t129, tb129, kt129, rfl, g_t129, st129, E129, FV129, FC129, V129, g_tb129, stb129, ne_t129_tb129, N129⟩ := q129
      have N0 := Fr.app N0 N129
      have ne_b95_t129 : b95 ≠ t129 := Nat.ne_of_lt (Nat.lt_of_lt_of_le A95.lt st129)
      have ne_a96_t129 : a96 ≠ t129 := Nat.ne_of_lt (Nat.lt_of_lt_of_le E96.lt st129)
      have ne_b97_t129 : b97 ≠ t129 := Nat.ne_of_lt (Nat.lt_of_lt_of_le A97.lt st129)
      have ne_a98_t129 : a98 ≠ t129 := Nat.ne_of_lt (Nat.lt_of_lt_of_le E98.lt st129)
      have ne_a100_t129 : a100 ≠ t129 := Nat.ne_of_lt (Nat.lt_of_lt_of_le E100.lt st129)
      have ne_b100_t129 : b100 ≠ t129 := Nat.ne_of_lt (Nat.lt_of_lt_of_le V100.lt st129)
      have ne_a101_t129 : a101 ≠ t129 := Nat.ne_of_lt (Nat.lt_of_lt_of_le E101.lt st129)
      have ne_b101_t129 : b101 ≠ t129 := Nat.ne_of_lt (Nat.lt_of_lt_of_le V101.lt st129)
      have ne_a104_t129 : a104 ≠ t129 := Nat.ne_of_lt (Nat.lt_of_lt_of_le E104.lt st129)
      have ne_b104_t129 : b104 ≠ t129 := Nat.ne_of_lt (Nat.lt_of_lt_of_le V104.lt st129)
      have ne_a105_t129 : a105 ≠ t129 := Nat.ne_of_lt (Nat.lt_of_lt_of_le E105.lt st129)
      have ne_b105_t129 : b105 ≠ t129 := Nat.ne_of_lt (Nat.lt_of_lt_of_le V105.lt st129)
      have ne_b98_t129 : b98 ≠ t129 := Nat.ne_of_lt (Nat.lt_of_lt_of_le V106.lt st129)
      have ne_b96_t129 : b96 ≠ t129 := Nat.ne_of_lt (Nat.lt_of_lt_of_le V107.lt st129)
      have ne_b108_t129 : b108 ≠ t129 := Nat.ne_of_lt (Nat.lt_of_lt_of_le V108.lt st129)
      have ne_b119_t129 : b119 ≠ t129 := Nat.ne_of_lt (Nat.lt_of_lt_of_le V119.lt st129)
      have ne_t126_t129 : t126 ≠ t129 := Nat.ne_of_lt (Nat.lt_of_lt_of_le E126.lt st129)
      have ne_tb126_t129 : tb126 ≠ t129 := Nat.ne_of_lt (Nat.lt_of_lt_of_le V126.lt st129)
      have ne_b95_tb129 : b95 ≠ tb129 := Nat.ne_of_lt (Nat.lt_of_lt_of_le A95.lt stb129)
      have ne_a96_tb129 : a96 ≠ tb129 := Nat.ne_of_lt (Nat.lt_of_lt_of_le E96.lt stb129)
      have ne_b97_tb129 : b97 ≠ tb129 := Nat.ne_of_lt (Nat.lt_of_lt_of_le A97.lt stb129)
      have ne_a98_tb129 : a98 ≠ tb129 := Nat.ne_of_lt (Nat.lt_of_lt_of_le E98.lt stb129)
      have ne_a100_tb129 : a100 ≠ tb129 := Nat.ne_of_lt (Nat.lt_of_lt_of_le E100.lt stb129)
      have ne_b100_tb129 : b100 ≠ tb129 := Nat.ne_of_lt (Nat.lt_of_lt_of_le V100.lt stb129)
      have ne_a101_tb129 : a101 ≠ tb129 := Nat.ne_of_lt (Nat.lt_of_lt_of_le E101.lt stb129)
      have ne_b101_tb129 : b101 ≠ tb129 := Nat.ne_of_lt (Nat.lt_of_lt_of_le V101.lt stb129)
      have ne_a104_tb129 : a104 ≠ tb129 := Nat.ne_of_lt (Nat.lt_of_lt_of_le E104.lt stb129)
      have ne_b104_tb129 : b104 ≠ tb129 := Nat.ne_of_lt (Nat.lt_of_lt_of_le V104.lt stb129)
      have ne_a105_tb129 : a105 ≠ tb129 := Nat.ne_of_lt (Nat.lt_of_lt_of_le E105.lt stb129)
      have ne_b105_tb129 : b105 ≠ tb129 := Nat.ne_of_lt (Nat.lt_of_lt_of_le V105.lt stb129)
      have ne_b98_tb129 : b98 ≠ tb129 := Nat.ne_of_lt (Nat.lt_of_lt_of_le V106.lt stb129)
      have ne_b96_tb129 : b96 ≠ tb129 := Nat.ne_of_lt (Nat.lt_of_lt_of_le V107.lt stb129)
      have ne_b108_tb129 : b108 ≠ tb129 := Nat.ne_of_lt (Nat.lt_of_lt_of_le V108.lt stb129)
      have ne_b119_tb129 : b119 ≠ tb129 := Nat.ne_of_lt (Nat.lt_of_lt_of_le V119.lt stb129)
      have ne_t126_tb129 : t126 ≠ tb129 := Nat.ne_of_lt (Nat.lt_of_lt_of_le E126.lt stb129)
      have ne_tb126_tb129 : tb126 ≠ tb129 := Nat.ne_of_lt (Nat.lt_of_lt_of_le V126.lt stb129)
      have A95 := A95.keep K129
      have FL96 := FL96.keep K129 nin0
      have E96 := E96.keep K129
      have A97 := A97.keep K129
      have FL98 := FL98.keep K129 nin0
      have E98 := E98.keep K129
      have E100 := E100.keep K129
      have FV100 := FV100.keep K129 nin0
      have FC100 := FC100.keep K129 nin0
      have V100 := V100.keep K129 nin0
      have E101 := E101.keep K129
      have FV101 := FV101.keep K129 nin0
      have FC101 := FC101.keep K129 nin0
      have V101 := V101.keep K129 nin0
      have E104 := E104.keep K129
      have FV104 := FV104.keep K129 nin0
      have FC104 := FC104.keep K129 nin0
      have V104 := V104.keep K129 nin0
      have E105 := E105.keep K129
      have FV105 := FV105.keep K129 nin0
      have FC105 := FC105.keep K129 nin0
      have V105 := V105.keep K129 nin0
      have FV106 := FV106.keep K129 nin0
      have FC106 := FC106.keep K129 nin0
      have FN106 := FN106.keep K129 nin0
      have FM106 := FM106.keep K129 nin0
      have V106 := V106.keep K129 nin0
      have FV107 := FV107.keep K129 nin0
      have FC107 := FC107.keep K129 nin0
      have FN107 := FN107.keep K129 nin0
      have FM107 := FM107.keep K129 nin0
      have V107 := V107.keep K129 nin0
      have V108 := V108.keep K129 nin0
      have V119 := V119.keep K129 nin0
      have E126 := E126.keep K129
      have FV126 := FV126.keep K129 nin0
      have FC126 := FC126.keep K129 nin0
      have V126 := V126.keep K129 nin0
      have O := O.keep K129 all0
      have Z0 : n0 ≤ T129.heap.size := Nat.le_trans Z0 K129.1
      have V129 : Arv Z T129.heap tb129 kt129 .byte (4 : Int32) [(.int (nar .byte v93.toInt8.toInt32)), (.int (nar .byte (61 : Int32).toInt8.toInt32)), (.int (nar .byte v94.toInt8.toInt32)), (.int (nar .byte (10 : Int32).toInt8.toInt32))] (.int (0 : Int32)) := V129
      show Gd p e below _ T129 (mkF m 284 #[.val (.int p0), .val (.int p1), .val (.int p2), .val (.int (1 : Int32)), .val (.int (1 : Int32)), .val (.int v91), .val (.int v92), .val (.int v93), .val (.int v94), .val (.ref b95), .val (.ref b97), .val (.ref b95), .val (.ref b108), .val (.int (8 : Int32)), .val (.ref b119), .val (.int (4 : Int32))] [(.ref t129)])
      refine g_aload X129 hx hby i0_284 rfl rfl ?_
      refine g_iload X129 hx hby i0_286 rfl ?_
      refine g_callS0 X129 hx hby hZ (y := (⟨"com/example/cloudgavel/cloudgavel/cli/ReportLinesPinLaw", "same", "(Ljava/lang/String;[CI)Z"⟩ : MethodName)) (argsL := [(.ref t129), (.ref b119), (.int (4 : Int32))]) (rest := []) hown (hw _ (List.mem_of_getElem? (i := 209) rfl)) (hw _ (List.mem_of_getElem? (i := 210) rfl)) (hw _ (List.mem_of_getElem? (i := 211) rfl)) (hw _ (List.mem_of_getElem? (i := 212) rfl)) (by decide) (rm39_4 l Z a0 hw [] t129 b119 (4 : Int32) cz sv tb129 kt129 (nar .byte v93.toInt8.toInt32) (nar .byte (61 : Int32).toInt8.toInt32) (nar .byte v94.toInt8.toInt32) (nar .byte (10 : Int32).toInt8.toInt32) k119 (nar .char v93) (nar .char (61 : Int32)) (nar .char v94) (nar .char (10 : Int32)) (0 : Int32) (0 : Int32) (0 : Int32) (0 : Int32) T129.heap n0 Z0 S0 hcz O hsv S1 E129 FV129 FC129 V129 V119 rfl (own_rt hv93) (by decide) (own_rt hv94) (by decide)) rfl (by rw [hml]; rfl) pd_30 rfl rfl i0_288 (by decide) 0 rfl (by decide) (by decide) (by decide) fun T130 v130 L130 X130 q130 => ?_
      obtain ⟨_, rfl, rfl, e130, N130⟩ := q130
      have N0 := Fr.app N0 N130
      show Gd p e below _ T130 (mkF m 291 #[.val (.int p0), .val (.int p1), .val (.int p2), .val (.int (1 : Int32)), .val (.int (1 : Int32)), .val (.int v91), .val (.int v92), .val (.int v93), .val (.int v94), .val (.ref b95), .val (.ref b97), .val (.ref b95), .val (.ref b108), .val (.int (8 : Int32)), .val (.ref b119), .val (.int (4 : Int32))] [(.int (1 : Int32))])
      refine g_if_eq X130 hx hby i0_291 (fun c291_131 => False.elim (absurd c291_131 (by decide))) fun c291_131 => ?_
      refine g_iconst X130 hx hby i0_294 (z := (1 : Int32)) (by decide) ?_
      refine g_goto X130 hx hby i0_295 ?_
      refine g_ireturnN X130 hx hby (ty := .boolean) hret (by simp) hlk i0_299 (by decide) (by decide) ?_
      exact ⟨_, rfl, rfl, N0⟩
set_option maxRecDepth 65536 in
set_option maxHeartbeats 40000000 in
theorem comes_1 {Post : Tables → Env → Array Value → State → Outcome → State → Prop} (hpost : ∀ tb e args s v u, (limb_1_1.after args s (.returned v) u = true ∧ limb_1_2.after args s (.returned v) u = true ∧ True) → FrameEnd s (.returned v) u (Jvm.fieldLocs frame_1_writes args s ++ Jvm.arrayLocs frame_1_arrays args s ++ Jvm.staticLocs frame_1_statics s) 48 320 → Post tb e args s (.returned v) u) :
    ArmFor flags0 classFile x code maxLocals ret World_1 tables_1 room_1 Calls_1 rest_1 Pre_1 Post := by
  intro l hfl _ _ p e ha hc hk s m args below hf hA hF happ hP
  obtain ⟨hcalls, hrest, hpre⟩ := hP
  obtain ⟨-, -, -, hnamed, -, -, -, hat⟩ := (Spec.applies_iff hf).mp happ
  obtain ⟨hg, hn⟩ := and_e (Cond.before_iff.mp (show (Jvm.Cond.and given_1 narrow_1).before args s = true from hpre))
  obtain ⟨hcount, g0⟩ := and_e hg
  obtain ⟨a0, g1⟩ := and_e g0
  obtain ⟨a1, g2⟩ := and_e g1
  obtain ⟨w0, w1, w2, rfl⟩ : ∃ w0 w1 w2 : Value, args = #[w0, w1, w2] := by
    have hs : args.size = 3 := by simpa [Cond.value, given_1] using hcount
    obtain ⟨L⟩ := args
    match L, hs with
    | [w0, w1, w2], _ => exact ⟨w0, w1, w2, rfl⟩
  have hw := fun d (hd : d ∈ tables_1) => atoms_spec (ws := Jvm.Cond.code x code maxLocals ret :: tables_1) hat d (List.mem_cons_of_mem _ hd)
  have hfit : Fit s := fun {y c} hc i hi => by
    obtain ⟨ha, rfl⟩ := Array.getElem?_eq_some_iff.mp hc
    have q := List.all_eq_true.mp ((Array.all_eq_true_iff_forall_mem.mp hF) _ (Array.getElem_mem ha)) i (List.mem_range.mpr hi)
    simpa [Array.getElem?_eq_getElem hi] using q
  obtain ⟨hsets, hown0⟩ := atoms_of _ (rest_1_c_eq ▸ (show rest_1_c.before _ s = true from hrest))
  have hr0 := Cond.before_iff.mp hown0
  obtain ⟨i0, ei0⟩ := is_v a0
  obtain rfl : w0 = (.int i0) := Option.some.inj ei0
  obtain ⟨i1, ei1⟩ := is_v a1
  obtain rfl : w1 = (.int i1) := Option.some.inj ei1
  obtain ⟨i2, ei2⟩ := is_v g2
  obtain rfl : w2 = (.int i2) := Option.some.inj ei2
  have hs0 := hsets _ (List.mem_of_getElem? (i := 0) rfl)
  obtain ⟨cz, ecz⟩ := is_v (Cond.before_iff.mp (hsets _ (List.mem_of_getElem? (i := 1) rfl)))
  have hcz : ¬ cz = (0 : Int32) := fun q => by have z1 := not_v (Cond.before_iff.mp (hsets _ (List.mem_of_getElem? (i := 2) rfl))); rw [eq_i ecz (Term.int_eval 0) (congrArg Value.int q)] at z1; cases z1
  obtain ⟨sv, esv, hsv⟩ := isR_v (Cond.before_iff.mp (hsets _ (List.mem_of_getElem? (i := 8) rfl)))
  have hs7 := hsets _ (List.mem_of_getElem? (i := 7) rfl)
  obtain ⟨n, o, h1, h2, h3, _, L, rfl, ⟨_, rfl, rfl, N⟩, hq⟩ := rm0 l s _ hw tables_1 i0 i1 i2 cz sv s.heap s.heap.size (Nat.le_refl _) (Sta.start ecz (Or.inl hs0)) hcz (Old.start s) hsv (Sta.start esv (Or.inl hs7)) p e ha hc hk s m _ below hf ((Spec.applies_iff_loose hf).mp happ).1 ⟨rfl, State.Warmed39.refl s, rfl⟩ trivial
  refine ⟨n, _, h1, h2, h3, hpost _ _ _ _ _ _ ⟨Cond.after_iff.mpr rfl, Cond.after_iff.mpr (eq_i res_at (Term.int_eval (1)) rfl), trivial⟩ ⟨hq.1, hq.2.1, (hq.2.2.sift fun y hy => Or.inr (N y hy)).mono (by decide) (by decide)⟩⟩
theorem main_1_1 : Claimed_1_1 := comes_1 fun _ _ _ _ _ _ h hF => ⟨h.1, hF⟩
theorem main_1_2 : Claimed_1_2 := comes_1 fun _ _ _ _ _ _ h hF => ⟨h.2.1, hF⟩
end Jvm.Pilot.@@N@@
namespace Jvm.Pilot.@@N@@
open Jvm Jvm.ClassFile Sem Op Lib Jvm.Free Jvm.Stand Jvm.Pilot.@@N@@.Jvm.D
/-! MADE BY PROGRAM (witnessworld.py) out of the Statement's table words and the real class files: 25 classes; the members and pool entries that the words name. The judged class is class 1, her method 1. -/
namespace start1
open Jvm.ClassFile
def u (s : String) : CpInfo := .utf8 (stringToUtf16 s)
/-- a pool by its gaps: so many unusable entries, then the entry; so many at the end -/
def gap : Nat → List CpInfo → List CpInfo
  | 0, r => r
  | n + 1, r => .unusable :: gap n r
def poolList (es : List (Nat × CpInfo)) (last : Nat) : List CpInfo := es.foldr (fun e r => gap e.1 (e.2 :: r)) (gap last [])
def pool (es : List (Nat × CpInfo)) (last : Nat) : Array CpInfo := ⟨poolList es last⟩
def fileOf (pool : Array CpInfo) (this : Nat) (attrs : Array Attribute := #[]) (ms : Array MethodInfo := #[]) (fl : Nat := 33) (sup : Nat := 0) (ifs : Array Nat := #[]) (fds : Array FieldInfo := #[]) : ClassFile where
  minorVersion := 0
  majorVersion := 65
  constantPool := pool
  accessFlags := fl
  thisClass := this
  superClass := sup
  interfaces := ifs
  fields := fds
  methods := ms
  attributes := attrs
def plain (name : String) (sup : Option ClassId) : Class where
  name := name
  kind := .ordinary
  loader := none
  accessFlags := 33
  super := sup
  interfaces := #[]
  cf := none
  fields := #[]
  methods := #[]
  instanceTypes := #[]
  staticTypes := #[]
  resolved := #[]
  callSites := []
  init := .initialized
  statics := none
  mirror := none

def pool0 : Array CpInfo := pool [(5, u "<init>"), (0, u "()V"), (1, .class_ 10), (1, u "java/lang/Object")] 113

def k0c0 : Code := { maxStack := 0, maxLocals := 1, code := object_method_1_code, exceptionTable := #[], attributes := #[] }
def k0m0 : Method := { name := "<init>", desc := "()V", sig := { parameters := [], returnType := none }, accessFlags := 1, code := some k0c0 }
/-- java/lang/Object -/
def k0 : Class := { plain "java/lang/Object" none with
  accessFlags := 33
  interfaces := #[]
  cf := some (fileOf pool0 8 #[] #[{ accessFlags := 1, nameIndex := 5, descriptorIndex := 6, attributes := #[] }] 33 0 #[] #[])
  fields := #[]
  methods := #[k0m0]
  instanceTypes := #[]
  staticTypes := #[]
  resolved := Array.replicate 124 none
  statics := none }

def pool1 : Array CpInfo := pool [(2, .class_ 4), (0, .nameAndType 5 6), (0, u "java/lang/Object"), (0, u "<init>"), (0, u "()V"), (0, .class_ 8), (0, u "com/example/cloudgavel/cloudgavel/cli/Report"), (0, .methodref 7 3), (0, .methodref 11 12), (0, .class_ 13), (0, .nameAndType 14 15), (0, u "java/lang/String"), (0, u "valueOf"), (0, u "(C)Ljava/lang/String;"), (0, .methodref 7 17), (0, .nameAndType 18 19), (0, u "text"), (0, u "(Ljava/lang/String;Ljava/lang/String;)Lcom/example/cloudgavel/cloudgavel/cli/Report;"), (0, .methodref 7 21), (0, .nameAndType 22 23), (0, u "lines"), (0, u "(Lcom/example/cloudgavel/cloudgavel/cli/Report;)Lcom/example/cloudgavel/cloudgavel/cli/Report;"), (0, .methodref 7 25), (0, .nameAndType 26 27), (0, u "toString"), (0, u "()Ljava/lang/String;"), (0, .methodref 29 30), (0, .class_ 31), (0, .nameAndType 32 33), (0, u "com/example/cloudgavel/cloudgavel/cli/ReportLinesPinLaw"), (0, u "same"), (0, u "(Ljava/lang/String;[CI)Z"), (0, .methodref 11 35), (0, .nameAndType 36 37), (0, u "length"), (0, u "()I"), (0, .methodref 11 39), (0, .nameAndType 40 41), (0, u "charAt"), (0, u "(I)C"), (2, u "law"), (0, u "(III)Z")] 5

def k1m0 : Method := { name := "<init>", desc := "()V", sig := { parameters := [], returnType := none }, accessFlags := 1, code := none }
def k1c1 : Code := { maxStack := 3, maxLocals := 16, code := code, exceptionTable := #[], attributes := #[] }
def k1m1 : Method := { name := "law", desc := "(III)Z", sig := { parameters := [.int, .int, .int], returnType := some .boolean }, accessFlags := 9, code := some k1c1 }
def k1c2 : Code := { maxStack := 3, maxLocals := 4, code := method_3_code, exceptionTable := #[], attributes := #[] }
def k1m2 : Method := { name := "same", desc := "(Ljava/lang/String;[CI)Z", sig := { parameters := [(.object "java/lang/String"), (.array .char), .int], returnType := some .boolean }, accessFlags := 10, code := some k1c2 }
/-- com/example/cloudgavel/cloudgavel/cli/ReportLinesPinLaw -/
def k1 : Class := { plain "com/example/cloudgavel/cloudgavel/cli/ReportLinesPinLaw" (some 0) with
  accessFlags := 49
  interfaces := #[]
  cf := some (fileOf pool1 29 #[] #[{ accessFlags := 1, nameIndex := 5, descriptorIndex := 6, attributes := #[] }, { accessFlags := 9, nameIndex := 44, descriptorIndex := 45, attributes := #[] }, { accessFlags := 10, nameIndex := 32, descriptorIndex := 33, attributes := #[] }] 49 2 #[] #[])
  fields := #[]
  methods := #[k1m0, k1m1, k1m2]
  instanceTypes := #[]
  staticTypes := #[]
  resolved := Array.replicate 51 none
  statics := none }

def pool2 : Array CpInfo := pool [(1, .methodref 2 3), (0, .class_ 4), (0, .nameAndType 5 6), (0, u "java/lang/Object"), (0, u "<init>"), (0, u "()V"), (0, .class_ 8), (0, u "java/lang/StringBuilder"), (0, .methodref 7 3), (0, .fieldref 11 12), (0, .class_ 13), (0, .nameAndType 14 15), (0, u "com/example/cloudgavel/cloudgavel/cli/Report"), (0, u "lines"), (0, u "Ljava/lang/StringBuilder;"), (0, .methodref 7 17), (0, .nameAndType 18 19), (0, u "append"), (0, u "(Ljava/lang/String;)Ljava/lang/StringBuilder;"), (0, .methodref 7 21), (0, .nameAndType 18 22), (0, u "(C)Ljava/lang/StringBuilder;"), (4, u "toString"), (3, u "text"), (0, u "(Ljava/lang/String;Ljava/lang/String;)Lcom/example/cloudgavel/cloudgavel/cli/Report;"), (27, .methodref 7 61), (0, .nameAndType 18 62), (0, u "(Ljava/lang/CharSequence;)Ljava/lang/StringBuilder;"), (0, .methodref 7 64), (0, .nameAndType 27 65), (0, u "()Ljava/lang/String;"), (11, u "(Lcom/example/cloudgavel/cloudgavel/cli/Report;)Lcom/example/cloudgavel/cloudgavel/cli/Report;")] 19

def k2c0 : Code := { maxStack := 3, maxLocals := 1, code := prog_5_method_1_code, exceptionTable := #[], attributes := #[] }
def k2m0 : Method := { name := "<init>", desc := "()V", sig := { parameters := [], returnType := none }, accessFlags := 0, code := some k2c0 }
def k2c1 : Code := { maxStack := 2, maxLocals := 3, code := prog_5_method_2_code, exceptionTable := #[], attributes := #[] }
def k2m1 : Method := { name := "text", desc := "(Ljava/lang/String;Ljava/lang/String;)Lcom/example/cloudgavel/cloudgavel/cli/Report;", sig := { parameters := [(.object "java/lang/String"), (.object "java/lang/String")], returnType := some (.object "com/example/cloudgavel/cloudgavel/cli/Report") }, accessFlags := 0, code := some k2c1 }
def k2c2 : Code := { maxStack := 2, maxLocals := 2, code := prog_5_method_7_code, exceptionTable := #[], attributes := #[] }
def k2m2 : Method := { name := "lines", desc := "(Lcom/example/cloudgavel/cloudgavel/cli/Report;)Lcom/example/cloudgavel/cloudgavel/cli/Report;", sig := { parameters := [(.object "com/example/cloudgavel/cloudgavel/cli/Report")], returnType := some (.object "com/example/cloudgavel/cloudgavel/cli/Report") }, accessFlags := 0, code := some k2c2 }
def k2c3 : Code := { maxStack := 1, maxLocals := 1, code := prog_5_method_8_code, exceptionTable := #[], attributes := #[] }
def k2m3 : Method := { name := "toString", desc := "()Ljava/lang/String;", sig := { parameters := [], returnType := some (.object "java/lang/String") }, accessFlags := 1, code := some k2c3 }
/-- com/example/cloudgavel/cloudgavel/cli/Report -/
def k2 : Class := { plain "com/example/cloudgavel/cloudgavel/cli/Report" (some 0) with
  accessFlags := 48
  interfaces := #[]
  cf := some (fileOf pool2 11 #[] #[{ accessFlags := 0, nameIndex := 5, descriptorIndex := 6, attributes := #[] }, { accessFlags := 0, nameIndex := 31, descriptorIndex := 32, attributes := #[] }, { accessFlags := 0, nameIndex := 14, descriptorIndex := 77, attributes := #[] }, { accessFlags := 1, nameIndex := 27, descriptorIndex := 65, attributes := #[] }] 48 2 #[] #[{ accessFlags := 18, nameIndex := 14, descriptorIndex := 15, attributes := #[] }])
  fields := #[{ name := "lines", type := (.object "java/lang/StringBuilder"), accessFlags := 18, slot := 0, constantValue := 0 }]
  methods := #[k2m0, k2m1, k2m2, k2m3]
  instanceTypes := #[(.object "java/lang/StringBuilder")]
  staticTypes := #[]
  resolved := Array.replicate 97 none
  statics := none }

def pool3 : Array CpInfo := pool [(1, .class_ 2), (0, u "java/lang/Appendable"), (0, .class_ 4), (0, u "java/lang/Object")] 9

/-- java/lang/Appendable -/
def k3 : Class := { plain "java/lang/Appendable" (some 0) with
  accessFlags := 1537
  interfaces := #[]
  cf := some (fileOf pool3 1 #[] #[] 1537 3 #[] #[])
  fields := #[]
  methods := #[]
  instanceTypes := #[]
  staticTypes := #[]
  resolved := Array.replicate 14 none
  statics := none }

def pool4 : Array CpInfo := pool [(2, .class_ 4), (1, u "java/lang/CharSequence"), (42, .class_ 48), (0, u "java/lang/CharSequence$1CodePointIterator"), (10, .class_ 60), (0, u "java/lang/CharSequence$1CharIterator"), (5, .class_ 67), (0, u "java/lang/Object")] 63

/-- java/lang/CharSequence -/
def k4 : Class := { plain "java/lang/CharSequence" (some 0) with
  accessFlags := 1537
  interfaces := #[]
  cf := some (fileOf pool4 2 #[.nestMembers #[47, 59]] #[] 1537 66 #[] #[])
  fields := #[]
  methods := #[]
  instanceTypes := #[]
  staticTypes := #[]
  resolved := Array.replicate 131 none
  statics := none }

def pool5 : Array CpInfo := pool [(1, .class_ 2), (0, u "java/lang/String"), (0, .methodref 4 5), (0, .class_ 6), (0, .nameAndType 7 8), (0, u "java/lang/Object"), (0, u "<init>"), (0, u "()V"), (1, .class_ 12), (1, u "java/lang/AbstractStringBuilder"), (0, u "EMPTYVALUE"), (0, u "[B"), (0, .fieldref 10 16), (0, .nameAndType 17 14), (0, u "value"), (0, .fieldref 1 19), (0, .nameAndType 20 21), (0, u "COMPACT_STRINGS"), (0, u "Z"), (0, .fieldref 10 23), (0, .nameAndType 24 25), (0, u "coder"), (0, u "B"), (6, .methodref 1 33), (0, .nameAndType 34 35), (0, u "length"), (0, u "()I"), (4, .methodref 1 41), (0, .nameAndType 24 42), (0, u "()B"), (2, u "append"), (0, u "(Ljava/lang/String;)Ljava/lang/AbstractStringBuilder;"), (1, .class_ 49), (0, u "java/lang/CharSequence"), (19, u "(Ljava/lang/String;)V"), (0, .methodref 10 71), (0, .nameAndType 72 42), (0, u "getCoder"), (0, .fieldref 10 74), (0, .nameAndType 75 21), (0, u "maybeLatin1"), (2, u "(Ljava/lang/CharSequence;)Ljava/lang/AbstractStringBuilder;"), (0, .fieldref 10 80), (0, .nameAndType 81 82), (0, u "count"), (0, u "I"), (0, .methodref 10 84), (0, .nameAndType 85 86), (0, u "isLatin1"), (0, u "()Z"), (1, .class_ 90), (1, u "java/lang/StringLatin1"), (9, .methodref 10 101), (0, .nameAndType 102 103), (0, u "ensureCapacityInternal"), (0, u "(I)V"), (56, .methodref 10 33), (30, .methodref 88 192), (0, .nameAndType 193 194), (0, u "canEncode"), (0, u "(C)Z"), (13, .methodref 10 209), (0, .nameAndType 210 211), (0, u "putStringAt"), (0, u "(ILjava/lang/String;)V"), (0, .methodref 10 213), (0, .nameAndType 45 214), (0, u "(Ljava/lang/AbstractStringBuilder;)Ljava/lang/AbstractStringBuilder;"), (0, .methodref 10 216), (0, .nameAndType 217 218), (0, u "inflateIfNeededFor"), (0, u "(Ljava/lang/AbstractStringBuilder;)V"), (0, .methodref 10 220), (0, .nameAndType 221 222), (0, u "getBytes"), (0, u "([BIB)V"), (69, u "(C)Ljava/lang/AbstractStringBuilder;"), (16, .methodref 310 311), (0, .class_ 312), (0, .nameAndType 313 314), (0, u "java/lang/System"), (0, u "arraycopy"), (0, u "(Ljava/lang/Object;ILjava/lang/Object;II)V"), (82, .methodref 10 398), (0, .nameAndType 217 69), (0, .methodref 1 220), (3, u "()[B"), (40, .class_ 445), (0, u "java/lang/Appendable"), (106, u "getValue")] 56

def k5m0 : Method := { name := "<init>", desc := "()V", sig := { parameters := [], returnType := none }, accessFlags := 0, code := none }
def k5c1 : Code := { maxStack := 2, maxLocals := 2, code := jdk_68_method_2_code, exceptionTable := #[], attributes := #[] }
def k5m1 : Method := { name := "<init>", desc := "(I)V", sig := { parameters := [.int], returnType := none }, accessFlags := 0, code := some k5c1 }
def k5c2 : Code := { maxStack := 1, maxLocals := 1, code := jdk_68_method_6_code, exceptionTable := #[], attributes := #[] }
def k5m2 : Method := { name := "length", desc := "()I", sig := { parameters := [], returnType := some .int }, accessFlags := 1, code := some k5c2 }
def k5c3 : Code := { maxStack := 4, maxLocals := 3, code := jdk_68_method_9_code, exceptionTable := #[], attributes := #[] }
def k5m3 : Method := { name := "ensureCapacityInternal", desc := "(I)V", sig := { parameters := [.int], returnType := none }, accessFlags := 2, code := some k5c3 }
def k5c4 : Code := { maxStack := 3, maxLocals := 3, code := jdk_68_method_22_code, exceptionTable := #[], attributes := #[] }
def k5m4 : Method := { name := "append", desc := "(Ljava/lang/String;)Ljava/lang/AbstractStringBuilder;", sig := { parameters := [(.object "java/lang/String")], returnType := some (.object "java/lang/AbstractStringBuilder") }, accessFlags := 1, code := some k5c4 }
def k5c5 : Code := { maxStack := 4, maxLocals := 3, code := jdk_68_method_24_code, exceptionTable := #[], attributes := #[] }
def k5m5 : Method := { name := "append", desc := "(Ljava/lang/AbstractStringBuilder;)Ljava/lang/AbstractStringBuilder;", sig := { parameters := [(.object "java/lang/AbstractStringBuilder")], returnType := some (.object "java/lang/AbstractStringBuilder") }, accessFlags := 0, code := some k5c5 }
def k5c6 : Code := { maxStack := 4, maxLocals := 2, code := jdk_68_method_25_code, exceptionTable := #[], attributes := #[] }
def k5m6 : Method := { name := "append", desc := "(Ljava/lang/CharSequence;)Ljava/lang/AbstractStringBuilder;", sig := { parameters := [(.object "java/lang/CharSequence")], returnType := some (.object "java/lang/AbstractStringBuilder") }, accessFlags := 1, code := some k5c6 }
def k5c7 : Code := { maxStack := 5, maxLocals := 2, code := jdk_68_method_31_code, exceptionTable := #[], attributes := #[] }
def k5m7 : Method := { name := "append", desc := "(C)Ljava/lang/AbstractStringBuilder;", sig := { parameters := [.char], returnType := some (.object "java/lang/AbstractStringBuilder") }, accessFlags := 1, code := some k5c7 }
def k5c8 : Code := { maxStack := 1, maxLocals := 1, code := jdk_68_method_64_code, exceptionTable := #[], attributes := #[] }
def k5m8 : Method := { name := "getValue", desc := "()[B", sig := { parameters := [], returnType := some (.array .byte) }, accessFlags := 16, code := some k5c8 }
def k5c9 : Code := { maxStack := 6, maxLocals := 4, code := jdk_68_method_65_code, exceptionTable := #[], attributes := #[] }
def k5m9 : Method := { name := "getBytes", desc := "([BIB)V", sig := { parameters := [(.array .byte), .int, .byte], returnType := none }, accessFlags := 0, code := some k5c9 }
def k5c10 : Code := { maxStack := 1, maxLocals := 1, code := jdk_68_method_67_code, exceptionTable := #[], attributes := #[] }
def k5m10 : Method := { name := "getCoder", desc := "()B", sig := { parameters := [], returnType := some .byte }, accessFlags := 16, code := some k5c10 }
def k5c11 : Code := { maxStack := 1, maxLocals := 1, code := jdk_68_method_68_code, exceptionTable := #[], attributes := #[] }
def k5m11 : Method := { name := "isLatin1", desc := "()Z", sig := { parameters := [], returnType := some .boolean }, accessFlags := 16, code := some k5c11 }
def k5c12 : Code := { maxStack := 2, maxLocals := 2, code := jdk_68_method_71_code, exceptionTable := #[], attributes := #[] }
def k5m12 : Method := { name := "inflateIfNeededFor", desc := "(Ljava/lang/String;)V", sig := { parameters := [(.object "java/lang/String")], returnType := none }, accessFlags := 2, code := some k5c12 }
def k5c13 : Code := { maxStack := 2, maxLocals := 2, code := jdk_68_method_72_code, exceptionTable := #[], attributes := #[] }
def k5m13 : Method := { name := "inflateIfNeededFor", desc := "(Ljava/lang/AbstractStringBuilder;)V", sig := { parameters := [(.object "java/lang/AbstractStringBuilder")], returnType := none }, accessFlags := 2, code := some k5c13 }
def k5c14 : Code := { maxStack := 4, maxLocals := 3, code := jdk_68_method_73_code, exceptionTable := #[], attributes := #[] }
def k5m14 : Method := { name := "putStringAt", desc := "(ILjava/lang/String;)V", sig := { parameters := [.int, (.object "java/lang/String")], returnType := none }, accessFlags := 2, code := some k5c14 }
/-- java/lang/AbstractStringBuilder -/
def k5 : Class := { plain "java/lang/AbstractStringBuilder" (some 0) with
  accessFlags := 1056
  interfaces := #[3, 4]
  cf := some (fileOf pool5 10 #[] #[{ accessFlags := 0, nameIndex := 7, descriptorIndex := 8, attributes := #[] }, { accessFlags := 0, nameIndex := 7, descriptorIndex := 103, attributes := #[] }, { accessFlags := 1, nameIndex := 34, descriptorIndex := 35, attributes := #[] }, { accessFlags := 2, nameIndex := 102, descriptorIndex := 103, attributes := #[] }, { accessFlags := 1, nameIndex := 45, descriptorIndex := 46, attributes := #[] }, { accessFlags := 0, nameIndex := 45, descriptorIndex := 214, attributes := #[] }, { accessFlags := 1, nameIndex := 45, descriptorIndex := 78, attributes := #[] }, { accessFlags := 1, nameIndex := 45, descriptorIndex := 292, attributes := #[] }, { accessFlags := 16, nameIndex := 552, descriptorIndex := 403, attributes := #[] }, { accessFlags := 0, nameIndex := 221, descriptorIndex := 222, attributes := #[] }, { accessFlags := 16, nameIndex := 72, descriptorIndex := 42, attributes := #[] }, { accessFlags := 16, nameIndex := 85, descriptorIndex := 86, attributes := #[] }, { accessFlags := 2, nameIndex := 217, descriptorIndex := 69, attributes := #[] }, { accessFlags := 2, nameIndex := 217, descriptorIndex := 218, attributes := #[] }, { accessFlags := 2, nameIndex := 210, descriptorIndex := 211, attributes := #[] }] 1056 4 #[444, 48] #[{ accessFlags := 0, nameIndex := 17, descriptorIndex := 14, attributes := #[] }, { accessFlags := 0, nameIndex := 24, descriptorIndex := 25, attributes := #[] }, { accessFlags := 0, nameIndex := 75, descriptorIndex := 21, attributes := #[] }, { accessFlags := 0, nameIndex := 81, descriptorIndex := 82, attributes := #[] }, { accessFlags := 26, nameIndex := 13, descriptorIndex := 14, attributes := #[] }])
  fields := #[{ name := "value", type := (.array .byte), accessFlags := 0, slot := 0, constantValue := 0 }, { name := "coder", type := .byte, accessFlags := 0, slot := 1, constantValue := 0 }, { name := "maybeLatin1", type := .boolean, accessFlags := 0, slot := 2, constantValue := 0 }, { name := "count", type := .int, accessFlags := 0, slot := 3, constantValue := 0 }, { name := "EMPTYVALUE", type := (.array .byte), accessFlags := 26, slot := 0, constantValue := 0 }]
  methods := #[k5m0, k5m1, k5m2, k5m3, k5m4, k5m5, k5m6, k5m7, k5m8, k5m9, k5m10, k5m11, k5m12, k5m13, k5m14]
  instanceTypes := #[(.array .byte), .byte, .boolean, .int]
  staticTypes := #[(.array .byte)]
  resolved := Array.replicate 609 none
  statics := none }

def pool6 : Array CpInfo := pool [(1, .class_ 2), (0, u "java/io/Serializable"), (0, .class_ 4), (0, u "java/lang/Object")] 2

/-- java/io/Serializable -/
def k6 : Class := { plain "java/io/Serializable" (some 0) with
  accessFlags := 1537
  interfaces := #[]
  cf := some (fileOf pool6 1 #[] #[] 1537 3 #[] #[])
  fields := #[]
  methods := #[]
  instanceTypes := #[]
  staticTypes := #[]
  resolved := Array.replicate 7 none
  statics := none }

def pool7 : Array CpInfo := pool [(1, .class_ 2), (0, u "java/lang/Comparable"), (0, .class_ 4), (0, u "java/lang/Object")] 7

/-- java/lang/Comparable -/
def k7 : Class := { plain "java/lang/Comparable" (some 0) with
  accessFlags := 1537
  interfaces := #[]
  cf := some (fileOf pool7 1 #[] #[] 1537 3 #[] #[])
  fields := #[]
  methods := #[]
  instanceTypes := #[]
  staticTypes := #[]
  resolved := Array.replicate 12 none
  statics := none }

def pool8 : Array CpInfo := pool [(1, .methodref 2 3), (0, .class_ 4), (0, .nameAndType 5 6), (0, u "java/lang/AbstractStringBuilder"), (0, u "<init>"), (0, u "(I)V"), (11, .class_ 20), (1, u "java/lang/String"), (3, .class_ 26), (1, u "java/lang/StringBuilder"), (0, u "append"), (0, u "(Ljava/lang/String;)Ljava/lang/StringBuilder;"), (0, .methodref 2 30), (0, .nameAndType 27 31), (0, u "(Ljava/lang/String;)Ljava/lang/AbstractStringBuilder;"), (3, .methodref 2 36), (0, .nameAndType 27 37), (0, u "(Ljava/lang/CharSequence;)Ljava/lang/AbstractStringBuilder;"), (12, .methodref 2 51), (0, .nameAndType 27 52), (0, u "(C)Ljava/lang/AbstractStringBuilder;"), (84, .methodref 18 138), (0, .nameAndType 5 139), (0, u "(Ljava/lang/StringBuilder;)V"), (5, u "()V"), (10, u "()I"), (129, u "(C)Ljava/lang/StringBuilder;"), (14, u "(Ljava/lang/CharSequence;)Ljava/lang/StringBuilder;"), (41, .methodref 2 344), (0, .nameAndType 345 156), (0, u "length"), (3, .class_ 350), (0, u "java/lang/Appendable"), (0, .class_ 352), (0, u "java/io/Serializable"), (0, .class_ 354), (0, u "java/lang/Comparable"), (0, .class_ 356), (0, u "java/lang/CharSequence"), (0, u "serialVersionUID"), (0, u "J"), (40, u "toString"), (0, u "()Ljava/lang/String;")] 21

def k8c0 : Code := { maxStack := 2, maxLocals := 1, code := jdk_67_method_1_code, exceptionTable := #[], attributes := #[] }
def k8m0 : Method := { name := "<init>", desc := "()V", sig := { parameters := [], returnType := none }, accessFlags := 1, code := some k8c0 }
def k8c1 : Code := { maxStack := 2, maxLocals := 2, code := jdk_67_method_7_code, exceptionTable := #[], attributes := #[] }
def k8m1 : Method := { name := "append", desc := "(Ljava/lang/String;)Ljava/lang/StringBuilder;", sig := { parameters := [(.object "java/lang/String")], returnType := some (.object "java/lang/StringBuilder") }, accessFlags := 1, code := some k8c1 }
def k8c2 : Code := { maxStack := 2, maxLocals := 2, code := jdk_67_method_9_code, exceptionTable := #[], attributes := #[] }
def k8m2 : Method := { name := "append", desc := "(Ljava/lang/CharSequence;)Ljava/lang/StringBuilder;", sig := { parameters := [(.object "java/lang/CharSequence")], returnType := some (.object "java/lang/StringBuilder") }, accessFlags := 1, code := some k8c2 }
def k8c3 : Code := { maxStack := 2, maxLocals := 2, code := jdk_67_method_14_code, exceptionTable := #[], attributes := #[] }
def k8m3 : Method := { name := "append", desc := "(C)Ljava/lang/StringBuilder;", sig := { parameters := [.char], returnType := some (.object "java/lang/StringBuilder") }, accessFlags := 1, code := some k8c3 }
def k8c4 : Code := { maxStack := 3, maxLocals := 1, code := jdk_67_method_42_code, exceptionTable := #[], attributes := #[] }
def k8m4 : Method := { name := "toString", desc := "()Ljava/lang/String;", sig := { parameters := [], returnType := some (.object "java/lang/String") }, accessFlags := 1, code := some k8c4 }
def k8c5 : Code := { maxStack := 1, maxLocals := 1, code := jdk_67_method_93_code, exceptionTable := #[], attributes := #[] }
def k8m5 : Method := { name := "length", desc := "()I", sig := { parameters := [], returnType := some .int }, accessFlags := 4161, code := some k8c5 }
/-- java/lang/StringBuilder -/
def k8 : Class := { plain "java/lang/StringBuilder" (some 5) with
  accessFlags := 49
  interfaces := #[3, 6, 7, 4]
  cf := some (fileOf pool8 24 #[] #[{ accessFlags := 1, nameIndex := 5, descriptorIndex := 145, attributes := #[] }, { accessFlags := 1, nameIndex := 27, descriptorIndex := 28, attributes := #[] }, { accessFlags := 1, nameIndex := 27, descriptorIndex := 301, attributes := #[] }, { accessFlags := 1, nameIndex := 27, descriptorIndex := 286, attributes := #[] }, { accessFlags := 1, nameIndex := 399, descriptorIndex := 400, attributes := #[] }, { accessFlags := 4161, nameIndex := 345, descriptorIndex := 156, attributes := #[] }] 49 2 #[349, 351, 353, 355] #[{ accessFlags := 24, nameIndex := 357, descriptorIndex := 358, attributes := #[] }])
  fields := #[{ name := "serialVersionUID", type := .long, accessFlags := 24, slot := 0, constantValue := 0 }]
  methods := #[k8m0, k8m1, k8m2, k8m3, k8m4, k8m5]
  instanceTypes := #[(.array .byte), .byte, .boolean, .int]
  staticTypes := #[.long]
  resolved := Array.replicate 422 none
  statics := none }

def pool9 : Array CpInfo := pool [(1, .class_ 2), (0, u "java/lang/constant/Constable"), (0, .class_ 4), (0, u "java/lang/Object")] 6

/-- java/lang/constant/Constable -/
def k9 : Class := { plain "java/lang/constant/Constable" (some 0) with
  accessFlags := 1537
  interfaces := #[]
  cf := some (fileOf pool9 1 #[] #[] 1537 3 #[] #[])
  fields := #[]
  methods := #[]
  instanceTypes := #[]
  staticTypes := #[]
  resolved := Array.replicate 11 none
  statics := none }

def pool10 : Array CpInfo := pool [(1, .class_ 2), (0, u "java/lang/constant/ConstantDesc"), (0, .class_ 4), (0, u "java/lang/Object")] 32

/-- java/lang/constant/ConstantDesc -/
def k10 : Class := { plain "java/lang/constant/ConstantDesc" (some 0) with
  accessFlags := 1537
  interfaces := #[]
  cf := some (fileOf pool10 1 #[] #[] 1537 3 #[] #[])
  fields := #[]
  methods := #[]
  instanceTypes := #[]
  staticTypes := #[]
  resolved := Array.replicate 37 none
  statics := none }

def pool11 : Array CpInfo := pool [(1, .methodref 2 3), (0, .class_ 4), (0, .nameAndType 5 6), (0, u "java/lang/Object"), (0, u "<init>"), (0, u "()V"), (2, .fieldref 10 11), (0, .class_ 12), (0, .nameAndType 13 14), (0, u "java/lang/String"), (0, u "value"), (0, u "[B"), (0, .fieldref 10 16), (0, .nameAndType 17 18), (0, u "coder"), (0, u "B"), (2, u "hash"), (0, u "I"), (2, u "hashIsZero"), (0, u "Z"), (11, .fieldref 10 39), (0, .nameAndType 40 26), (0, u "COMPACT_STRINGS"), (12, u "toBytes"), (0, .methodref 55 56), (0, .class_ 57), (0, .nameAndType 58 59), (0, u "java/util/Arrays"), (0, u "copyOfRange"), (0, u "([BII)[B"), (47, .class_ 109), (1, u "java/lang/StringLatin1"), (32, u "()Z"), (50, .class_ 195), (1, u "java/lang/System"), (13, .methodref 10 210), (0, .nameAndType 5 211), (0, u "([BB)V"), (0, .methodref 193 213), (0, .nameAndType 214 215), (0, u "arraycopy"), (0, u "(Ljava/lang/Object;ILjava/lang/Object;II)V"), (118, u "()I"), (0, .methodref 10 336), (0, .nameAndType 17 337), (0, u "()B"), (2, u "()[B"), (22, u "([BI)C"), (5, u "(C)Z"), (21, u "(II)V"), (35, u "(I)C"), (61, .methodref 10 490), (0, .nameAndType 5 491), (0, u "(Ljava/lang/AbstractStringBuilder;Ljava/lang/Void;)V"), (0, .methodref 10 493), (0, .nameAndType 494 142), (0, u "isLatin1"), (0, .methodref 107 496), (0, .nameAndType 497 363), (0, u "charAt"), (3, u "checkIndex"), (4, .nameAndType 507 334), (0, u "length"), (24, u "getBytes"), (16, .methodref 550 506), (0, .class_ 551), (0, u "java/lang/AbstractStringBuilder"), (0, .methodref 550 553), (0, .nameAndType 554 340), (0, u "getValue"), (20, .class_ 576), (0, u "java/lang/CharSequence"), (22, u "CASE_INSENSITIVE_ORDER"), (0, u "Ljava/util/Comparator;"), (181, u "valueOf"), (0, u "(C)Ljava/lang/String;"), (37, u "([BIB)V"), (193, .methodref 107 1016), (0, .nameAndType 1017 369), (0, u "canEncode"), (0, .methodref 107 1019), (0, .nameAndType 53 1020), (0, u "(C)[B"), (26, .methodref 550 493), (5, .fieldref 1054 1055), (0, .class_ 1056), (0, .nameAndType 1057 1058), (0, u "jdk/internal/util/Preconditions"), (0, u "SIOOBE_FORMATTER"), (0, u "Ljava/util/function/BiFunction;"), (0, .methodref 1054 1060), (0, .nameAndType 501 1061), (0, u "(IILjava/util/function/BiFunction;)I"), (39, u "serialPersistentFields"), (0, u "[Ljava/io/ObjectStreamField;"), (0, .class_ 1104), (0, u "java/lang/String$CaseInsensitiveComparator"), (1, .class_ 1107), (0, u "java/io/Serializable"), (0, .class_ 1109), (0, u "java/lang/Comparable"), (0, .class_ 1111), (0, u "java/lang/constant/Constable"), (0, .class_ 1113), (0, u "java/lang/constant/ConstantDesc"), (2, u "serialVersionUID"), (0, u "J"), (3, u "REPL"), (0, u "C"), (2, u "LATIN1"), (1, u "UTF16"), (105, u "(Ljava/lang/StringBuilder;)V")] 217

def k11m0 : Method := { name := "<init>", desc := "()V", sig := { parameters := [], returnType := none }, accessFlags := 1, code := none }
def k11c1 : Code := { maxStack := 3, maxLocals := 2, code := jdk_42_method_53_code, exceptionTable := #[], attributes := #[] }
def k11m1 : Method := { name := "<init>", desc := "(Ljava/lang/StringBuilder;)V", sig := { parameters := [(.object "java/lang/StringBuilder")], returnType := none }, accessFlags := 1, code := some k11c1 }
def k11c2 : Code := { maxStack := 2, maxLocals := 1, code := jdk_42_method_54_code, exceptionTable := #[], attributes := #[] }
def k11m2 : Method := { name := "length", desc := "()I", sig := { parameters := [], returnType := some .int }, accessFlags := 1, code := some k11c2 }
def k11c3 : Code := { maxStack := 2, maxLocals := 2, code := jdk_42_method_56_code, exceptionTable := #[], attributes := #[] }
def k11m3 : Method := { name := "charAt", desc := "(I)C", sig := { parameters := [.int], returnType := some .char }, accessFlags := 1, code := some k11c3 }
def k11c4 : Code := { maxStack := 4, maxLocals := 1, code := jdk_42_method_139_code, exceptionTable := #[], attributes := #[] }
def k11m4 : Method := { name := "valueOf", desc := "(C)Ljava/lang/String;", sig := { parameters := [.char], returnType := some (.object "java/lang/String") }, accessFlags := 9, code := some k11c4 }
def k11c5 : Code := { maxStack := 5, maxLocals := 4, code := jdk_42_method_147_code, exceptionTable := #[], attributes := #[] }
def k11m5 : Method := { name := "getBytes", desc := "([BIB)V", sig := { parameters := [(.array .byte), .int, .byte], returnType := none }, accessFlags := 0, code := some k11c5 }
def k11c6 : Code := { maxStack := 5, maxLocals := 5, code := jdk_42_method_150_code, exceptionTable := #[], attributes := #[] }
def k11m6 : Method := { name := "<init>", desc := "(Ljava/lang/AbstractStringBuilder;Ljava/lang/Void;)V", sig := { parameters := [(.object "java/lang/AbstractStringBuilder"), (.object "java/lang/Void")], returnType := none }, accessFlags := 0, code := some k11c6 }
def k11c7 : Code := { maxStack := 2, maxLocals := 3, code := jdk_42_method_151_code, exceptionTable := #[], attributes := #[] }
def k11m7 : Method := { name := "<init>", desc := "([BB)V", sig := { parameters := [(.array .byte), .byte], returnType := none }, accessFlags := 0, code := some k11c7 }
def k11c8 : Code := { maxStack := 1, maxLocals := 1, code := jdk_42_method_152_code, exceptionTable := #[], attributes := #[] }
def k11m8 : Method := { name := "coder", desc := "()B", sig := { parameters := [], returnType := some .byte }, accessFlags := 0, code := some k11c8 }
def k11c9 : Code := { maxStack := 1, maxLocals := 1, code := jdk_42_method_154_code, exceptionTable := #[], attributes := #[] }
def k11m9 : Method := { name := "isLatin1", desc := "()Z", sig := { parameters := [], returnType := some .boolean }, accessFlags := 0, code := some k11c9 }
def k11c10 : Code := { maxStack := 3, maxLocals := 2, code := jdk_42_method_155_code, exceptionTable := #[], attributes := #[] }
def k11m10 : Method := { name := "checkIndex", desc := "(II)V", sig := { parameters := [.int, .int], returnType := none }, accessFlags := 8, code := some k11c10 }
/-- java/lang/String -/
def k11 : Class := { plain "java/lang/String" (some 0) with
  accessFlags := 49
  interfaces := #[6, 7, 4, 9, 10]
  cf := some (fileOf pool11 10 #[.nestMembers #[1103]] #[{ accessFlags := 1, nameIndex := 5, descriptorIndex := 6, attributes := #[] }, { accessFlags := 1, nameIndex := 5, descriptorIndex := 1233, attributes := #[] }, { accessFlags := 1, nameIndex := 507, descriptorIndex := 334, attributes := #[] }, { accessFlags := 1, nameIndex := 497, descriptorIndex := 427, attributes := #[] }, { accessFlags := 9, nameIndex := 782, descriptorIndex := 783, attributes := #[] }, { accessFlags := 0, nameIndex := 532, descriptorIndex := 821, attributes := #[] }, { accessFlags := 0, nameIndex := 5, descriptorIndex := 491, attributes := #[] }, { accessFlags := 0, nameIndex := 5, descriptorIndex := 211, attributes := #[] }, { accessFlags := 0, nameIndex := 17, descriptorIndex := 337, attributes := #[] }, { accessFlags := 0, nameIndex := 494, descriptorIndex := 142, attributes := #[] }, { accessFlags := 8, nameIndex := 501, descriptorIndex := 391, attributes := #[] }] 49 2 #[1106, 1108, 575, 1110, 1112] #[{ accessFlags := 18, nameIndex := 13, descriptorIndex := 14, attributes := #[] }, { accessFlags := 18, nameIndex := 17, descriptorIndex := 18, attributes := #[] }, { accessFlags := 2, nameIndex := 21, descriptorIndex := 22, attributes := #[] }, { accessFlags := 2, nameIndex := 25, descriptorIndex := 26, attributes := #[] }, { accessFlags := 26, nameIndex := 1116, descriptorIndex := 1117, attributes := #[] }, { accessFlags := 24, nameIndex := 40, descriptorIndex := 26, attributes := #[] }, { accessFlags := 26, nameIndex := 1101, descriptorIndex := 1102, attributes := #[] }, { accessFlags := 26, nameIndex := 1121, descriptorIndex := 1122, attributes := #[] }, { accessFlags := 25, nameIndex := 599, descriptorIndex := 600, attributes := #[] }, { accessFlags := 24, nameIndex := 1125, descriptorIndex := 18, attributes := #[] }, { accessFlags := 24, nameIndex := 1127, descriptorIndex := 18, attributes := #[] }])
  fields := #[{ name := "value", type := (.array .byte), accessFlags := 18, slot := 0, constantValue := 0 }, { name := "coder", type := .byte, accessFlags := 18, slot := 1, constantValue := 0 }, { name := "hash", type := .int, accessFlags := 2, slot := 2, constantValue := 0 }, { name := "hashIsZero", type := .boolean, accessFlags := 2, slot := 3, constantValue := 0 }, { name := "serialVersionUID", type := .long, accessFlags := 26, slot := 0, constantValue := 0 }, { name := "COMPACT_STRINGS", type := .boolean, accessFlags := 24, slot := 1, constantValue := 0 }, { name := "serialPersistentFields", type := (.array (.object "java/io/ObjectStreamField")), accessFlags := 26, slot := 2, constantValue := 0 }, { name := "REPL", type := .char, accessFlags := 26, slot := 3, constantValue := 0 }, { name := "CASE_INSENSITIVE_ORDER", type := (.object "java/util/Comparator"), accessFlags := 25, slot := 4, constantValue := 0 }, { name := "LATIN1", type := .byte, accessFlags := 24, slot := 5, constantValue := 0 }, { name := "UTF16", type := .byte, accessFlags := 24, slot := 6, constantValue := 0 }]
  methods := #[k11m0, k11m1, k11m2, k11m3, k11m4, k11m5, k11m6, k11m7, k11m8, k11m9, k11m10]
  instanceTypes := #[(.array .byte), .byte, .int, .boolean]
  staticTypes := #[.long, .boolean, (.array (.object "java/io/ObjectStreamField")), .char, (.object "java/util/Comparator"), .byte, .byte]
  resolved := Array.replicate 1451 none
  statics := some 0 }

def pool12 : Array CpInfo := pool [(1, .class_ 2), (0, u "java/lang/String"), (1, .class_ 6), (1, u "java/lang/Object"), (0, u "<init>"), (0, u "()V"), (0, .methodref 1 10), (0, .nameAndType 11 12), (0, u "checkIndex"), (0, u "(II)V"), (1, .class_ 16), (1, u "java/lang/StringLatin1"), (36, u "([BI)C"), (36, u "canEncode"), (14, u "(C)Z"), (15, u "$assertionsDisabled"), (0, u "Z"), (98, .class_ 223), (1, u "java/lang/StringLatin1$LinesSpliterator"), (28, u "charAt"), (127, u "toBytes"), (1, u "(C)[B"), (7, .class_ 391), (0, u "java/lang/StringLatin1$CharsSpliterator")] 3

def k12m0 : Method := { name := "<init>", desc := "()V", sig := { parameters := [], returnType := none }, accessFlags := 0, code := none }
def k12c1 : Code := { maxStack := 2, maxLocals := 2, code := jdk_43_method_2_code, exceptionTable := #[], attributes := #[] }
def k12m1 : Method := { name := "charAt", desc := "([BI)C", sig := { parameters := [(.array .byte), .int], returnType := some .char }, accessFlags := 9, code := some k12c1 }
def k12c2 : Code := { maxStack := 2, maxLocals := 1, code := jdk_43_method_3_code, exceptionTable := #[], attributes := #[] }
def k12m2 : Method := { name := "canEncode", desc := "(C)Z", sig := { parameters := [.char], returnType := some .boolean }, accessFlags := 9, code := some k12c2 }
def k12c3 : Code := { maxStack := 4, maxLocals := 1, code := jdk_43_method_46_code, exceptionTable := #[], attributes := #[] }
def k12m3 : Method := { name := "toBytes", desc := "(C)[B", sig := { parameters := [.char], returnType := some (.array .byte) }, accessFlags := 9, code := some k12c3 }
/-- java/lang/StringLatin1 -/
def k12 : Class := { plain "java/lang/StringLatin1" (some 0) with
  accessFlags := 48
  interfaces := #[]
  cf := some (fileOf pool12 14 #[.nestMembers #[390, 221]] #[{ accessFlags := 0, nameIndex := 7, descriptorIndex := 8, attributes := #[] }, { accessFlags := 9, nameIndex := 252, descriptorIndex := 53, attributes := #[] }, { accessFlags := 9, nameIndex := 90, descriptorIndex := 105, attributes := #[] }, { accessFlags := 9, nameIndex := 380, descriptorIndex := 382, attributes := #[] }] 48 4 #[] #[{ accessFlags := 4120, nameIndex := 121, descriptorIndex := 122, attributes := #[] }])
  fields := #[{ name := "$assertionsDisabled", type := .boolean, accessFlags := 4120, slot := 0, constantValue := 0 }]
  methods := #[k12m0, k12m1, k12m2, k12m3]
  instanceTypes := #[]
  staticTypes := #[.boolean]
  resolved := Array.replicate 395 none
  statics := none }

def pool13 : Array CpInfo := pool [(2, .class_ 4), (1, u "java/lang/Object"), (0, u "<init>"), (0, u "()V"), (1, .class_ 10), (1, u "java/lang/System"), (0, u "allowSecurityManager"), (0, u "I"), (16, u "cons"), (0, u "Ljava/io/Console;"), (77, .class_ 110), (1, u "java/lang/System$CallersHolder"), (43, u "initialErrStream"), (0, u "Ljava/io/PrintStream;"), (19, u "security"), (0, u "Ljava/lang/SecurityManager;"), (31, .class_ 209), (0, u "java/lang/System$1"), (7, u "props"), (0, u "Ljava/util/Properties;"), (2, u "lineSeparator"), (0, u "Ljava/lang/String;"), (96, .class_ 321), (1, u "java/lang/System$LoggerFinder"), (5, .class_ 328), (0, u "java/lang/System$Logger"), (67, u "err"), (2, u "out"), (91, u "notSupportedJnuEncoding"), (15, u "in"), (17, u "initialIn"), (0, u "Ljava/io/InputStream;"), (35, u "bootLayer"), (0, u "Ljava/lang/ModuleLayer;"), (99, .class_ 664), (0, u "java/lang/System$2"), (9, u "NEVER"), (2, u "MAYBE"), (49, u "arraycopy"), (0, u "(Ljava/lang/Object;ILjava/lang/Object;II)V"), (72, .class_ 802), (0, u "java/lang/System$Logger$Level")] 31

def k13m0 : Method := { name := "<init>", desc := "()V", sig := { parameters := [], returnType := none }, accessFlags := 2, code := none }
def k13m1 : Method := { name := "arraycopy", desc := "(Ljava/lang/Object;ILjava/lang/Object;II)V", sig := { parameters := [(.object "java/lang/Object"), .int, (.object "java/lang/Object"), .int, .int], returnType := none }, accessFlags := 265, code := none }
/-- java/lang/System -/
def k13 : Class := { plain "java/lang/System" (some 0) with
  accessFlags := 49
  interfaces := #[]
  cf := some (fileOf pool13 8 #[.nestMembers #[319, 327, 801, 108, 663, 208]] #[{ accessFlags := 2, nameIndex := 5, descriptorIndex := 6, attributes := #[] }, { accessFlags := 265, nameIndex := 727, descriptorIndex := 728, attributes := #[] }] 49 2 #[] #[{ accessFlags := 25, nameIndex := 507, descriptorIndex := 526, attributes := #[] }, { accessFlags := 25, nameIndex := 399, descriptorIndex := 155, attributes := #[] }, { accessFlags := 25, nameIndex := 396, descriptorIndex := 155, attributes := #[] }, { accessFlags := 10, nameIndex := 525, descriptorIndex := 526, attributes := #[] }, { accessFlags := 26, nameIndex := 674, descriptorIndex := 12, attributes := #[] }, { accessFlags := 26, nameIndex := 677, descriptorIndex := 12, attributes := #[] }, { accessFlags := 10, nameIndex := 11, descriptorIndex := 12, attributes := #[] }, { accessFlags := 74, nameIndex := 175, descriptorIndex := 176, attributes := #[] }, { accessFlags := 10, nameIndex := 491, descriptorIndex := 222, attributes := #[] }, { accessFlags := 74, nameIndex := 29, descriptorIndex := 30, attributes := #[] }, { accessFlags := 74, nameIndex := 154, descriptorIndex := 155, attributes := #[] }, { accessFlags := 10, nameIndex := 217, descriptorIndex := 218, attributes := #[] }, { accessFlags := 10, nameIndex := 221, descriptorIndex := 222, attributes := #[] }, { accessFlags := 8, nameIndex := 562, descriptorIndex := 563, attributes := #[] }])
  fields := #[{ name := "in", type := (.object "java/io/InputStream"), accessFlags := 25, slot := 0, constantValue := 0 }, { name := "out", type := (.object "java/io/PrintStream"), accessFlags := 25, slot := 1, constantValue := 0 }, { name := "err", type := (.object "java/io/PrintStream"), accessFlags := 25, slot := 2, constantValue := 0 }, { name := "initialIn", type := (.object "java/io/InputStream"), accessFlags := 10, slot := 3, constantValue := 0 }, { name := "NEVER", type := .int, accessFlags := 26, slot := 4, constantValue := 0 }, { name := "MAYBE", type := .int, accessFlags := 26, slot := 5, constantValue := 0 }, { name := "allowSecurityManager", type := .int, accessFlags := 10, slot := 6, constantValue := 0 }, { name := "security", type := (.object "java/lang/SecurityManager"), accessFlags := 74, slot := 7, constantValue := 0 }, { name := "notSupportedJnuEncoding", type := (.object "java/lang/String"), accessFlags := 10, slot := 8, constantValue := 0 }, { name := "cons", type := (.object "java/io/Console"), accessFlags := 74, slot := 9, constantValue := 0 }, { name := "initialErrStream", type := (.object "java/io/PrintStream"), accessFlags := 74, slot := 10, constantValue := 0 }, { name := "props", type := (.object "java/util/Properties"), accessFlags := 10, slot := 11, constantValue := 0 }, { name := "lineSeparator", type := (.object "java/lang/String"), accessFlags := 10, slot := 12, constantValue := 0 }, { name := "bootLayer", type := (.object "java/lang/ModuleLayer"), accessFlags := 8, slot := 13, constantValue := 0 }]
  methods := #[k13m0, k13m1]
  instanceTypes := #[]
  staticTypes := #[(.object "java/io/InputStream"), (.object "java/io/PrintStream"), (.object "java/io/PrintStream"), (.object "java/io/InputStream"), .int, .int, .int, (.object "java/lang/SecurityManager"), (.object "java/lang/String"), (.object "java/io/Console"), (.object "java/io/PrintStream"), (.object "java/util/Properties"), (.object "java/lang/String"), (.object "java/lang/ModuleLayer")]
  resolved := Array.replicate 834 none
  statics := none }

def pool14 : Array CpInfo := pool [(2, .class_ 4), (1, u "java/lang/Object"), (0, u "<init>"), (0, u "()V"), (7, .class_ 16), (1, u "java/util/Arrays"), (57, .class_ 76), (1, u "java/util/Arrays$NaturalOrder"), (36, .class_ 115), (1, u "java/util/Arrays$LegacyMergeSort"), (1, u "Z"), (21, u "copyOfRange"), (10, .methodref 151 152), (0, .class_ 153), (0, .nameAndType 154 155), (0, u "java/lang/System"), (0, u "arraycopy"), (0, u "(Ljava/lang/Object;ILjava/lang/Object;II)V"), (148, .methodref 305 306), (0, .class_ 307), (0, .nameAndType 308 309), (0, u "java/lang/Math"), (0, u "min"), (0, u "(II)I"), (29, .methodref 14 340), (0, .nameAndType 341 342), (0, u "copyOfRangeByte"), (0, u "([BII)[B"), (0, .methodref 14 344), (0, .nameAndType 345 346), (0, u "checkLength"), (0, u "(II)V"), (28, .class_ 376), (0, u "java/util/Arrays$ArrayList"), (68, u "$assertionsDisabled"), (269, u "MIN_ARRAY_SORT_GRAN"), (0, u "I"), (2, u "INSERTIONSORT_THRESHOLD"), (255, .class_ 976), (0, u "java/util/Arrays$ArrayItr")] 52

def k14m0 : Method := { name := "<init>", desc := "()V", sig := { parameters := [], returnType := none }, accessFlags := 2, code := none }
def k14c1 : Code := { maxStack := 4, maxLocals := 2, code := jdk_65_method_131_code, exceptionTable := #[], attributes := #[] }
def k14m1 : Method := { name := "checkLength", desc := "(II)V", sig := { parameters := [.int, .int], returnType := none }, accessFlags := 10, code := some k14c1 }
def k14c2 : Code := { maxStack := 3, maxLocals := 3, code := jdk_65_method_132_code, exceptionTable := #[], attributes := #[] }
def k14m2 : Method := { name := "copyOfRange", desc := "([BII)[B", sig := { parameters := [(.array .byte), .int, .int], returnType := some (.array .byte) }, accessFlags := 9, code := some k14c2 }
def k14c3 : Code := { maxStack := 6, maxLocals := 5, code := jdk_65_method_133_code, exceptionTable := #[], attributes := #[] }
def k14m3 : Method := { name := "copyOfRangeByte", desc := "([BII)[B", sig := { parameters := [(.array .byte), .int, .int], returnType := some (.array .byte) }, accessFlags := 10, code := some k14c3 }
/-- java/util/Arrays -/
def k14 : Class := { plain "java/util/Arrays" (some 0) with
  accessFlags := 49
  interfaces := #[]
  cf := some (fileOf pool14 14 #[.nestMembers #[975, 375, 113, 74]] #[{ accessFlags := 2, nameIndex := 5, descriptorIndex := 6, attributes := #[] }, { accessFlags := 10, nameIndex := 345, descriptorIndex := 346, attributes := #[] }, { accessFlags := 9, nameIndex := 139, descriptorIndex := 342, attributes := #[] }, { accessFlags := 10, nameIndex := 341, descriptorIndex := 342, attributes := #[] }] 49 2 #[] #[{ accessFlags := 26, nameIndex := 715, descriptorIndex := 716, attributes := #[] }, { accessFlags := 26, nameIndex := 719, descriptorIndex := 716, attributes := #[] }, { accessFlags := 4120, nameIndex := 445, descriptorIndex := 117, attributes := #[] }])
  fields := #[{ name := "MIN_ARRAY_SORT_GRAN", type := .int, accessFlags := 26, slot := 0, constantValue := 0 }, { name := "INSERTIONSORT_THRESHOLD", type := .int, accessFlags := 26, slot := 1, constantValue := 0 }, { name := "$assertionsDisabled", type := .boolean, accessFlags := 4120, slot := 2, constantValue := 0 }]
  methods := #[k14m0, k14m1, k14m2, k14m3]
  instanceTypes := #[]
  staticTypes := #[.int, .int, .boolean]
  resolved := Array.replicate 1029 none
  statics := none }

def pool15 : Array CpInfo := pool [(1, .class_ 2), (0, u "java/lang/Math"), (1, .class_ 6), (1, u "java/lang/Object"), (0, u "<init>"), (0, u "()V"), (89, .class_ 100), (1, u "java/lang/Math$RandomNumberGeneratorHolder"), (71, u "negativeZeroFloatBits"), (0, u "J"), (2, u "negativeZeroDoubleBits"), (24, u "min"), (43, u "$assertionsDisabled"), (0, u "Z"), (88, u "(II)I"), (2, u "twoToTheDoubleScaleDown"), (0, u "D"), (4, u "twoToTheDoubleScaleUp"), (9, u "E"), (3, u "PI"), (2, u "TAU"), (2, u "DEGREES_TO_RADIANS"), (0, u "RADIANS_TO_DEGREES")] 94

def k15m0 : Method := { name := "<init>", desc := "()V", sig := { parameters := [], returnType := none }, accessFlags := 2, code := none }
def k15c1 : Code := { maxStack := 2, maxLocals := 2, code := jdk_29_method_69_code, exceptionTable := #[], attributes := #[] }
def k15m1 : Method := { name := "min", desc := "(II)I", sig := { parameters := [.int, .int], returnType := some .int }, accessFlags := 9, code := some k15c1 }
/-- java/lang/Math -/
def k15 : Class := { plain "java/lang/Math" (some 0) with
  accessFlags := 49
  interfaces := #[]
  cf := some (fileOf pool15 1 #[.nestMembers #[98]] #[{ accessFlags := 2, nameIndex := 7, descriptorIndex := 8, attributes := #[] }, { accessFlags := 9, nameIndex := 201, descriptorIndex := 335, attributes := #[] }] 49 4 #[] #[{ accessFlags := 25, nameIndex := 354, descriptorIndex := 339, attributes := #[] }, { accessFlags := 25, nameIndex := 358, descriptorIndex := 339, attributes := #[] }, { accessFlags := 25, nameIndex := 361, descriptorIndex := 339, attributes := #[] }, { accessFlags := 26, nameIndex := 364, descriptorIndex := 339, attributes := #[] }, { accessFlags := 26, nameIndex := 365, descriptorIndex := 339, attributes := #[] }, { accessFlags := 26, nameIndex := 172, descriptorIndex := 173, attributes := #[] }, { accessFlags := 26, nameIndex := 176, descriptorIndex := 173, attributes := #[] }, { accessFlags := 8, nameIndex := 344, descriptorIndex := 339, attributes := #[] }, { accessFlags := 8, nameIndex := 338, descriptorIndex := 339, attributes := #[] }, { accessFlags := 4120, nameIndex := 245, descriptorIndex := 246, attributes := #[] }])
  fields := #[{ name := "E", type := .double, accessFlags := 25, slot := 0, constantValue := 0 }, { name := "PI", type := .double, accessFlags := 25, slot := 1, constantValue := 0 }, { name := "TAU", type := .double, accessFlags := 25, slot := 2, constantValue := 0 }, { name := "DEGREES_TO_RADIANS", type := .double, accessFlags := 26, slot := 3, constantValue := 0 }, { name := "RADIANS_TO_DEGREES", type := .double, accessFlags := 26, slot := 4, constantValue := 0 }, { name := "negativeZeroFloatBits", type := .long, accessFlags := 26, slot := 5, constantValue := 0 }, { name := "negativeZeroDoubleBits", type := .long, accessFlags := 26, slot := 6, constantValue := 0 }, { name := "twoToTheDoubleScaleUp", type := .double, accessFlags := 8, slot := 7, constantValue := 0 }, { name := "twoToTheDoubleScaleDown", type := .double, accessFlags := 8, slot := 8, constantValue := 0 }, { name := "$assertionsDisabled", type := .boolean, accessFlags := 4120, slot := 9, constantValue := 0 }]
  methods := #[k15m0, k15m1]
  instanceTypes := #[]
  staticTypes := #[.double, .double, .double, .double, .double, .long, .long, .double, .double, .boolean]
  resolved := Array.replicate 460 none
  statics := none }

def pool16 : Array CpInfo := pool [(2, .class_ 4), (1, u "java/lang/Object"), (0, u "<init>"), (0, u "()V"), (17, .class_ 26), (1, u "jdk/internal/util/Preconditions"), (6, u "checkIndex"), (21, .class_ 56), (0, u "jdk/internal/util/Preconditions$4"), (57, .class_ 115), (0, u "jdk/internal/util/Preconditions$1"), (7, u "SIOOBE_FORMATTER"), (0, u "Ljava/util/function/BiFunction;"), (0, .class_ 126), (0, u "jdk/internal/util/Preconditions$2"), (3, u "AIOOBE_FORMATTER"), (0, .class_ 132), (0, u "jdk/internal/util/Preconditions$3"), (3, u "IOOBE_FORMATTER"), (41, u "(IILjava/util/function/BiFunction;)I")] 15

def k16m0 : Method := { name := "<init>", desc := "()V", sig := { parameters := [], returnType := none }, accessFlags := 1, code := none }
def k16c1 : Code := { maxStack := 3, maxLocals := 3, code := jdk_41_method_11_code, exceptionTable := #[], attributes := #[] }
def k16m1 : Method := { name := "checkIndex", desc := "(IILjava/util/function/BiFunction;)I", sig := { parameters := [.int, .int, (.object "java/util/function/BiFunction")], returnType := some .int }, accessFlags := 9, code := some k16c1 }
/-- jdk/internal/util/Preconditions -/
def k16 : Class := { plain "jdk/internal/util/Preconditions" (some 0) with
  accessFlags := 33
  interfaces := #[]
  cf := some (fileOf pool16 24 #[.nestMembers #[55, 131, 125, 114]] #[{ accessFlags := 1, nameIndex := 5, descriptorIndex := 6, attributes := #[] }, { accessFlags := 9, nameIndex := 33, descriptorIndex := 178, attributes := #[] }] 33 2 #[] #[{ accessFlags := 25, nameIndex := 123, descriptorIndex := 124, attributes := #[] }, { accessFlags := 25, nameIndex := 130, descriptorIndex := 124, attributes := #[] }, { accessFlags := 25, nameIndex := 136, descriptorIndex := 124, attributes := #[] }])
  fields := #[{ name := "SIOOBE_FORMATTER", type := (.object "java/util/function/BiFunction"), accessFlags := 25, slot := 0, constantValue := 0 }, { name := "AIOOBE_FORMATTER", type := (.object "java/util/function/BiFunction"), accessFlags := 25, slot := 1, constantValue := 0 }, { name := "IOOBE_FORMATTER", type := (.object "java/util/function/BiFunction"), accessFlags := 25, slot := 2, constantValue := 0 }]
  methods := #[k16m0, k16m1]
  instanceTypes := #[]
  staticTypes := #[(.object "java/util/function/BiFunction"), (.object "java/util/function/BiFunction"), (.object "java/util/function/BiFunction")]
  resolved := Array.replicate 194 none
  statics := some 1 }

def pool17 : Array CpInfo := pool [(9, u "<init>"), (6, .class_ 18), (1, u "java/lang/Object"), (0, u "()V"), (1, .class_ 23), (1, u "jdk/internal/util/ArraysSupport"), (0, u "LOG2_ARRAY_LONG_INDEX_SCALE"), (0, u "I"), (2, u "U"), (0, u "Ljdk/internal/misc/Unsafe;"), (8, u "BIG_ENDIAN"), (0, u "Z"), (8, u "LOG2_BYTE_BIT_SIZE"), (4, u "LOG2_ARRAY_INT_INDEX_SCALE"), (54, u "JLA"), (0, u "Ljdk/internal/access/JavaLangAccess;"), (11, u "LOG2_ARRAY_BOOLEAN_INDEX_SCALE"), (9, u "LOG2_ARRAY_BYTE_INDEX_SCALE"), (5, u "LOG2_ARRAY_CHAR_INDEX_SCALE"), (5, u "LOG2_ARRAY_SHORT_INDEX_SCALE"), (18, u "LOG2_ARRAY_FLOAT_INDEX_SCALE"), (24, u "LOG2_ARRAY_DOUBLE_INDEX_SCALE"), (89, u "T_BOOLEAN"), (2, u "T_CHAR"), (1, u "T_FLOAT"), (1, u "T_DOUBLE"), (1, u "T_BYTE"), (1, u "T_SHORT"), (1, u "T_INT"), (1, u "T_LONG"), (1, u "SOFT_MAX_ARRAY_LENGTH")] 83

def k17m0 : Method := { name := "<init>", desc := "()V", sig := { parameters := [], returnType := none }, accessFlags := 2, code := none }
/-- jdk/internal/util/ArraysSupport -/
def k17 : Class := { plain "jdk/internal/util/ArraysSupport" (some 0) with
  accessFlags := 33
  interfaces := #[]
  cf := some (fileOf pool17 21 #[] #[{ accessFlags := 2, nameIndex := 9, descriptorIndex := 19, attributes := #[] }] 33 16 #[] #[{ accessFlags := 24, nameIndex := 28, descriptorIndex := 29, attributes := #[] }, { accessFlags := 26, nameIndex := 38, descriptorIndex := 39, attributes := #[] }, { accessFlags := 25, nameIndex := 121, descriptorIndex := 25, attributes := #[] }, { accessFlags := 25, nameIndex := 131, descriptorIndex := 25, attributes := #[] }, { accessFlags := 25, nameIndex := 137, descriptorIndex := 25, attributes := #[] }, { accessFlags := 25, nameIndex := 143, descriptorIndex := 25, attributes := #[] }, { accessFlags := 25, nameIndex := 53, descriptorIndex := 25, attributes := #[] }, { accessFlags := 25, nameIndex := 24, descriptorIndex := 25, attributes := #[] }, { accessFlags := 25, nameIndex := 162, descriptorIndex := 25, attributes := #[] }, { accessFlags := 25, nameIndex := 187, descriptorIndex := 25, attributes := #[] }, { accessFlags := 26, nameIndex := 48, descriptorIndex := 25, attributes := #[] }, { accessFlags := 25, nameIndex := 277, descriptorIndex := 25, attributes := #[] }, { accessFlags := 25, nameIndex := 280, descriptorIndex := 25, attributes := #[] }, { accessFlags := 25, nameIndex := 282, descriptorIndex := 25, attributes := #[] }, { accessFlags := 25, nameIndex := 284, descriptorIndex := 25, attributes := #[] }, { accessFlags := 25, nameIndex := 286, descriptorIndex := 25, attributes := #[] }, { accessFlags := 25, nameIndex := 288, descriptorIndex := 25, attributes := #[] }, { accessFlags := 25, nameIndex := 290, descriptorIndex := 25, attributes := #[] }, { accessFlags := 25, nameIndex := 292, descriptorIndex := 25, attributes := #[] }, { accessFlags := 26, nameIndex := 108, descriptorIndex := 109, attributes := #[] }, { accessFlags := 25, nameIndex := 294, descriptorIndex := 25, attributes := #[] }])
  fields := #[{ name := "U", type := (.object "jdk/internal/misc/Unsafe"), accessFlags := 24, slot := 0, constantValue := 0 }, { name := "BIG_ENDIAN", type := .boolean, accessFlags := 26, slot := 1, constantValue := 0 }, { name := "LOG2_ARRAY_BOOLEAN_INDEX_SCALE", type := .int, accessFlags := 25, slot := 2, constantValue := 0 }, { name := "LOG2_ARRAY_BYTE_INDEX_SCALE", type := .int, accessFlags := 25, slot := 3, constantValue := 0 }, { name := "LOG2_ARRAY_CHAR_INDEX_SCALE", type := .int, accessFlags := 25, slot := 4, constantValue := 0 }, { name := "LOG2_ARRAY_SHORT_INDEX_SCALE", type := .int, accessFlags := 25, slot := 5, constantValue := 0 }, { name := "LOG2_ARRAY_INT_INDEX_SCALE", type := .int, accessFlags := 25, slot := 6, constantValue := 0 }, { name := "LOG2_ARRAY_LONG_INDEX_SCALE", type := .int, accessFlags := 25, slot := 7, constantValue := 0 }, { name := "LOG2_ARRAY_FLOAT_INDEX_SCALE", type := .int, accessFlags := 25, slot := 8, constantValue := 0 }, { name := "LOG2_ARRAY_DOUBLE_INDEX_SCALE", type := .int, accessFlags := 25, slot := 9, constantValue := 0 }, { name := "LOG2_BYTE_BIT_SIZE", type := .int, accessFlags := 26, slot := 10, constantValue := 0 }, { name := "T_BOOLEAN", type := .int, accessFlags := 25, slot := 11, constantValue := 0 }, { name := "T_CHAR", type := .int, accessFlags := 25, slot := 12, constantValue := 0 }, { name := "T_FLOAT", type := .int, accessFlags := 25, slot := 13, constantValue := 0 }, { name := "T_DOUBLE", type := .int, accessFlags := 25, slot := 14, constantValue := 0 }, { name := "T_BYTE", type := .int, accessFlags := 25, slot := 15, constantValue := 0 }, { name := "T_SHORT", type := .int, accessFlags := 25, slot := 16, constantValue := 0 }, { name := "T_INT", type := .int, accessFlags := 25, slot := 17, constantValue := 0 }, { name := "T_LONG", type := .int, accessFlags := 25, slot := 18, constantValue := 0 }, { name := "JLA", type := (.object "jdk/internal/access/JavaLangAccess"), accessFlags := 26, slot := 19, constantValue := 0 }, { name := "SOFT_MAX_ARRAY_LENGTH", type := .int, accessFlags := 25, slot := 20, constantValue := 0 }]
  methods := #[k17m0]
  instanceTypes := #[]
  staticTypes := #[(.object "jdk/internal/misc/Unsafe"), .boolean, .int, .int, .int, .int, .int, .int, .int, .int, .int, .int, .int, .int, .int, .int, .int, .int, .int, (.object "jdk/internal/access/JavaLangAccess"), .int]
  resolved := Array.replicate 378 none
  statics := none }

def pool18 : Array CpInfo := pool [(1, u "java/lang/Cloneable"), (0, .class_ 1), (0, u "java/lang/Object"), (0, .class_ 3)] 3

/-- java/lang/Cloneable -/
def k18 : Class := { plain "java/lang/Cloneable" (some 0) with
  accessFlags := 1537
  interfaces := #[]
  cf := some (fileOf pool18 2 #[] #[] 1537 4 #[] #[])
  fields := #[]
  methods := #[]
  instanceTypes := #[]
  staticTypes := #[]
  resolved := Array.replicate 8 none
  statics := none }

/-- the primitive byte -/
def k19 : Class := { plain "byte" none with kind := .primitive 'B', accessFlags := 0x411 }
/-- [B -/
def k20 : Class := { plain "[B" (some 0) with kind := .array 19 .byte, interfaces := #[18, 6], accessFlags := 1041 }

/-- the primitive char -/
def k21 : Class := { plain "char" none with kind := .primitive 'C', accessFlags := 0x411 }
/-- [C -/
def k22 : Class := { plain "[C" (some 0) with kind := .array 21 .char, interfaces := #[18, 6], accessFlags := 1041 }

/-- the primitive int -/
def k23 : Class := { plain "int" none with kind := .primitive 'I', accessFlags := 0x411 }
/-- [I -/
def k24 : Class := { plain "[I" (some 0) with kind := .array 23 .int, interfaces := #[18, 6], accessFlags := 1041 }

def heap : Heap := #[{ cls := 11, slots := #[.long 0, .int 1, .null, .int 0, .null, .int 0, .int 0], vm := .statics 11 },
  { cls := 16, slots := #[.null, .null, .null], vm := .statics 16 }]
def classes : Array Class := #[k0, k1, k2, k3, k4, k5, k6, k7, k8, k9, k10, k11, k12, k13, k14, k15, k16, k17, k18, k19, k20, k21, k22, k23, k24]
def interned : List (Array UInt16 × Addr) := []
def slotsUsed : Nat := 10
def theMethod : MethodId := ⟨1, 1⟩
def args0 : Array Value := #[.int 0x4241, .int 0x4443, .int 3]
def aboutOver (below : List Frame) : State where
  vm := { classes := classes, interned := interned.toArray }
  heap := heap
  slotsUsed := slotsUsed
  threads := #[{ frames := .invoking theMethod args0 :: below }]
def below0 : List Frame := [.native { method := ⟨0, 0⟩, args := #[] }]
def about1 : State := aboutOver below0
def p0 : Program := .bare "" "" ""
def e0 : Env := launch0.env 0 0 0
theorem w_frames : about1.frames = Frame.invoking theMethod args0 :: below0 := rfl
set_option maxRecDepth 65536 in
theorem w_args : argsFit about1.vm theMethod args0 = true := by decide +kernel
set_option maxRecDepth 65536 in
theorem w_heap : heapFits about1 = true := by decide +kernel
set_option maxRecDepth 65536 in
theorem w_runnable : about1.curStatus? = some .runnable := by decide +kernel
set_option maxRecDepth 65536 in
theorem w_alone : about1.alone = true := by decide +kernel
set_option maxRecDepth 65536 in
theorem w_named : about1.methodNamed? x = some theMethod := by decide +kernel
set_option maxRecDepth 65536 in
theorem w_hears : about1.hears theMethod below0 = true := by decide +kernel
set_option maxRecDepth 65536 in
theorem w_ripe : about1.ripe theMethod args0 below0 = true := by decide +kernel
theorem w_running : about1.status = .running := rfl
set_option maxRecDepth 65536 in
theorem w_room : about1.hasRoom e0.platform room_1 = true :=
  launch0.hasRoom_least _ room_1 (by decide +kernel) (by decide +kernel) (by decide +kernel) (by decide +kernel) (by decide +kernel) (by decide +kernel)
theorem allAtoms_all (ts : List Jvm.Cond) (a : Array Jvm.Value) (st : Jvm.State) : (allAtoms ts).before a st = ts.all (fun c => c.before a st) := by
  induction ts with
  | nil => rfl
  | cons c t ih =>
    show (Jvm.Cond.and c (allAtoms t)).before a st = _
    rw [Jvm.Cond.before_and, ih, List.all_cons]
def words1 : List Jvm.Cond := Jvm.Cond.code x code maxLocals ret :: tables_1
/-- a 'code' word, met by the world's own term for the bytes: nothing is compared byte by byte -/
theorem code_word {y : MethodName} {bytes : ByteArray} {mx : Nat} {rt : Option FieldType} {a : Array Value} {s : State} {m : MethodId} {meth : Method} {c : Code} (h1 : s.methodNamed? y = some m) (h2 : s.vm.method? m = some meth) (h3 : meth.code = some c) (h4 : c.code = bytes)
    (h5 : (c.maxLocals == mx && c.exceptionTable.isEmpty && decide (c.maxStack ≤ mostOperands) && decide (meth.sig.returnType = rt) && !meth.locks && decide (parseMethodDescriptor y.desc = some meth.sig)) = true) : (Jvm.Cond.code y bytes mx rt).before a s = true := by
  simp only [Bool.and_eq_true, beq_iff_eq, Bool.not_eq_true', decide_eq_true_eq] at h5
  obtain ⟨⟨⟨⟨⟨g1, g2⟩, g3⟩, g4⟩, g5⟩, g6⟩ := h5
  simp [Cond.before, Cond.holds, Cond.value, h1, h2, h3, h4, g1, g2, g3, g4, g5, g6]
def isCode : Jvm.Cond → Bool
  | .code _ _ _ _ => true
  | _ => false
theorem all_split {L : List Jvm.Cond} {P : Jvm.Cond → Bool} (h1 : L.all (fun c => isCode c || P c) = true) (h2 : ∀ c ∈ L.filter isCode, P c = true) : L.all P = true := by
  refine List.all_eq_true.mpr fun c hc => ?_
  have h := List.all_eq_true.mp h1 c hc
  rcases Bool.eq_false_or_eq_true (isCode c) with hi | hi
  · exact h2 c (List.mem_filter.mpr ⟨hc, hi⟩)
  · simpa [hi] using h
set_option maxRecDepth 65536 in
theorem w_c0 : (Jvm.Cond.code x code maxLocals ret).before args0 about1 = true := code_word (m := ⟨1, 1⟩) (meth := k1m1) (c := k1c1) (by decide +kernel) rfl rfl rfl (by decide +kernel)
set_option maxRecDepth 65536 in
theorem w_c1 : (Jvm.Cond.code ({ cls := "com/example/cloudgavel/cloudgavel/cli/Report", name := "<init>", desc := "()V" } : Jvm.MethodName) prog_5_method_1_code (1 : Nat) (Option.none : Option Jvm.ClassFile.FieldType)).before args0 about1 = true := code_word (m := ⟨2, 0⟩) (meth := k2m0) (c := k2c0) (by decide +kernel) rfl rfl rfl (by decide +kernel)
set_option maxRecDepth 65536 in
theorem w_c2 : (Jvm.Cond.code ({ cls := "java/lang/Object", name := "<init>", desc := "()V" } : Jvm.MethodName) object_method_1_code (1 : Nat) (Option.none : Option Jvm.ClassFile.FieldType)).before args0 about1 = true := code_word (m := ⟨0, 0⟩) (meth := k0m0) (c := k0c0) (by decide +kernel) rfl rfl rfl (by decide +kernel)
set_option maxRecDepth 65536 in
theorem w_c3 : (Jvm.Cond.code ({ cls := "java/lang/StringBuilder", name := "<init>", desc := "()V" } : Jvm.MethodName) jdk_67_method_1_code (1 : Nat) (Option.none : Option Jvm.ClassFile.FieldType)).before args0 about1 = true := code_word (m := ⟨8, 0⟩) (meth := k8m0) (c := k8c0) (by decide +kernel) rfl rfl rfl (by decide +kernel)
set_option maxRecDepth 65536 in
theorem w_c4 : (Jvm.Cond.code ({ cls := "java/lang/AbstractStringBuilder", name := "<init>", desc := "(I)V" } : Jvm.MethodName) jdk_68_method_2_code (2 : Nat) (Option.none : Option Jvm.ClassFile.FieldType)).before args0 about1 = true := code_word (m := ⟨5, 1⟩) (meth := k5m1) (c := k5c1) (by decide +kernel) rfl rfl rfl (by decide +kernel)
set_option maxRecDepth 65536 in
theorem w_c5 : (Jvm.Cond.code ({ cls := "java/lang/String", name := "valueOf", desc := "(C)Ljava/lang/String;" } : Jvm.MethodName) jdk_42_method_139_code (1 : Nat) (Option.some (Jvm.ClassFile.FieldType.object "java/lang/String"))).before args0 about1 = true := code_word (m := ⟨11, 4⟩) (meth := k11m4) (c := k11c4) (by decide +kernel) rfl rfl rfl (by decide +kernel)
set_option maxRecDepth 65536 in
theorem w_c6 : (Jvm.Cond.code ({ cls := "java/lang/StringLatin1", name := "canEncode", desc := "(C)Z" } : Jvm.MethodName) jdk_43_method_3_code (1 : Nat) (Option.some Jvm.ClassFile.FieldType.boolean)).before args0 about1 = true := code_word (m := ⟨12, 2⟩) (meth := k12m2) (c := k12c2) (by decide +kernel) rfl rfl rfl (by decide +kernel)
set_option maxRecDepth 65536 in
theorem w_c7 : (Jvm.Cond.code ({ cls := "java/lang/StringLatin1", name := "toBytes", desc := "(C)[B" } : Jvm.MethodName) jdk_43_method_46_code (1 : Nat) (Option.some (Jvm.ClassFile.FieldType.array Jvm.ClassFile.FieldType.byte))).before args0 about1 = true := code_word (m := ⟨12, 3⟩) (meth := k12m3) (c := k12c3) (by decide +kernel) rfl rfl rfl (by decide +kernel)
set_option maxRecDepth 65536 in
theorem w_c8 : (Jvm.Cond.code ({ cls := "java/lang/String", name := "<init>", desc := "([BB)V" } : Jvm.MethodName) jdk_42_method_151_code (3 : Nat) (Option.none : Option Jvm.ClassFile.FieldType)).before args0 about1 = true := code_word (m := ⟨11, 7⟩) (meth := k11m7) (c := k11c7) (by decide +kernel) rfl rfl rfl (by decide +kernel)
set_option maxRecDepth 65536 in
theorem w_c9 : (Jvm.Cond.code ({ cls := "com/example/cloudgavel/cloudgavel/cli/Report", name := "text", desc := "(Ljava/lang/String;Ljava/lang/String;)Lcom/example/cloudgavel/cloudgavel/cli/Report;" } : Jvm.MethodName) prog_5_method_2_code (3 : Nat) (Option.some (Jvm.ClassFile.FieldType.object "com/example/cloudgavel/cloudgavel/cli/Report"))).before args0 about1 = true := code_word (m := ⟨2, 1⟩) (meth := k2m1) (c := k2c1) (by decide +kernel) rfl rfl rfl (by decide +kernel)
set_option maxRecDepth 65536 in
theorem w_c10 : (Jvm.Cond.code ({ cls := "java/lang/StringBuilder", name := "append", desc := "(Ljava/lang/String;)Ljava/lang/StringBuilder;" } : Jvm.MethodName) jdk_67_method_7_code (2 : Nat) (Option.some (Jvm.ClassFile.FieldType.object "java/lang/StringBuilder"))).before args0 about1 = true := code_word (m := ⟨8, 1⟩) (meth := k8m1) (c := k8c1) (by decide +kernel) rfl rfl rfl (by decide +kernel)
set_option maxRecDepth 65536 in
theorem w_c11 : (Jvm.Cond.code ({ cls := "java/lang/AbstractStringBuilder", name := "append", desc := "(Ljava/lang/String;)Ljava/lang/AbstractStringBuilder;" } : Jvm.MethodName) jdk_68_method_22_code (3 : Nat) (Option.some (Jvm.ClassFile.FieldType.object "java/lang/AbstractStringBuilder"))).before args0 about1 = true := code_word (m := ⟨5, 4⟩) (meth := k5m4) (c := k5c4) (by decide +kernel) rfl rfl rfl (by decide +kernel)
set_option maxRecDepth 65536 in
theorem w_c12 : (Jvm.Cond.code ({ cls := "java/lang/String", name := "length", desc := "()I" } : Jvm.MethodName) jdk_42_method_54_code (1 : Nat) (Option.some Jvm.ClassFile.FieldType.int)).before args0 about1 = true := code_word (m := ⟨11, 2⟩) (meth := k11m2) (c := k11c2) (by decide +kernel) rfl rfl rfl (by decide +kernel)
set_option maxRecDepth 65536 in
theorem w_c13 : (Jvm.Cond.code ({ cls := "java/lang/String", name := "coder", desc := "()B" } : Jvm.MethodName) jdk_42_method_152_code (1 : Nat) (Option.some Jvm.ClassFile.FieldType.byte)).before args0 about1 = true := code_word (m := ⟨11, 8⟩) (meth := k11m8) (c := k11c8) (by decide +kernel) rfl rfl rfl (by decide +kernel)
set_option maxRecDepth 65536 in
theorem w_c14 : (Jvm.Cond.code ({ cls := "java/lang/AbstractStringBuilder", name := "ensureCapacityInternal", desc := "(I)V" } : Jvm.MethodName) jdk_68_method_9_code (3 : Nat) (Option.none : Option Jvm.ClassFile.FieldType)).before args0 about1 = true := code_word (m := ⟨5, 3⟩) (meth := k5m3) (c := k5c3) (by decide +kernel) rfl rfl rfl (by decide +kernel)
set_option maxRecDepth 65536 in
theorem w_c15 : (Jvm.Cond.code ({ cls := "java/lang/AbstractStringBuilder", name := "putStringAt", desc := "(ILjava/lang/String;)V" } : Jvm.MethodName) jdk_68_method_73_code (3 : Nat) (Option.none : Option Jvm.ClassFile.FieldType)).before args0 about1 = true := code_word (m := ⟨5, 14⟩) (meth := k5m14) (c := k5c14) (by decide +kernel) rfl rfl rfl (by decide +kernel)
set_option maxRecDepth 65536 in
theorem w_c16 : (Jvm.Cond.code ({ cls := "java/lang/AbstractStringBuilder", name := "inflateIfNeededFor", desc := "(Ljava/lang/String;)V" } : Jvm.MethodName) jdk_68_method_71_code (2 : Nat) (Option.none : Option Jvm.ClassFile.FieldType)).before args0 about1 = true := code_word (m := ⟨5, 12⟩) (meth := k5m12) (c := k5c12) (by decide +kernel) rfl rfl rfl (by decide +kernel)
set_option maxRecDepth 65536 in
theorem w_c17 : (Jvm.Cond.code ({ cls := "java/lang/String", name := "getBytes", desc := "([BIB)V" } : Jvm.MethodName) jdk_42_method_147_code (4 : Nat) (Option.none : Option Jvm.ClassFile.FieldType)).before args0 about1 = true := code_word (m := ⟨11, 5⟩) (meth := k11m5) (c := k11c5) (by decide +kernel) rfl rfl rfl (by decide +kernel)
set_option maxRecDepth 65536 in
theorem w_c18 : (Jvm.Cond.code ({ cls := "java/lang/StringBuilder", name := "append", desc := "(C)Ljava/lang/StringBuilder;" } : Jvm.MethodName) jdk_67_method_14_code (2 : Nat) (Option.some (Jvm.ClassFile.FieldType.object "java/lang/StringBuilder"))).before args0 about1 = true := code_word (m := ⟨8, 3⟩) (meth := k8m3) (c := k8c3) (by decide +kernel) rfl rfl rfl (by decide +kernel)
set_option maxRecDepth 65536 in
theorem w_c19 : (Jvm.Cond.code ({ cls := "java/lang/AbstractStringBuilder", name := "append", desc := "(C)Ljava/lang/AbstractStringBuilder;" } : Jvm.MethodName) jdk_68_method_31_code (2 : Nat) (Option.some (Jvm.ClassFile.FieldType.object "java/lang/AbstractStringBuilder"))).before args0 about1 = true := code_word (m := ⟨5, 7⟩) (meth := k5m7) (c := k5c7) (by decide +kernel) rfl rfl rfl (by decide +kernel)
set_option maxRecDepth 65536 in
theorem w_c20 : (Jvm.Cond.code ({ cls := "java/lang/AbstractStringBuilder", name := "isLatin1", desc := "()Z" } : Jvm.MethodName) jdk_68_method_68_code (1 : Nat) (Option.some Jvm.ClassFile.FieldType.boolean)).before args0 about1 = true := code_word (m := ⟨5, 11⟩) (meth := k5m11) (c := k5c11) (by decide +kernel) rfl rfl rfl (by decide +kernel)
set_option maxRecDepth 65536 in
theorem w_c21 : (Jvm.Cond.code ({ cls := "com/example/cloudgavel/cloudgavel/cli/Report", name := "lines", desc := "(Lcom/example/cloudgavel/cloudgavel/cli/Report;)Lcom/example/cloudgavel/cloudgavel/cli/Report;" } : Jvm.MethodName) prog_5_method_7_code (2 : Nat) (Option.some (Jvm.ClassFile.FieldType.object "com/example/cloudgavel/cloudgavel/cli/Report"))).before args0 about1 = true := code_word (m := ⟨2, 2⟩) (meth := k2m2) (c := k2c2) (by decide +kernel) rfl rfl rfl (by decide +kernel)
set_option maxRecDepth 65536 in
theorem w_c22 : (Jvm.Cond.code ({ cls := "java/lang/StringBuilder", name := "append", desc := "(Ljava/lang/CharSequence;)Ljava/lang/StringBuilder;" } : Jvm.MethodName) jdk_67_method_9_code (2 : Nat) (Option.some (Jvm.ClassFile.FieldType.object "java/lang/StringBuilder"))).before args0 about1 = true := code_word (m := ⟨8, 2⟩) (meth := k8m2) (c := k8c2) (by decide +kernel) rfl rfl rfl (by decide +kernel)
set_option maxRecDepth 65536 in
theorem w_c23 : (Jvm.Cond.code ({ cls := "java/lang/AbstractStringBuilder", name := "append", desc := "(Ljava/lang/CharSequence;)Ljava/lang/AbstractStringBuilder;" } : Jvm.MethodName) jdk_68_method_25_code (2 : Nat) (Option.some (Jvm.ClassFile.FieldType.object "java/lang/AbstractStringBuilder"))).before args0 about1 = true := code_word (m := ⟨5, 6⟩) (meth := k5m6) (c := k5c6) (by decide +kernel) rfl rfl rfl (by decide +kernel)
set_option maxRecDepth 65536 in
theorem w_c24 : (Jvm.Cond.code ({ cls := "java/lang/AbstractStringBuilder", name := "append", desc := "(Ljava/lang/AbstractStringBuilder;)Ljava/lang/AbstractStringBuilder;" } : Jvm.MethodName) jdk_68_method_24_code (3 : Nat) (Option.some (Jvm.ClassFile.FieldType.object "java/lang/AbstractStringBuilder"))).before args0 about1 = true := code_word (m := ⟨5, 5⟩) (meth := k5m5) (c := k5c5) (by decide +kernel) rfl rfl rfl (by decide +kernel)
set_option maxRecDepth 65536 in
theorem w_c25 : (Jvm.Cond.code ({ cls := "java/lang/StringBuilder", name := "length", desc := "()I" } : Jvm.MethodName) jdk_67_method_93_code (1 : Nat) (Option.some Jvm.ClassFile.FieldType.int)).before args0 about1 = true := code_word (m := ⟨8, 5⟩) (meth := k8m5) (c := k8c5) (by decide +kernel) rfl rfl rfl (by decide +kernel)
set_option maxRecDepth 65536 in
theorem w_c26 : (Jvm.Cond.code ({ cls := "java/lang/AbstractStringBuilder", name := "length", desc := "()I" } : Jvm.MethodName) jdk_68_method_6_code (1 : Nat) (Option.some Jvm.ClassFile.FieldType.int)).before args0 about1 = true := code_word (m := ⟨5, 2⟩) (meth := k5m2) (c := k5c2) (by decide +kernel) rfl rfl rfl (by decide +kernel)
set_option maxRecDepth 65536 in
theorem w_c27 : (Jvm.Cond.code ({ cls := "java/lang/AbstractStringBuilder", name := "inflateIfNeededFor", desc := "(Ljava/lang/AbstractStringBuilder;)V" } : Jvm.MethodName) jdk_68_method_72_code (2 : Nat) (Option.none : Option Jvm.ClassFile.FieldType)).before args0 about1 = true := code_word (m := ⟨5, 13⟩) (meth := k5m13) (c := k5c13) (by decide +kernel) rfl rfl rfl (by decide +kernel)
set_option maxRecDepth 65536 in
theorem w_c28 : (Jvm.Cond.code ({ cls := "java/lang/AbstractStringBuilder", name := "getCoder", desc := "()B" } : Jvm.MethodName) jdk_68_method_67_code (1 : Nat) (Option.some Jvm.ClassFile.FieldType.byte)).before args0 about1 = true := code_word (m := ⟨5, 10⟩) (meth := k5m10) (c := k5c10) (by decide +kernel) rfl rfl rfl (by decide +kernel)
set_option maxRecDepth 65536 in
theorem w_c29 : (Jvm.Cond.code ({ cls := "java/lang/AbstractStringBuilder", name := "getBytes", desc := "([BIB)V" } : Jvm.MethodName) jdk_68_method_65_code (4 : Nat) (Option.none : Option Jvm.ClassFile.FieldType)).before args0 about1 = true := code_word (m := ⟨5, 9⟩) (meth := k5m9) (c := k5c9) (by decide +kernel) rfl rfl rfl (by decide +kernel)
set_option maxRecDepth 65536 in
theorem w_c30 : (Jvm.Cond.code ({ cls := "com/example/cloudgavel/cloudgavel/cli/Report", name := "toString", desc := "()Ljava/lang/String;" } : Jvm.MethodName) prog_5_method_8_code (1 : Nat) (Option.some (Jvm.ClassFile.FieldType.object "java/lang/String"))).before args0 about1 = true := code_word (m := ⟨2, 3⟩) (meth := k2m3) (c := k2c3) (by decide +kernel) rfl rfl rfl (by decide +kernel)
set_option maxRecDepth 65536 in
theorem w_c31 : (Jvm.Cond.code ({ cls := "java/lang/StringBuilder", name := "toString", desc := "()Ljava/lang/String;" } : Jvm.MethodName) jdk_67_method_42_code (1 : Nat) (Option.some (Jvm.ClassFile.FieldType.object "java/lang/String"))).before args0 about1 = true := code_word (m := ⟨8, 4⟩) (meth := k8m4) (c := k8c4) (by decide +kernel) rfl rfl rfl (by decide +kernel)
set_option maxRecDepth 65536 in
theorem w_c32 : (Jvm.Cond.code ({ cls := "java/lang/String", name := "<init>", desc := "(Ljava/lang/StringBuilder;)V" } : Jvm.MethodName) jdk_42_method_53_code (2 : Nat) (Option.none : Option Jvm.ClassFile.FieldType)).before args0 about1 = true := code_word (m := ⟨11, 1⟩) (meth := k11m1) (c := k11c1) (by decide +kernel) rfl rfl rfl (by decide +kernel)
set_option maxRecDepth 65536 in
theorem w_c33 : (Jvm.Cond.code ({ cls := "java/lang/String", name := "<init>", desc := "(Ljava/lang/AbstractStringBuilder;Ljava/lang/Void;)V" } : Jvm.MethodName) jdk_42_method_150_code (5 : Nat) (Option.none : Option Jvm.ClassFile.FieldType)).before args0 about1 = true := code_word (m := ⟨11, 6⟩) (meth := k11m6) (c := k11c6) (by decide +kernel) rfl rfl rfl (by decide +kernel)
set_option maxRecDepth 65536 in
theorem w_c34 : (Jvm.Cond.code ({ cls := "java/lang/AbstractStringBuilder", name := "getValue", desc := "()[B" } : Jvm.MethodName) jdk_68_method_64_code (1 : Nat) (Option.some (Jvm.ClassFile.FieldType.array Jvm.ClassFile.FieldType.byte))).before args0 about1 = true := code_word (m := ⟨5, 8⟩) (meth := k5m8) (c := k5c8) (by decide +kernel) rfl rfl rfl (by decide +kernel)
set_option maxRecDepth 65536 in
theorem w_c35 : (Jvm.Cond.code ({ cls := "java/util/Arrays", name := "copyOfRange", desc := "([BII)[B" } : Jvm.MethodName) jdk_65_method_132_code (3 : Nat) (Option.some (Jvm.ClassFile.FieldType.array Jvm.ClassFile.FieldType.byte))).before args0 about1 = true := code_word (m := ⟨14, 2⟩) (meth := k14m2) (c := k14c2) (by decide +kernel) rfl rfl rfl (by decide +kernel)
set_option maxRecDepth 65536 in
theorem w_c36 : (Jvm.Cond.code ({ cls := "java/util/Arrays", name := "copyOfRangeByte", desc := "([BII)[B" } : Jvm.MethodName) jdk_65_method_133_code (5 : Nat) (Option.some (Jvm.ClassFile.FieldType.array Jvm.ClassFile.FieldType.byte))).before args0 about1 = true := code_word (m := ⟨14, 3⟩) (meth := k14m3) (c := k14c3) (by decide +kernel) rfl rfl rfl (by decide +kernel)
set_option maxRecDepth 65536 in
theorem w_c37 : (Jvm.Cond.code ({ cls := "java/util/Arrays", name := "checkLength", desc := "(II)V" } : Jvm.MethodName) jdk_65_method_131_code (2 : Nat) (Option.none : Option Jvm.ClassFile.FieldType)).before args0 about1 = true := code_word (m := ⟨14, 1⟩) (meth := k14m1) (c := k14c1) (by decide +kernel) rfl rfl rfl (by decide +kernel)
set_option maxRecDepth 65536 in
theorem w_c38 : (Jvm.Cond.code ({ cls := "java/lang/Math", name := "min", desc := "(II)I" } : Jvm.MethodName) jdk_29_method_69_code (2 : Nat) (Option.some Jvm.ClassFile.FieldType.int)).before args0 about1 = true := code_word (m := ⟨15, 1⟩) (meth := k15m1) (c := k15c1) (by decide +kernel) rfl rfl rfl (by decide +kernel)
set_option maxRecDepth 65536 in
theorem w_c39 : (Jvm.Cond.code ({ cls := "com/example/cloudgavel/cloudgavel/cli/ReportLinesPinLaw", name := "same", desc := "(Ljava/lang/String;[CI)Z" } : Jvm.MethodName) method_3_code (4 : Nat) (Option.some Jvm.ClassFile.FieldType.boolean)).before args0 about1 = true := code_word (m := ⟨1, 2⟩) (meth := k1m2) (c := k1c2) (by decide +kernel) rfl rfl rfl (by decide +kernel)
set_option maxRecDepth 65536 in
theorem w_c40 : (Jvm.Cond.code ({ cls := "java/lang/String", name := "charAt", desc := "(I)C" } : Jvm.MethodName) jdk_42_method_56_code (2 : Nat) (Option.some Jvm.ClassFile.FieldType.char)).before args0 about1 = true := code_word (m := ⟨11, 3⟩) (meth := k11m3) (c := k11c3) (by decide +kernel) rfl rfl rfl (by decide +kernel)
set_option maxRecDepth 65536 in
theorem w_c41 : (Jvm.Cond.code ({ cls := "java/lang/String", name := "isLatin1", desc := "()Z" } : Jvm.MethodName) jdk_42_method_154_code (1 : Nat) (Option.some Jvm.ClassFile.FieldType.boolean)).before args0 about1 = true := code_word (m := ⟨11, 9⟩) (meth := k11m9) (c := k11c9) (by decide +kernel) rfl rfl rfl (by decide +kernel)
set_option maxRecDepth 65536 in
theorem w_c42 : (Jvm.Cond.code ({ cls := "java/lang/StringLatin1", name := "charAt", desc := "([BI)C" } : Jvm.MethodName) jdk_43_method_2_code (2 : Nat) (Option.some Jvm.ClassFile.FieldType.char)).before args0 about1 = true := code_word (m := ⟨12, 1⟩) (meth := k12m1) (c := k12c1) (by decide +kernel) rfl rfl rfl (by decide +kernel)
set_option maxRecDepth 65536 in
theorem w_c43 : (Jvm.Cond.code ({ cls := "java/lang/String", name := "checkIndex", desc := "(II)V" } : Jvm.MethodName) jdk_42_method_155_code (2 : Nat) (Option.none : Option Jvm.ClassFile.FieldType)).before args0 about1 = true := code_word (m := ⟨11, 10⟩) (meth := k11m10) (c := k11c10) (by decide +kernel) rfl rfl rfl (by decide +kernel)
set_option maxRecDepth 65536 in
theorem w_c44 : (Jvm.Cond.code ({ cls := "jdk/internal/util/Preconditions", name := "checkIndex", desc := "(IILjava/util/function/BiFunction;)I" } : Jvm.MethodName) jdk_41_method_11_code (3 : Nat) (Option.some Jvm.ClassFile.FieldType.int)).before args0 about1 = true := code_word (m := ⟨16, 1⟩) (meth := k16m1) (c := k16c1) (by decide +kernel) rfl rfl rfl (by decide +kernel)
def codes1 : List Jvm.Cond := [Jvm.Cond.code x code maxLocals ret, Jvm.Cond.code ({ cls := "com/example/cloudgavel/cloudgavel/cli/Report", name := "<init>", desc := "()V" } : Jvm.MethodName) prog_5_method_1_code (1 : Nat) (Option.none : Option Jvm.ClassFile.FieldType), Jvm.Cond.code ({ cls := "java/lang/Object", name := "<init>", desc := "()V" } : Jvm.MethodName) object_method_1_code (1 : Nat) (Option.none : Option Jvm.ClassFile.FieldType), Jvm.Cond.code ({ cls := "java/lang/StringBuilder", name := "<init>", desc := "()V" } : Jvm.MethodName) jdk_67_method_1_code (1 : Nat) (Option.none : Option Jvm.ClassFile.FieldType), Jvm.Cond.code ({ cls := "java/lang/AbstractStringBuilder", name := "<init>", desc := "(I)V" } : Jvm.MethodName) jdk_68_method_2_code (2 : Nat) (Option.none : Option Jvm.ClassFile.FieldType), Jvm.Cond.code ({ cls := "java/lang/String", name := "valueOf", desc := "(C)Ljava/lang/String;" } : Jvm.MethodName) jdk_42_method_139_code (1 : Nat) (Option.some (Jvm.ClassFile.FieldType.object "java/lang/String")), Jvm.Cond.code ({ cls := "java/lang/StringLatin1", name := "canEncode", desc := "(C)Z" } : Jvm.MethodName) jdk_43_method_3_code (1 : Nat) (Option.some Jvm.ClassFile.FieldType.boolean), Jvm.Cond.code ({ cls := "java/lang/StringLatin1", name := "toBytes", desc := "(C)[B" } : Jvm.MethodName) jdk_43_method_46_code (1 : Nat) (Option.some (Jvm.ClassFile.FieldType.array Jvm.ClassFile.FieldType.byte)), Jvm.Cond.code ({ cls := "java/lang/String", name := "<init>", desc := "([BB)V" } : Jvm.MethodName) jdk_42_method_151_code (3 : Nat) (Option.none : Option Jvm.ClassFile.FieldType), Jvm.Cond.code ({ cls := "com/example/cloudgavel/cloudgavel/cli/Report", name := "text", desc := "(Ljava/lang/String;Ljava/lang/String;)Lcom/example/cloudgavel/cloudgavel/cli/Report;" } : Jvm.MethodName) prog_5_method_2_code (3 : Nat) (Option.some (Jvm.ClassFile.FieldType.object "com/example/cloudgavel/cloudgavel/cli/Report")), Jvm.Cond.code ({ cls := "java/lang/StringBuilder", name := "append", desc := "(Ljava/lang/String;)Ljava/lang/StringBuilder;" } : Jvm.MethodName) jdk_67_method_7_code (2 : Nat) (Option.some (Jvm.ClassFile.FieldType.object "java/lang/StringBuilder")), Jvm.Cond.code ({ cls := "java/lang/AbstractStringBuilder", name := "append", desc := "(Ljava/lang/String;)Ljava/lang/AbstractStringBuilder;" } : Jvm.MethodName) jdk_68_method_22_code (3 : Nat) (Option.some (Jvm.ClassFile.FieldType.object "java/lang/AbstractStringBuilder")), Jvm.Cond.code ({ cls := "java/lang/String", name := "length", desc := "()I" } : Jvm.MethodName) jdk_42_method_54_code (1 : Nat) (Option.some Jvm.ClassFile.FieldType.int), Jvm.Cond.code ({ cls := "java/lang/String", name := "coder", desc := "()B" } : Jvm.MethodName) jdk_42_method_152_code (1 : Nat) (Option.some Jvm.ClassFile.FieldType.byte), Jvm.Cond.code ({ cls := "java/lang/AbstractStringBuilder", name := "ensureCapacityInternal", desc := "(I)V" } : Jvm.MethodName) jdk_68_method_9_code (3 : Nat) (Option.none : Option Jvm.ClassFile.FieldType), Jvm.Cond.code ({ cls := "java/lang/AbstractStringBuilder", name := "putStringAt", desc := "(ILjava/lang/String;)V" } : Jvm.MethodName) jdk_68_method_73_code (3 : Nat) (Option.none : Option Jvm.ClassFile.FieldType), Jvm.Cond.code ({ cls := "java/lang/AbstractStringBuilder", name := "inflateIfNeededFor", desc := "(Ljava/lang/String;)V" } : Jvm.MethodName) jdk_68_method_71_code (2 : Nat) (Option.none : Option Jvm.ClassFile.FieldType), Jvm.Cond.code ({ cls := "java/lang/String", name := "getBytes", desc := "([BIB)V" } : Jvm.MethodName) jdk_42_method_147_code (4 : Nat) (Option.none : Option Jvm.ClassFile.FieldType), Jvm.Cond.code ({ cls := "java/lang/StringBuilder", name := "append", desc := "(C)Ljava/lang/StringBuilder;" } : Jvm.MethodName) jdk_67_method_14_code (2 : Nat) (Option.some (Jvm.ClassFile.FieldType.object "java/lang/StringBuilder")), Jvm.Cond.code ({ cls := "java/lang/AbstractStringBuilder", name := "append", desc := "(C)Ljava/lang/AbstractStringBuilder;" } : Jvm.MethodName) jdk_68_method_31_code (2 : Nat) (Option.some (Jvm.ClassFile.FieldType.object "java/lang/AbstractStringBuilder")), Jvm.Cond.code ({ cls := "java/lang/AbstractStringBuilder", name := "isLatin1", desc := "()Z" } : Jvm.MethodName) jdk_68_method_68_code (1 : Nat) (Option.some Jvm.ClassFile.FieldType.boolean), Jvm.Cond.code ({ cls := "com/example/cloudgavel/cloudgavel/cli/Report", name := "lines", desc := "(Lcom/example/cloudgavel/cloudgavel/cli/Report;)Lcom/example/cloudgavel/cloudgavel/cli/Report;" } : Jvm.MethodName) prog_5_method_7_code (2 : Nat) (Option.some (Jvm.ClassFile.FieldType.object "com/example/cloudgavel/cloudgavel/cli/Report")), Jvm.Cond.code ({ cls := "java/lang/StringBuilder", name := "append", desc := "(Ljava/lang/CharSequence;)Ljava/lang/StringBuilder;" } : Jvm.MethodName) jdk_67_method_9_code (2 : Nat) (Option.some (Jvm.ClassFile.FieldType.object "java/lang/StringBuilder")), Jvm.Cond.code ({ cls := "java/lang/AbstractStringBuilder", name := "append", desc := "(Ljava/lang/CharSequence;)Ljava/lang/AbstractStringBuilder;" } : Jvm.MethodName) jdk_68_method_25_code (2 : Nat) (Option.some (Jvm.ClassFile.FieldType.object "java/lang/AbstractStringBuilder")), Jvm.Cond.code ({ cls := "java/lang/AbstractStringBuilder", name := "append", desc := "(Ljava/lang/AbstractStringBuilder;)Ljava/lang/AbstractStringBuilder;" } : Jvm.MethodName) jdk_68_method_24_code (3 : Nat) (Option.some (Jvm.ClassFile.FieldType.object "java/lang/AbstractStringBuilder")), Jvm.Cond.code ({ cls := "java/lang/StringBuilder", name := "length", desc := "()I" } : Jvm.MethodName) jdk_67_method_93_code (1 : Nat) (Option.some Jvm.ClassFile.FieldType.int), Jvm.Cond.code ({ cls := "java/lang/AbstractStringBuilder", name := "length", desc := "()I" } : Jvm.MethodName) jdk_68_method_6_code (1 : Nat) (Option.some Jvm.ClassFile.FieldType.int), Jvm.Cond.code ({ cls := "java/lang/AbstractStringBuilder", name := "inflateIfNeededFor", desc := "(Ljava/lang/AbstractStringBuilder;)V" } : Jvm.MethodName) jdk_68_method_72_code (2 : Nat) (Option.none : Option Jvm.ClassFile.FieldType), Jvm.Cond.code ({ cls := "java/lang/AbstractStringBuilder", name := "getCoder", desc := "()B" } : Jvm.MethodName) jdk_68_method_67_code (1 : Nat) (Option.some Jvm.ClassFile.FieldType.byte), Jvm.Cond.code ({ cls := "java/lang/AbstractStringBuilder", name := "getBytes", desc := "([BIB)V" } : Jvm.MethodName) jdk_68_method_65_code (4 : Nat) (Option.none : Option Jvm.ClassFile.FieldType), Jvm.Cond.code ({ cls := "com/example/cloudgavel/cloudgavel/cli/Report", name := "toString", desc := "()Ljava/lang/String;" } : Jvm.MethodName) prog_5_method_8_code (1 : Nat) (Option.some (Jvm.ClassFile.FieldType.object "java/lang/String")), Jvm.Cond.code ({ cls := "java/lang/StringBuilder", name := "toString", desc := "()Ljava/lang/String;" } : Jvm.MethodName) jdk_67_method_42_code (1 : Nat) (Option.some (Jvm.ClassFile.FieldType.object "java/lang/String")), Jvm.Cond.code ({ cls := "java/lang/String", name := "<init>", desc := "(Ljava/lang/StringBuilder;)V" } : Jvm.MethodName) jdk_42_method_53_code (2 : Nat) (Option.none : Option Jvm.ClassFile.FieldType), Jvm.Cond.code ({ cls := "java/lang/String", name := "<init>", desc := "(Ljava/lang/AbstractStringBuilder;Ljava/lang/Void;)V" } : Jvm.MethodName) jdk_42_method_150_code (5 : Nat) (Option.none : Option Jvm.ClassFile.FieldType), Jvm.Cond.code ({ cls := "java/lang/AbstractStringBuilder", name := "getValue", desc := "()[B" } : Jvm.MethodName) jdk_68_method_64_code (1 : Nat) (Option.some (Jvm.ClassFile.FieldType.array Jvm.ClassFile.FieldType.byte)), Jvm.Cond.code ({ cls := "java/util/Arrays", name := "copyOfRange", desc := "([BII)[B" } : Jvm.MethodName) jdk_65_method_132_code (3 : Nat) (Option.some (Jvm.ClassFile.FieldType.array Jvm.ClassFile.FieldType.byte)), Jvm.Cond.code ({ cls := "java/util/Arrays", name := "copyOfRangeByte", desc := "([BII)[B" } : Jvm.MethodName) jdk_65_method_133_code (5 : Nat) (Option.some (Jvm.ClassFile.FieldType.array Jvm.ClassFile.FieldType.byte)), Jvm.Cond.code ({ cls := "java/util/Arrays", name := "checkLength", desc := "(II)V" } : Jvm.MethodName) jdk_65_method_131_code (2 : Nat) (Option.none : Option Jvm.ClassFile.FieldType), Jvm.Cond.code ({ cls := "java/lang/Math", name := "min", desc := "(II)I" } : Jvm.MethodName) jdk_29_method_69_code (2 : Nat) (Option.some Jvm.ClassFile.FieldType.int), Jvm.Cond.code ({ cls := "com/example/cloudgavel/cloudgavel/cli/ReportLinesPinLaw", name := "same", desc := "(Ljava/lang/String;[CI)Z" } : Jvm.MethodName) method_3_code (4 : Nat) (Option.some Jvm.ClassFile.FieldType.boolean), Jvm.Cond.code ({ cls := "java/lang/String", name := "charAt", desc := "(I)C" } : Jvm.MethodName) jdk_42_method_56_code (2 : Nat) (Option.some Jvm.ClassFile.FieldType.char), Jvm.Cond.code ({ cls := "java/lang/String", name := "isLatin1", desc := "()Z" } : Jvm.MethodName) jdk_42_method_154_code (1 : Nat) (Option.some Jvm.ClassFile.FieldType.boolean), Jvm.Cond.code ({ cls := "java/lang/StringLatin1", name := "charAt", desc := "([BI)C" } : Jvm.MethodName) jdk_43_method_2_code (2 : Nat) (Option.some Jvm.ClassFile.FieldType.char), Jvm.Cond.code ({ cls := "java/lang/String", name := "checkIndex", desc := "(II)V" } : Jvm.MethodName) jdk_42_method_155_code (2 : Nat) (Option.none : Option Jvm.ClassFile.FieldType), Jvm.Cond.code ({ cls := "jdk/internal/util/Preconditions", name := "checkIndex", desc := "(IILjava/util/function/BiFunction;)I" } : Jvm.MethodName) jdk_41_method_11_code (3 : Nat) (Option.some Jvm.ClassFile.FieldType.int)]
set_option maxRecDepth 65536 in
theorem codes_eq : words1.filter isCode = codes1 := rfl
theorem w_codes : ∀ c ∈ words1.filter isCode, c.before args0 about1 = true := by
  rw [codes_eq]
  intro c hc
  simp only [codes1, List.mem_cons, List.not_mem_nil, or_false] at hc
  rcases hc with rfl | rfl | rfl | rfl | rfl | rfl | rfl | rfl | rfl | rfl | rfl | rfl | rfl | rfl | rfl | rfl | rfl | rfl | rfl | rfl | rfl | rfl | rfl | rfl | rfl | rfl | rfl | rfl | rfl | rfl | rfl | rfl | rfl | rfl | rfl | rfl | rfl | rfl | rfl | rfl | rfl | rfl | rfl | rfl | rfl
  · exact w_c0
  · exact w_c1
  · exact w_c2
  · exact w_c3
  · exact w_c4
  · exact w_c5
  · exact w_c6
  · exact w_c7
  · exact w_c8
  · exact w_c9
  · exact w_c10
  · exact w_c11
  · exact w_c12
  · exact w_c13
  · exact w_c14
  · exact w_c15
  · exact w_c16
  · exact w_c17
  · exact w_c18
  · exact w_c19
  · exact w_c20
  · exact w_c21
  · exact w_c22
  · exact w_c23
  · exact w_c24
  · exact w_c25
  · exact w_c26
  · exact w_c27
  · exact w_c28
  · exact w_c29
  · exact w_c30
  · exact w_c31
  · exact w_c32
  · exact w_c33
  · exact w_c34
  · exact w_c35
  · exact w_c36
  · exact w_c37
  · exact w_c38
  · exact w_c39
  · exact w_c40
  · exact w_c41
  · exact w_c42
  · exact w_c43
  · exact w_c44
set_option maxRecDepth 65536 in
theorem w_t1 : (words1.take 24).all (fun c => isCode c || c.before args0 about1) = true := by decide +kernel
set_option maxRecDepth 65536 in
theorem w_t2 : ((words1.drop 24).take 24).all (fun c => isCode c || c.before args0 about1) = true := by decide +kernel
set_option maxRecDepth 65536 in
theorem w_t3 : (((words1.drop 24).drop 24).take 24).all (fun c => isCode c || c.before args0 about1) = true := by decide +kernel
set_option maxRecDepth 65536 in
theorem w_t4 : ((((words1.drop 24).drop 24).drop 24).take 24).all (fun c => isCode c || c.before args0 about1) = true := by decide +kernel
set_option maxRecDepth 65536 in
theorem w_t5 : (((((words1.drop 24).drop 24).drop 24).drop 24).take 24).all (fun c => isCode c || c.before args0 about1) = true := by decide +kernel
set_option maxRecDepth 65536 in
theorem w_t6 : ((((((words1.drop 24).drop 24).drop 24).drop 24).drop 24).take 24).all (fun c => isCode c || c.before args0 about1) = true := by decide +kernel
set_option maxRecDepth 65536 in
theorem w_t7 : (((((((words1.drop 24).drop 24).drop 24).drop 24).drop 24).drop 24).take 24).all (fun c => isCode c || c.before args0 about1) = true := by decide +kernel
set_option maxRecDepth 65536 in
theorem w_t8 : ((((((((words1.drop 24).drop 24).drop 24).drop 24).drop 24).drop 24).drop 24).take 24).all (fun c => isCode c || c.before args0 about1) = true := by decide +kernel
set_option maxRecDepth 65536 in
theorem w_t9 : (((((((((words1.drop 24).drop 24).drop 24).drop 24).drop 24).drop 24).drop 24).drop 24).take 24).all (fun c => isCode c || c.before args0 about1) = true := by decide +kernel
set_option maxRecDepth 65536 in
theorem w_t10 : (((((((((words1.drop 24).drop 24).drop 24).drop 24).drop 24).drop 24).drop 24).drop 24).drop 24).all (fun c => isCode c || c.before args0 about1) = true := by decide +kernel
theorem w_tables : (allAtoms (Jvm.Cond.code x code maxLocals ret :: tables_1)).before args0 about1 = true := by
  rw [allAtoms_all]
  show words1.all (fun c => c.before args0 about1) = true
  refine all_split ?_ w_codes
  rw [← List.take_append_drop 24 words1, List.all_append, w_t1, ← List.take_append_drop 24 (words1.drop 24), List.all_append, w_t2, ← List.take_append_drop 24 ((words1.drop 24).drop 24), List.all_append, w_t3, ← List.take_append_drop 24 (((words1.drop 24).drop 24).drop 24), List.all_append, w_t4, ← List.take_append_drop 24 ((((words1.drop 24).drop 24).drop 24).drop 24), List.all_append, w_t5, ← List.take_append_drop 24 (((((words1.drop 24).drop 24).drop 24).drop 24).drop 24), List.all_append, w_t6, ← List.take_append_drop 24 ((((((words1.drop 24).drop 24).drop 24).drop 24).drop 24).drop 24), List.all_append, w_t7, ← List.take_append_drop 24 (((((((words1.drop 24).drop 24).drop 24).drop 24).drop 24).drop 24).drop 24), List.all_append, w_t8, ← List.take_append_drop 24 ((((((((words1.drop 24).drop 24).drop 24).drop 24).drop 24).drop 24).drop 24).drop 24), List.all_append, w_t9, w_t10]
  rfl
set_option maxRecDepth 65536 in
theorem w_rest : rest_1_c.before args0 about1 = true := by decide +kernel
set_option maxRecDepth 65536 in
theorem w_case : (Jvm.Cond.and given_1 narrow_1).before args0 about1 = true := by decide +kernel
theorem w_applies : (headSpec (Jvm.Cond.code x code maxLocals ret :: tables_1) room_1).applies x e0.platform about1 = true :=
  (Spec.applies_iff w_frames).mpr ⟨w_running, w_runnable, w_alone, w_named, w_hears, w_ripe, w_room, w_tables⟩
theorem atStart : AtStart classFile x code maxLocals ret World_1 tables_1 room_1 Calls_1 rest_1 Pre_1 launch0 p0 e0 about1 theMethod args0 below0 :=
  ⟨lists_1, trivial, launch0.admits_env _ _ _, launch0.least_env, fairChoices_fair.cas, fairChoices_fair.clock, w_frames, w_args, w_heap, w_applies, trivial, w_rest, w_case⟩
end start1
theorem witness_1 : WitnessClaimed_1 := ⟨start1.p0, start1.e0, start1.about1, start1.theMethod, start1.args0, start1.below0, start1.atStart⟩
end Jvm.Pilot.@@N@@

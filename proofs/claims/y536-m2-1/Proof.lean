import JvmDerived
import JvmDerived.Pilot.@@N@@Statement
import JvmDerived.Pilot.@@N@@Code
set_option linter.unusedVariables false
set_option linter.unusedSimpArgs false
namespace Jvm.OwnG
open Sem ClassFile Op Lib Jvm.Stand Jvm.Free Jvm.LawKit Jvm.RoadKit
/-- from here the run comes to an end at which P holds -/
def Gd (p : Program) (e : Env) (below : List Frame) (P : State → Prop) (T : State) (g : JFrame) : Prop := ∃ t, Steps p.tables e below (T.setTop g) t ∧ P t
/-- an instruction of the code, and the pc behind it -/
def Ins1 (code : ByteArray) (pc : Nat) (i : Instr) (n pn : Nat) : Prop := decode code pc = .ok (i, n) ∧ pc + n = pn
/-- a branch: the pc behind it, the pc it goes to -/
def InsB (code : ByteArray) (pc : Nat) (i : Instr) (o : Int) (pn pt : Nat) : Prop := decode code pc = .ok (i, 3) ∧ pc + 3 = pn ∧ 0 ≤ (pc : Int) + o ∧ ((pc : Int) + o).toNat = pt
/-- what the end of a walk says -/
def Fin1 (s : State) (below : List Frame) (cells slots : Nat) (Q : Option Value → Heap → List Loc → Prop) (t : State) : Prop := ∃ o, t.status = .running ∧ Ended t below o ∧ ∃ v L, o = .returned v ∧ Q v t.heap L ∧ FrameEnd s o t L cells slots
/-- a method's contract at the arguments as', the heap h -/
def Met1 (l : Launch) (y : MethodName) (bytes : ByteArray) (maxL : Nat) (ret : Option FieldType) (ws : List Jvm.Cond) (rm : Room) (as' : Array Value) (Z : State) (h : Heap) (Q : Option Value → Heap → List Loc → Prop) : Prop :=
  MetFree l y (head1 (Jvm.Cond.code y bytes maxL ret :: ws) rm) (fun a U => a = as' ∧ Z.Warmed39 U.vm ∧ U.heap = h) (fun _ _ _ _ _ => True) (fun _ U o U' => ∃ v L, o = .returned v ∧ Q v U'.heap L ∧ FrameEnd U o U' L rm.cells rm.slots)
def RV (Q : Value → Heap → List Loc → Prop) (v : Option Value) (h : Heap) (L : List Loc) : Prop := ∃ z, v = some z ∧ Q z h L
def RN (Q : Heap → List Loc → Prop) (v : Option Value) (h : Heap) (L : List Loc) : Prop := v = none ∧ Q h L
section K
variable {p : Program} {l : Launch} {e : Env} {R : Room} {s : State} {m : MethodId} {args : Array Value} {below : List Frame} {meth : Method} {c : Code} {T : State} {locs : List Loc} {cells slots : Nat} {Z : State} {a0 : Array Value} {h : Heap} {P : State → Prop} {code : ByteArray} {pc pn pt : Nat} {Ls : Array Slot} {st : List Value}
theorem Gd.of {T' : State} {g g' : JFrame} (k : ∀ t, Steps p.tables e below (T'.setTop g') t → Steps p.tables e below (T.setTop g) t) (q : Gd p e below P T' g') : Gd p e below P T g := q.imp fun t r => ⟨k t r.1, r.2⟩
theorem Gd.cast {g g' : JFrame} (q : g = g') (k : Gd p e below P T g') : Gd p e below P T g := q ▸ k
theorem met_of {y : MethodName} {maxL : Nat} {ret : Option FieldType} {ws : List Jvm.Cond} {rm : Room} {as' : Array Value} {Q : Option Value → Heap → List Loc → Prop} (hp : plainFor y = true)
    (body : ∀ (p : Program) (e : Env) (s : State) (m : MethodId) (below : List Frame) (meth : Method) (c : Code) (T : State), Stand p l e rm s m as' below meth c T [] 0 0 → p.tables.exec = Jvm.exec → c.code = code → c.maxLocals = maxL → Z.Warmed39 s.vm → s.vm.findClass y.cls = some m.cls → meth.name = y.name → meth.sig.returnType = ret → meth.locks = false → T.heap = h → s.heap = h →
      Gd p e below (Fin1 s below rm.cells rm.slots Q) T (entryFrame m as' maxL)) : Met1 l y code maxL ret ws rm as' Z h Q := by
  refine MetFree.of_bodySF hp hisR ?_
  intro p e s m args below meth c s₁ Bd hml0 hP hK
  obtain ⟨rfl, hZ, hh⟩ := hP
  obtain ⟨t, h1, o, h2, h3, h4⟩ := body p e s m below meth c s₁ (Stand.of_body Bd) Bd.exec Bd.bytes hml0 hZ (findClass_of_methodNamed Bd.named) (name_of_methodNamed Bd.named Bd.method).1 Bd.returns Bd.notSynchronized (by rw [← hh, Bd.state]; rfl) hh
  exact ⟨t, o, h1, h2, h3, h4⟩
theorem g_iloadN (X : Stand p l e R s m args below meth c T locs cells slots) (hx : p.tables.exec = Jvm.exec) (hby : c.code = code) {k : Fin 4} {v : Int32} (hd : Ins1 code pc (.iload_n k) 1 pn) (hl : Ls[k.val]? = some (.val (.int v))) (k : Gd p e below P T (mkF m pn Ls (.int v :: st))) : Gd p e below P T (mkF m pc Ls (st)) := by
  obtain ⟨hd, rfl⟩ := hd
  exact k.imp fun t q => ⟨XS.iloadN X.here hx rfl (hb hby hd) hl q.1, q.2⟩
theorem g_iload (X : Stand p l e R s m args below meth c T locs cells slots) (hx : p.tables.exec = Jvm.exec) (hby : c.code = code) {k : Nat} {v : Int32} (hd : Ins1 code pc (.iload k) 2 pn) (hl : Ls[k]? = some (.val (.int v))) (k : Gd p e below P T (mkF m pn Ls (.int v :: st))) : Gd p e below P T (mkF m pc Ls (st)) := by
  obtain ⟨hd, rfl⟩ := hd
  exact k.imp fun t q => ⟨XS.iload X.here hx rfl (hb hby hd) hl q.1, q.2⟩
theorem g_istoreN (X : Stand p l e R s m args below meth c T locs cells slots) (hx : p.tables.exec = Jvm.exec) (hby : c.code = code) {k : Fin 4} {v : Int32} {l' : Array Slot} (hd : Ins1 code pc (.istore_n k) 1 pn) (hl : storeLocals Ls k.val (.int v) = some l') (k : Gd p e below P T (mkF m pn l' (st))) : Gd p e below P T (mkF m pc Ls (.int v :: st)) := by
  obtain ⟨hd, rfl⟩ := hd
  exact k.imp fun t q => ⟨XS.istoreN X.here hx rfl (hb hby hd) rfl hl q.1, q.2⟩
theorem g_istore (X : Stand p l e R s m args below meth c T locs cells slots) (hx : p.tables.exec = Jvm.exec) (hby : c.code = code) {k : Nat} {v : Int32} {l' : Array Slot} (hd : Ins1 code pc (.istore k) 2 pn) (hl : storeLocals Ls k (.int v) = some l') (k : Gd p e below P T (mkF m pn l' (st))) : Gd p e below P T (mkF m pc Ls (.int v :: st)) := by
  obtain ⟨hd, rfl⟩ := hd
  exact k.imp fun t q => ⟨XS.istore X.here hx rfl (hb hby hd) rfl hl q.1, q.2⟩
theorem g_lloadN (X : Stand p l e R s m args below meth c T locs cells slots) (hx : p.tables.exec = Jvm.exec) (hby : c.code = code) {k : Fin 4} {v : Int64} (hd : Ins1 code pc (.lload_n k) 1 pn) (hl : Ls[k.val]? = some (.val (.long v))) (k : Gd p e below P T (mkF m pn Ls (.long v :: st))) : Gd p e below P T (mkF m pc Ls (st)) := by
  obtain ⟨hd, rfl⟩ := hd
  exact k.imp fun t q => ⟨XS.lloadN X.here hx rfl (hb hby hd) hl q.1, q.2⟩
theorem g_lload (X : Stand p l e R s m args below meth c T locs cells slots) (hx : p.tables.exec = Jvm.exec) (hby : c.code = code) {k : Nat} {v : Int64} (hd : Ins1 code pc (.lload k) 2 pn) (hl : Ls[k]? = some (.val (.long v))) (k : Gd p e below P T (mkF m pn Ls (.long v :: st))) : Gd p e below P T (mkF m pc Ls (st)) := by
  obtain ⟨hd, rfl⟩ := hd
  exact k.imp fun t q => ⟨XS.lload X.here hx rfl (hb hby hd) hl q.1, q.2⟩
theorem g_lstoreN (X : Stand p l e R s m args below meth c T locs cells slots) (hx : p.tables.exec = Jvm.exec) (hby : c.code = code) {k : Fin 4} {v : Int64} {l' : Array Slot} (hd : Ins1 code pc (.lstore_n k) 1 pn) (hl : storeLocals Ls k.val (.long v) = some l') (k : Gd p e below P T (mkF m pn l' (st))) : Gd p e below P T (mkF m pc Ls (.long v :: st)) := by
  obtain ⟨hd, rfl⟩ := hd
  exact k.imp fun t q => ⟨XS.lstoreN X.here hx rfl (hb hby hd) rfl hl q.1, q.2⟩
theorem g_lstore (X : Stand p l e R s m args below meth c T locs cells slots) (hx : p.tables.exec = Jvm.exec) (hby : c.code = code) {k : Nat} {v : Int64} {l' : Array Slot} (hd : Ins1 code pc (.lstore k) 2 pn) (hl : storeLocals Ls k (.long v) = some l') (k : Gd p e below P T (mkF m pn l' (st))) : Gd p e below P T (mkF m pc Ls (.long v :: st)) := by
  obtain ⟨hd, rfl⟩ := hd
  exact k.imp fun t q => ⟨XS.lstore X.here hx rfl (hb hby hd) rfl hl q.1, q.2⟩
theorem g_dloadN (X : Stand p l e R s m args below meth c T locs cells slots) (hx : p.tables.exec = Jvm.exec) (hby : c.code = code) {k : Fin 4} {v : UInt64} (hd : Ins1 code pc (.dload_n k) 1 pn) (hl : Ls[k.val]? = some (.val (.double v))) (k : Gd p e below P T (mkF m pn Ls (.double v :: st))) : Gd p e below P T (mkF m pc Ls (st)) := by
  obtain ⟨hd, rfl⟩ := hd
  exact k.imp fun t q => ⟨XS.dloadN X.here hx rfl (hb hby hd) hl q.1, q.2⟩
theorem g_dload (X : Stand p l e R s m args below meth c T locs cells slots) (hx : p.tables.exec = Jvm.exec) (hby : c.code = code) {k : Nat} {v : UInt64} (hd : Ins1 code pc (.dload k) 2 pn) (hl : Ls[k]? = some (.val (.double v))) (k : Gd p e below P T (mkF m pn Ls (.double v :: st))) : Gd p e below P T (mkF m pc Ls (st)) := by
  obtain ⟨hd, rfl⟩ := hd
  exact k.imp fun t q => ⟨XS.dload X.here hx rfl (hb hby hd) hl q.1, q.2⟩
theorem g_dstoreN (X : Stand p l e R s m args below meth c T locs cells slots) (hx : p.tables.exec = Jvm.exec) (hby : c.code = code) {k : Fin 4} {v : UInt64} {l' : Array Slot} (hd : Ins1 code pc (.dstore_n k) 1 pn) (hl : storeLocals Ls k.val (.double v) = some l') (k : Gd p e below P T (mkF m pn l' (st))) : Gd p e below P T (mkF m pc Ls (.double v :: st)) := by
  obtain ⟨hd, rfl⟩ := hd
  exact k.imp fun t q => ⟨XS.dstoreN X.here hx rfl (hb hby hd) rfl hl q.1, q.2⟩
theorem g_dstore (X : Stand p l e R s m args below meth c T locs cells slots) (hx : p.tables.exec = Jvm.exec) (hby : c.code = code) {k : Nat} {v : UInt64} {l' : Array Slot} (hd : Ins1 code pc (.dstore k) 2 pn) (hl : storeLocals Ls k (.double v) = some l') (k : Gd p e below P T (mkF m pn l' (st))) : Gd p e below P T (mkF m pc Ls (.double v :: st)) := by
  obtain ⟨hd, rfl⟩ := hd
  exact k.imp fun t q => ⟨XS.dstore X.here hx rfl (hb hby hd) rfl hl q.1, q.2⟩
theorem g_aloadN (X : Stand p l e R s m args below meth c T locs cells slots) (hx : p.tables.exec = Jvm.exec) (hby : c.code = code) {k : Fin 4} {v : Value} (hd : Ins1 code pc (.aload_n k) 1 pn) (hl : Ls[k.val]? = some (.val v)) (hv : v.isRef = true) (k : Gd p e below P T (mkF m pn Ls (v :: st))) : Gd p e below P T (mkF m pc Ls (st)) := by
  obtain ⟨hd, rfl⟩ := hd
  exact k.imp fun t q => ⟨XS.aloadN X.here hx rfl (hb hby hd) hl hv q.1, q.2⟩
theorem g_aload (X : Stand p l e R s m args below meth c T locs cells slots) (hx : p.tables.exec = Jvm.exec) (hby : c.code = code) {k : Nat} {v : Value} (hd : Ins1 code pc (.aload k) 2 pn) (hl : Ls[k]? = some (.val v)) (hv : v.isRef = true) (k : Gd p e below P T (mkF m pn Ls (v :: st))) : Gd p e below P T (mkF m pc Ls (st)) := by
  obtain ⟨hd, rfl⟩ := hd
  exact k.imp fun t q => ⟨XS.aload X.here hx rfl (hb hby hd) hl hv q.1, q.2⟩
theorem g_astoreN (X : Stand p l e R s m args below meth c T locs cells slots) (hx : p.tables.exec = Jvm.exec) (hby : c.code = code) {k : Fin 4} {v : Value} {l' : Array Slot} (hd : Ins1 code pc (.astore_n k) 1 pn) (hv : v.isRef = true) (hl : storeLocals Ls k.val v = some l') (k : Gd p e below P T (mkF m pn l' (st))) : Gd p e below P T (mkF m pc Ls (v :: st)) := by
  obtain ⟨hd, rfl⟩ := hd
  exact k.imp fun t q => ⟨XS.astoreN X.here hx rfl (hb hby hd) rfl hv hl q.1, q.2⟩
theorem g_astore (X : Stand p l e R s m args below meth c T locs cells slots) (hx : p.tables.exec = Jvm.exec) (hby : c.code = code) {k : Nat} {v : Value} {l' : Array Slot} (hd : Ins1 code pc (.astore k) 2 pn) (hv : v.isRef = true) (hl : storeLocals Ls k v = some l') (k : Gd p e below P T (mkF m pn l' (st))) : Gd p e below P T (mkF m pc Ls (v :: st)) := by
  obtain ⟨hd, rfl⟩ := hd
  exact k.imp fun t q => ⟨XS.astore X.here hx rfl (hb hby hd) rfl hv hl q.1, q.2⟩
theorem g_istoreNW (X : Stand p l e R s m args below meth c T locs cells slots) (hx : p.tables.exec = Jvm.exec) (hby : c.code = code) {k : Fin 4} {v : Int32} {l' : Int32 → Array Slot} (hd : Ins1 code pc (.istore_n k) 1 pn) (hl : ∀ w, storeLocals Ls k.val (.int w) = some (l' w)) (k : ∀ w, w = v → Gd p e below P T (mkF m pn (l' w) st)) : Gd p e below P T (mkF m pc Ls (.int v :: st)) := g_istoreN X hx hby hd (hl v) (k v rfl)
theorem g_istoreW (X : Stand p l e R s m args below meth c T locs cells slots) (hx : p.tables.exec = Jvm.exec) (hby : c.code = code) {k : Nat} {v : Int32} {l' : Int32 → Array Slot} (hd : Ins1 code pc (.istore k) 2 pn) (hl : ∀ w, storeLocals Ls k (.int w) = some (l' w)) (k : ∀ w, w = v → Gd p e below P T (mkF m pn (l' w) st)) : Gd p e below P T (mkF m pc Ls (.int v :: st)) := g_istore X hx hby hd (hl v) (k v rfl)
theorem g_lstoreNW (X : Stand p l e R s m args below meth c T locs cells slots) (hx : p.tables.exec = Jvm.exec) (hby : c.code = code) {k : Fin 4} {v : Int64} {l' : Int64 → Array Slot} (hd : Ins1 code pc (.lstore_n k) 1 pn) (hl : ∀ w, storeLocals Ls k.val (.long w) = some (l' w)) (k : ∀ w, w = v → Gd p e below P T (mkF m pn (l' w) st)) : Gd p e below P T (mkF m pc Ls (.long v :: st)) := g_lstoreN X hx hby hd (hl v) (k v rfl)
theorem g_lstoreW (X : Stand p l e R s m args below meth c T locs cells slots) (hx : p.tables.exec = Jvm.exec) (hby : c.code = code) {k : Nat} {v : Int64} {l' : Int64 → Array Slot} (hd : Ins1 code pc (.lstore k) 2 pn) (hl : ∀ w, storeLocals Ls k (.long w) = some (l' w)) (k : ∀ w, w = v → Gd p e below P T (mkF m pn (l' w) st)) : Gd p e below P T (mkF m pc Ls (.long v :: st)) := g_lstore X hx hby hd (hl v) (k v rfl)
theorem g_iconst (X : Stand p l e R s m args below meth c T locs cells slots) (hx : p.tables.exec = Jvm.exec) (hby : c.code = code) {i : Int} {z : Int32} (hd : Ins1 code pc (.iconst i) 1 pn) (hz : Int32.ofInt i = z) (k : Gd p e below P T (mkF m pn Ls (.int z :: st))) : Gd p e below P T (mkF m pc Ls st) := by
  obtain ⟨hd, rfl⟩ := hd
  subst hz
  exact k.imp fun t q => ⟨XS.iconst X.here hx rfl (hb hby hd) q.1, q.2⟩
theorem g_bipush (X : Stand p l e R s m args below meth c T locs cells slots) (hx : p.tables.exec = Jvm.exec) (hby : c.code = code) {i : Int} {z : Int32} (hd : Ins1 code pc (.bipush i) 2 pn) (hz : (Int8.ofInt i).toInt32 = z) (k : Gd p e below P T (mkF m pn Ls (.int z :: st))) : Gd p e below P T (mkF m pc Ls st) := by
  obtain ⟨hd, rfl⟩ := hd
  subst hz
  exact k.imp fun t q => ⟨XS.bipush X.here hx rfl (hb hby hd) q.1, q.2⟩
theorem g_sipush (X : Stand p l e R s m args below meth c T locs cells slots) (hx : p.tables.exec = Jvm.exec) (hby : c.code = code) {i : Int} {z : Int32} (hd : Ins1 code pc (.sipush i) 3 pn) (hz : (Int16.ofInt i).toInt32 = z) (k : Gd p e below P T (mkF m pn Ls (.int z :: st))) : Gd p e below P T (mkF m pc Ls st) := by
  obtain ⟨hd, rfl⟩ := hd
  subst hz
  exact k.imp fun t q => ⟨XS.sipush X.here hx rfl (hb hby hd) q.1, q.2⟩
theorem g_lconst (X : Stand p l e R s m args below meth c T locs cells slots) (hx : p.tables.exec = Jvm.exec) (hby : c.code = code) {i : Fin 2} {z : Int64} (hd : Ins1 code pc (.lconst i) 1 pn) (hz : Int64.ofNat i = z) (k : Gd p e below P T (mkF m pn Ls (.long z :: st))) : Gd p e below P T (mkF m pc Ls st) := by
  obtain ⟨hd, rfl⟩ := hd
  subst hz
  exact k.imp fun t q => ⟨XS.lconst X.here hx rfl (hb hby hd) q.1, q.2⟩
theorem g_aconst_null (X : Stand p l e R s m args below meth c T locs cells slots) (hx : p.tables.exec = Jvm.exec) (hby : c.code = code)  (hd : Ins1 code pc (.aconst_null) 1 pn) (k : Gd p e below P T (mkF m pn Ls (.null :: st))) : Gd p e below P T (mkF m pc Ls (st)) := by
  obtain ⟨hd, rfl⟩ := hd
  exact k.imp fun t q => ⟨XS.aconstNull X.here hx rfl (hb hby hd)  q.1, q.2⟩
theorem g_iadd (X : Stand p l e R s m args below meth c T locs cells slots) (hx : p.tables.exec = Jvm.exec) (hby : c.code = code) {x y : Int32} (hd : Ins1 code pc (.iadd) 1 pn) (k : Gd p e below P T (mkF m pn Ls (.int (x + y) :: st))) : Gd p e below P T (mkF m pc Ls (.int y :: .int x :: st)) := by
  obtain ⟨hd, rfl⟩ := hd
  exact k.imp fun t q => ⟨XS.iadd X.here hx rfl (hb hby hd) rfl q.1, q.2⟩
theorem g_isub (X : Stand p l e R s m args below meth c T locs cells slots) (hx : p.tables.exec = Jvm.exec) (hby : c.code = code) {x y : Int32} (hd : Ins1 code pc (.isub) 1 pn) (k : Gd p e below P T (mkF m pn Ls (.int (x - y) :: st))) : Gd p e below P T (mkF m pc Ls (.int y :: .int x :: st)) := by
  obtain ⟨hd, rfl⟩ := hd
  exact k.imp fun t q => ⟨XS.isub X.here hx rfl (hb hby hd) rfl q.1, q.2⟩
theorem g_imul (X : Stand p l e R s m args below meth c T locs cells slots) (hx : p.tables.exec = Jvm.exec) (hby : c.code = code) {x y : Int32} (hd : Ins1 code pc (.imul) 1 pn) (k : Gd p e below P T (mkF m pn Ls (.int (x * y) :: st))) : Gd p e below P T (mkF m pc Ls (.int y :: .int x :: st)) := by
  obtain ⟨hd, rfl⟩ := hd
  exact k.imp fun t q => ⟨XS.imul X.here hx rfl (hb hby hd) rfl q.1, q.2⟩
theorem g_iand (X : Stand p l e R s m args below meth c T locs cells slots) (hx : p.tables.exec = Jvm.exec) (hby : c.code = code) {x y : Int32} (hd : Ins1 code pc (.iand) 1 pn) (k : Gd p e below P T (mkF m pn Ls (.int (x &&& y) :: st))) : Gd p e below P T (mkF m pc Ls (.int y :: .int x :: st)) := by
  obtain ⟨hd, rfl⟩ := hd
  exact k.imp fun t q => ⟨XS.iand X.here hx rfl (hb hby hd) rfl q.1, q.2⟩
theorem g_ior (X : Stand p l e R s m args below meth c T locs cells slots) (hx : p.tables.exec = Jvm.exec) (hby : c.code = code) {x y : Int32} (hd : Ins1 code pc (.ior) 1 pn) (k : Gd p e below P T (mkF m pn Ls (.int (x ||| y) :: st))) : Gd p e below P T (mkF m pc Ls (.int y :: .int x :: st)) := by
  obtain ⟨hd, rfl⟩ := hd
  exact k.imp fun t q => ⟨XS.ior X.here hx rfl (hb hby hd) rfl q.1, q.2⟩
theorem g_ixor (X : Stand p l e R s m args below meth c T locs cells slots) (hx : p.tables.exec = Jvm.exec) (hby : c.code = code) {x y : Int32} (hd : Ins1 code pc (.ixor) 1 pn) (k : Gd p e below P T (mkF m pn Ls (.int (x ^^^ y) :: st))) : Gd p e below P T (mkF m pc Ls (.int y :: .int x :: st)) := by
  obtain ⟨hd, rfl⟩ := hd
  exact k.imp fun t q => ⟨XS.ixor X.here hx rfl (hb hby hd) rfl q.1, q.2⟩
theorem g_ladd (X : Stand p l e R s m args below meth c T locs cells slots) (hx : p.tables.exec = Jvm.exec) (hby : c.code = code) {x y : Int64} (hd : Ins1 code pc (.ladd) 1 pn) (k : Gd p e below P T (mkF m pn Ls (.long (x + y) :: st))) : Gd p e below P T (mkF m pc Ls (.long y :: .long x :: st)) := by
  obtain ⟨hd, rfl⟩ := hd
  exact k.imp fun t q => ⟨XS.ladd X.here hx rfl (hb hby hd) rfl q.1, q.2⟩
theorem g_lsub (X : Stand p l e R s m args below meth c T locs cells slots) (hx : p.tables.exec = Jvm.exec) (hby : c.code = code) {x y : Int64} (hd : Ins1 code pc (.lsub) 1 pn) (k : Gd p e below P T (mkF m pn Ls (.long (x - y) :: st))) : Gd p e below P T (mkF m pc Ls (.long y :: .long x :: st)) := by
  obtain ⟨hd, rfl⟩ := hd
  exact k.imp fun t q => ⟨XS.lsub X.here hx rfl (hb hby hd) rfl q.1, q.2⟩
theorem g_lmul (X : Stand p l e R s m args below meth c T locs cells slots) (hx : p.tables.exec = Jvm.exec) (hby : c.code = code) {x y : Int64} (hd : Ins1 code pc (.lmul) 1 pn) (k : Gd p e below P T (mkF m pn Ls (.long (x * y) :: st))) : Gd p e below P T (mkF m pc Ls (.long y :: .long x :: st)) := by
  obtain ⟨hd, rfl⟩ := hd
  exact k.imp fun t q => ⟨XS.lmul X.here hx rfl (hb hby hd) rfl q.1, q.2⟩
theorem g_land (X : Stand p l e R s m args below meth c T locs cells slots) (hx : p.tables.exec = Jvm.exec) (hby : c.code = code) {x y : Int64} (hd : Ins1 code pc (.land) 1 pn) (k : Gd p e below P T (mkF m pn Ls (.long (x &&& y) :: st))) : Gd p e below P T (mkF m pc Ls (.long y :: .long x :: st)) := by
  obtain ⟨hd, rfl⟩ := hd
  exact k.imp fun t q => ⟨XS.land X.here hx rfl (hb hby hd) rfl q.1, q.2⟩
theorem g_lor (X : Stand p l e R s m args below meth c T locs cells slots) (hx : p.tables.exec = Jvm.exec) (hby : c.code = code) {x y : Int64} (hd : Ins1 code pc (.lor) 1 pn) (k : Gd p e below P T (mkF m pn Ls (.long (x ||| y) :: st))) : Gd p e below P T (mkF m pc Ls (.long y :: .long x :: st)) := by
  obtain ⟨hd, rfl⟩ := hd
  exact k.imp fun t q => ⟨XS.lor X.here hx rfl (hb hby hd) rfl q.1, q.2⟩
theorem g_lxor (X : Stand p l e R s m args below meth c T locs cells slots) (hx : p.tables.exec = Jvm.exec) (hby : c.code = code) {x y : Int64} (hd : Ins1 code pc (.lxor) 1 pn) (k : Gd p e below P T (mkF m pn Ls (.long (x ^^^ y) :: st))) : Gd p e below P T (mkF m pc Ls (.long y :: .long x :: st)) := by
  obtain ⟨hd, rfl⟩ := hd
  exact k.imp fun t q => ⟨XS.lxor X.here hx rfl (hb hby hd) rfl q.1, q.2⟩
theorem g_ishl (X : Stand p l e R s m args below meth c T locs cells slots) (hx : p.tables.exec = Jvm.exec) (hby : c.code = code) {x : Int32} {y : Int32} (hd : Ins1 code pc (.ishl) 1 pn) (k : Gd p e below P T (mkF m pn Ls (.int (x <<< (y &&& 31)) :: st))) : Gd p e below P T (mkF m pc Ls (.int y :: .int x :: st)) := by
  obtain ⟨hd, rfl⟩ := hd
  exact k.imp fun t q => ⟨XS.ishl X.here hx rfl (hb hby hd) rfl q.1, q.2⟩
theorem g_ishr (X : Stand p l e R s m args below meth c T locs cells slots) (hx : p.tables.exec = Jvm.exec) (hby : c.code = code) {x : Int32} {y : Int32} (hd : Ins1 code pc (.ishr) 1 pn) (k : Gd p e below P T (mkF m pn Ls (.int (x >>> (y &&& 31)) :: st))) : Gd p e below P T (mkF m pc Ls (.int y :: .int x :: st)) := by
  obtain ⟨hd, rfl⟩ := hd
  exact k.imp fun t q => ⟨XS.ishr X.here hx rfl (hb hby hd) rfl q.1, q.2⟩
theorem g_iushr (X : Stand p l e R s m args below meth c T locs cells slots) (hx : p.tables.exec = Jvm.exec) (hby : c.code = code) {x : Int32} {y : Int32} (hd : Ins1 code pc (.iushr) 1 pn) (k : Gd p e below P T (mkF m pn Ls (.int ((x.toUInt32 >>> (y &&& 31).toUInt32).toInt32) :: st))) : Gd p e below P T (mkF m pc Ls (.int y :: .int x :: st)) := by
  obtain ⟨hd, rfl⟩ := hd
  exact k.imp fun t q => ⟨XS.iushr X.here hx rfl (hb hby hd) rfl q.1, q.2⟩
theorem g_lshl (X : Stand p l e R s m args below meth c T locs cells slots) (hx : p.tables.exec = Jvm.exec) (hby : c.code = code) {x : Int64} {y : Int32} (hd : Ins1 code pc (.lshl) 1 pn) (k : Gd p e below P T (mkF m pn Ls (.long (x <<< (y &&& 0x3f).toInt64) :: st))) : Gd p e below P T (mkF m pc Ls (.int y :: .long x :: st)) := by
  obtain ⟨hd, rfl⟩ := hd
  exact k.imp fun t q => ⟨XS.lshl X.here hx rfl (hb hby hd) rfl q.1, q.2⟩
theorem g_lshr (X : Stand p l e R s m args below meth c T locs cells slots) (hx : p.tables.exec = Jvm.exec) (hby : c.code = code) {x : Int64} {y : Int32} (hd : Ins1 code pc (.lshr) 1 pn) (k : Gd p e below P T (mkF m pn Ls (.long (x >>> (y &&& 0x3f).toInt64) :: st))) : Gd p e below P T (mkF m pc Ls (.int y :: .long x :: st)) := by
  obtain ⟨hd, rfl⟩ := hd
  exact k.imp fun t q => ⟨XS.lshr X.here hx rfl (hb hby hd) rfl q.1, q.2⟩
theorem g_lushr (X : Stand p l e R s m args below meth c T locs cells slots) (hx : p.tables.exec = Jvm.exec) (hby : c.code = code) {x : Int64} {y : Int32} (hd : Ins1 code pc (.lushr) 1 pn) (k : Gd p e below P T (mkF m pn Ls (.long ((x.toUInt64 >>> (y &&& 0x3f).toInt64.toUInt64).toInt64) :: st))) : Gd p e below P T (mkF m pc Ls (.int y :: .long x :: st)) := by
  obtain ⟨hd, rfl⟩ := hd
  exact k.imp fun t q => ⟨XS.lushr X.here hx rfl (hb hby hd) rfl q.1, q.2⟩
theorem g_ineg (X : Stand p l e R s m args below meth c T locs cells slots) (hx : p.tables.exec = Jvm.exec) (hby : c.code = code) {x : Int32} (hd : Ins1 code pc (.ineg) 1 pn) (k : Gd p e below P T (mkF m pn Ls (.int (-x) :: st))) : Gd p e below P T (mkF m pc Ls (.int x :: st)) := by
  obtain ⟨hd, rfl⟩ := hd
  exact k.imp fun t q => ⟨XS.ineg X.here hx rfl (hb hby hd) rfl q.1, q.2⟩
theorem g_lneg (X : Stand p l e R s m args below meth c T locs cells slots) (hx : p.tables.exec = Jvm.exec) (hby : c.code = code) {x : Int64} (hd : Ins1 code pc (.lneg) 1 pn) (k : Gd p e below P T (mkF m pn Ls (.long (-x) :: st))) : Gd p e below P T (mkF m pc Ls (.long x :: st)) := by
  obtain ⟨hd, rfl⟩ := hd
  exact k.imp fun t q => ⟨XS.lneg X.here hx rfl (hb hby hd) rfl q.1, q.2⟩
theorem g_i2l (X : Stand p l e R s m args below meth c T locs cells slots) (hx : p.tables.exec = Jvm.exec) (hby : c.code = code) {x : Int32} (hd : Ins1 code pc (.i2l) 1 pn) (k : Gd p e below P T (mkF m pn Ls (.long x.toInt64 :: st))) : Gd p e below P T (mkF m pc Ls (.int x :: st)) := by
  obtain ⟨hd, rfl⟩ := hd
  exact k.imp fun t q => ⟨XS.i2l X.here hx rfl (hb hby hd) rfl q.1, q.2⟩
theorem g_l2i (X : Stand p l e R s m args below meth c T locs cells slots) (hx : p.tables.exec = Jvm.exec) (hby : c.code = code) {x : Int64} (hd : Ins1 code pc (.l2i) 1 pn) (k : Gd p e below P T (mkF m pn Ls (.int x.toInt32 :: st))) : Gd p e below P T (mkF m pc Ls (.long x :: st)) := by
  obtain ⟨hd, rfl⟩ := hd
  exact k.imp fun t q => ⟨XS.l2i X.here hx rfl (hb hby hd) rfl q.1, q.2⟩
theorem g_i2b (X : Stand p l e R s m args below meth c T locs cells slots) (hx : p.tables.exec = Jvm.exec) (hby : c.code = code) {x : Int32} (hd : Ins1 code pc (.i2b) 1 pn) (k : Gd p e below P T (mkF m pn Ls (.int x.toInt8.toInt32 :: st))) : Gd p e below P T (mkF m pc Ls (.int x :: st)) := by
  obtain ⟨hd, rfl⟩ := hd
  exact k.imp fun t q => ⟨XS.i2b X.here hx rfl (hb hby hd) rfl q.1, q.2⟩
theorem g_i2s (X : Stand p l e R s m args below meth c T locs cells slots) (hx : p.tables.exec = Jvm.exec) (hby : c.code = code) {x : Int32} (hd : Ins1 code pc (.i2s) 1 pn) (k : Gd p e below P T (mkF m pn Ls (.int x.toInt16.toInt32 :: st))) : Gd p e below P T (mkF m pc Ls (.int x :: st)) := by
  obtain ⟨hd, rfl⟩ := hd
  exact k.imp fun t q => ⟨XS.i2s X.here hx rfl (hb hby hd) rfl q.1, q.2⟩
theorem g_i2c (X : Stand p l e R s m args below meth c T locs cells slots) (hx : p.tables.exec = Jvm.exec) (hby : c.code = code) {x : Int32} (hd : Ins1 code pc (.i2c) 1 pn) (k : Gd p e below P T (mkF m pn Ls (.int x.toUInt32.toUInt16.toUInt32.toInt32 :: st))) : Gd p e below P T (mkF m pc Ls (.int x :: st)) := by
  obtain ⟨hd, rfl⟩ := hd
  exact k.imp fun t q => ⟨XS.i2c X.here hx rfl (hb hby hd) rfl q.1, q.2⟩
theorem g_idiv (X : Stand p l e R s m args below meth c T locs cells slots) (hx : p.tables.exec = Jvm.exec) (hby : c.code = code) {x y : Int32} (hd : Ins1 code pc (.idiv) 1 pn) (hy : y ≠ 0) (k : Gd p e below P T (mkF m pn Ls (.int (x / y) :: st))) : Gd p e below P T (mkF m pc Ls (.int y :: .int x :: st)) := by
  obtain ⟨hd, rfl⟩ := hd
  exact k.imp fun t q => ⟨XS.idiv X.here hx rfl (hb hby hd) rfl hy q.1, q.2⟩
theorem g_ldiv (X : Stand p l e R s m args below meth c T locs cells slots) (hx : p.tables.exec = Jvm.exec) (hby : c.code = code) {x y : Int64} (hd : Ins1 code pc (.ldiv) 1 pn) (hy : y ≠ 0) (k : Gd p e below P T (mkF m pn Ls (.long (x / y) :: st))) : Gd p e below P T (mkF m pc Ls (.long y :: .long x :: st)) := by
  obtain ⟨hd, rfl⟩ := hd
  exact k.imp fun t q => ⟨XS.ldiv X.here hx rfl (hb hby hd) rfl hy q.1, q.2⟩
theorem g_lrem (X : Stand p l e R s m args below meth c T locs cells slots) (hx : p.tables.exec = Jvm.exec) (hby : c.code = code) {x y : Int64} (hd : Ins1 code pc (.lrem) 1 pn) (hy : y ≠ 0) (k : Gd p e below P T (mkF m pn Ls (.long (x - (x / y) * y) :: st))) : Gd p e below P T (mkF m pc Ls (.long y :: .long x :: st)) := by
  obtain ⟨hd, rfl⟩ := hd
  exact k.imp fun t q => ⟨XS.lrem X.here hx rfl (hb hby hd) rfl hy q.1, q.2⟩
theorem g_irem (X : Stand p l e R s m args below meth c T locs cells slots) (hx : p.tables.exec = Jvm.exec) (hby : c.code = code) {x y : Int32} (hd : Ins1 code pc .irem 1 pn) (hy : y ≠ 0) (k : Gd p e below P T (mkF m pn Ls (.int (x % y) :: st))) : Gd p e below P T (mkF m pc Ls (.int y :: .int x :: st)) := by
  obtain ⟨hd, rfl⟩ := hd
  exact k.imp fun t q => ⟨iremM X hx rfl (hb hby hd) rfl hy q.1, q.2⟩
theorem g_iinc (X : Stand p l e R s m args below meth c T locs cells slots) (hx : p.tables.exec = Jvm.exec) (hby : c.code = code) {j : Nat} {i : Int} {x z : Int32} {l' : Array Slot} (hd : Ins1 code pc (.iinc j i) 3 pn) (hl : Ls[j]? = some (.val (.int x))) (hz : x + Int32.ofInt i = z) (hs : storeLocals Ls j (.int z) = some l') (k : Gd p e below P T (mkF m pn l' st)) : Gd p e below P T (mkF m pc Ls st) := by
  obtain ⟨hd, rfl⟩ := hd
  subst hz
  exact k.imp fun t q => ⟨XS.iinc X.here hx rfl (hb hby hd) hl hs q.1, q.2⟩
theorem g_dup (X : Stand p l e R s m args below meth c T locs cells slots) (hx : p.tables.exec = Jvm.exec) (hby : c.code = code) {x : Value} (hd : Ins1 code pc (.dup) 1 pn) (hc : x.category = 1) (k : Gd p e below P T (mkF m pn Ls (x :: x :: st))) : Gd p e below P T (mkF m pc Ls (x :: st)) := by
  obtain ⟨hd, rfl⟩ := hd
  exact k.imp fun t q => ⟨XS.dup X.here hx rfl (hb hby hd) rfl hc q.1, q.2⟩
theorem g_dup2 (X : Stand p l e R s m args below meth c T locs cells slots) (hx : p.tables.exec = Jvm.exec) (hby : c.code = code) {x y : Value} (hd : Ins1 code pc (.dup2) 1 pn) (hc : x.category = 1) (hc2 : y.category = 1) (k : Gd p e below P T (mkF m pn Ls (x :: y :: x :: y :: st))) : Gd p e below P T (mkF m pc Ls (x :: y :: st)) := by
  obtain ⟨hd, rfl⟩ := hd
  exact k.imp fun t q => ⟨XT.dup2 X.here hx rfl (hb hby hd) rfl hc hc2 q.1, q.2⟩
theorem g_dup2L (X : Stand p l e R s m args below meth c T locs cells slots) (hx : p.tables.exec = Jvm.exec) (hby : c.code = code) {x : Int64} (hd : Ins1 code pc (.dup2) 1 pn) (k : Gd p e below P T (mkF m pn Ls (.long x :: .long x :: st))) : Gd p e below P T (mkF m pc Ls (.long x :: st)) := by
  obtain ⟨hd, rfl⟩ := hd
  exact k.imp fun t q => ⟨XT.dup2L X.here hx rfl (hb hby hd) rfl q.1, q.2⟩
theorem g_pop (X : Stand p l e R s m args below meth c T locs cells slots) (hx : p.tables.exec = Jvm.exec) (hby : c.code = code) {x : Value} (hd : Ins1 code pc (.pop) 1 pn) (hc : x.category = 1) (k : Gd p e below P T (mkF m pn Ls (st))) : Gd p e below P T (mkF m pc Ls (x :: st)) := by
  obtain ⟨hd, rfl⟩ := hd
  exact k.imp fun t q => ⟨XS.pop X.here hx rfl (hb hby hd) rfl hc q.1, q.2⟩
theorem g_dup_x1 (X : Stand p l e R s m args below meth c T locs cells slots) (hx : p.tables.exec = Jvm.exec) (hby : c.code = code) {x y : Value} (hd : Ins1 code pc (.dup_x1) 1 pn) (hc : x.category = 1) (hc2 : y.category = 1) (k : Gd p e below P T (mkF m pn Ls (x :: y :: x :: st))) : Gd p e below P T (mkF m pc Ls (x :: y :: st)) := by
  obtain ⟨hd, rfl⟩ := hd
  exact k.imp fun t q => ⟨XS.dupX1 X.here hx rfl (hb hby hd) rfl hc hc2 q.1, q.2⟩
theorem g_i2d (X : Stand p l e R s m args below meth c T locs cells slots) (hx : p.tables.exec = Jvm.exec) (hby : c.code = code) {x : Int32} (hd : Ins1 code pc (.i2d) 1 pn) (k : Gd p e below P T (mkF m pn Ls (.double (FP.i2d x) :: st))) : Gd p e below P T (mkF m pc Ls (.int x :: st)) := by
  obtain ⟨hd, rfl⟩ := hd
  exact k.imp fun t q => ⟨XS.i2dS X.here hx rfl (hb hby hd) rfl rfl q.1, q.2⟩
theorem g_l2d (X : Stand p l e R s m args below meth c T locs cells slots) (hx : p.tables.exec = Jvm.exec) (hby : c.code = code) {x : Int64} (hd : Ins1 code pc (.l2d) 1 pn) (k : Gd p e below P T (mkF m pn Ls (.double (FP.l2d x) :: st))) : Gd p e below P T (mkF m pc Ls (.long x :: st)) := by
  obtain ⟨hd, rfl⟩ := hd
  exact k.imp fun t q => ⟨XS.l2dS X.here hx rfl (hb hby hd) rfl rfl q.1, q.2⟩
theorem g_ddiv (X : Stand p l e R s m args below meth c T locs cells slots) (hx : p.tables.exec = Jvm.exec) (hby : c.code = code) {x y : UInt64} (hd : Ins1 code pc (.ddiv) 1 pn) (hn : Jvm.Free.Fl.NoNaN64 (FP.ddiv x y)) (k : Gd p e below P T (mkF m pn Ls (.double (FP.ddiv x y) :: st))) : Gd p e below P T (mkF m pc Ls (.double y :: .double x :: st)) := by
  obtain ⟨hd, rfl⟩ := hd
  exact k.imp fun t q => ⟨XS.ddivS X.here hx rfl (hb hby hd) rfl hn rfl q.1, q.2⟩
theorem g_dcmp (X : Stand p l e R s m args below meth c T locs cells slots) (hx : p.tables.exec = Jvm.exec) (hby : c.code = code) {x y : UInt64} {o : CmpOp} (hd : Ins1 code pc (.dcmp o) 1 pn) (k : Gd p e below P T (mkF m pn Ls (.int (cmpValue (FP.dcmp x y) o) :: st))) : Gd p e below P T (mkF m pc Ls (.double y :: .double x :: st)) := by
  obtain ⟨hd, rfl⟩ := hd
  exact k.imp fun t q => ⟨XS.dcmpS X.here hx rfl (hb hby hd) rfl rfl q.1, q.2⟩
theorem g_dconst0 (X : Stand p l e R s m args below meth c T locs cells slots) (hx : p.tables.exec = Jvm.exec) (hby : c.code = code)  (hd : Ins1 code pc (.dconst 0) 1 pn) (k : Gd p e below P T (mkF m pn Ls (.double FP.dconst0 :: st))) : Gd p e below P T (mkF m pc Ls (st)) := by
  obtain ⟨hd, rfl⟩ := hd
  exact k.imp fun t q => ⟨XS.dconst0 X.here hx rfl (hb hby hd) rfl q.1, q.2⟩
theorem g_dconst1 (X : Stand p l e R s m args below meth c T locs cells slots) (hx : p.tables.exec = Jvm.exec) (hby : c.code = code)  (hd : Ins1 code pc (.dconst 1) 1 pn) (k : Gd p e below P T (mkF m pn Ls (.double FP.dconst1 :: st))) : Gd p e below P T (mkF m pc Ls (st)) := by
  obtain ⟨hd, rfl⟩ := hd
  exact k.imp fun t q => ⟨XS.dconst1 X.here hx rfl (hb hby hd) rfl q.1, q.2⟩
theorem g_lcmp (X : Stand p l e R s m args below meth c T locs cells slots) (hx : p.tables.exec = Jvm.exec) (hby : c.code = code) {x y : Int64} (hd : Ins1 code pc (.lcmp) 1 pn) (k : Gd p e below P T (mkF m pn Ls (.int (lcmpW x y) :: st))) : Gd p e below P T (mkF m pc Ls (.long y :: .long x :: st)) := by
  obtain ⟨hd, rfl⟩ := hd
  exact k.imp fun t q => ⟨XS.lcmp X.here hx rfl (hb hby hd) rfl q.1, q.2⟩
theorem g_goto (X : Stand p l e R s m args below meth c T locs cells slots) (hx : p.tables.exec = Jvm.exec) (hby : c.code = code) {o : Int} (hd : InsB code pc (.goto o) o pn pt) (k : Gd p e below P T (mkF m pt Ls st)) : Gd p e below P T (mkF m pc Ls st) := by
  obtain ⟨hd, -, ho, hp⟩ := hd
  exact k.imp fun t q => ⟨XS.goto X.here hx rfl rfl (hb hby hd) ho hp q.1, q.2⟩
theorem g_icmp_lt (X : Stand p l e R s m args below meth c T locs cells slots) (hx : p.tables.exec = Jvm.exec) (hby : c.code = code) {x y : Int32} {o : Int} (hd : InsB code pc (.if_icmp .lt o) o pn pt) (ky : x < y → Gd p e below P T (mkF m pt Ls st)) (kn : ¬ x < y → Gd p e below P T (mkF m pn Ls st)) : Gd p e below P T (mkF m pc Ls (.int y :: .int x :: st)) := by
  obtain ⟨hd, rfl, ho, hp⟩ := hd
  by_cases w : x < y
  · exact (ky w).imp fun t q => ⟨XS.icmpYes X.here hx rfl rfl (hb hby hd) rfl (tlt w).1 ho hp q.1, q.2⟩
  · exact (kn w).imp fun t q => ⟨XS.icmpNo X.here hx rfl (hb hby hd) rfl (flt w).1 q.1, q.2⟩
theorem g_if_lt (X : Stand p l e R s m args below meth c T locs cells slots) (hx : p.tables.exec = Jvm.exec) (hby : c.code = code) {x : Int32} {o : Int} (hd : InsB code pc (.ifCond .lt o) o pn pt) (ky : x < 0 → Gd p e below P T (mkF m pt Ls st)) (kn : ¬ x < 0 → Gd p e below P T (mkF m pn Ls st)) : Gd p e below P T (mkF m pc Ls (.int x :: st)) := by
  obtain ⟨hd, rfl, ho, hp⟩ := hd
  by_cases w : x < 0
  · exact (ky w).imp fun t q => ⟨XS.ifYes X.here hx rfl rfl (hb hby hd) rfl ((if0 _ _).trans (tlt w).1) ho hp q.1, q.2⟩
  · exact (kn w).imp fun t q => ⟨XS.ifNo X.here hx rfl (hb hby hd) rfl ((if0 _ _).trans (flt w).1) q.1, q.2⟩
theorem g_lcmp_lt (X : Stand p l e R s m args below meth c T locs cells slots) (hx : p.tables.exec = Jvm.exec) (hby : c.code = code) {x y : Int64} {o : Int} {pc1 : Nat} (hc : Ins1 code pc .lcmp 1 pc1) (hd : InsB code pc1 (.ifCond .lt o) o pn pt) (ky : x < y → Gd p e below P T (mkF m pt Ls st)) (kn : ¬ x < y → Gd p e below P T (mkF m pn Ls st)) : Gd p e below P T (mkF m pc Ls (.long y :: .long x :: st)) :=
  g_lcmp X hx hby hc (g_if_lt X hx hby hd (fun w => ky ((lw_lt x y).mp w)) (fun w => kn (fun q => w ((lw_lt x y).mpr q))))
theorem g_icmp_ge (X : Stand p l e R s m args below meth c T locs cells slots) (hx : p.tables.exec = Jvm.exec) (hby : c.code = code) {x y : Int32} {o : Int} (hd : InsB code pc (.if_icmp .ge o) o pn pt) (ky : ¬ x < y → Gd p e below P T (mkF m pt Ls st)) (kn : x < y → Gd p e below P T (mkF m pn Ls st)) : Gd p e below P T (mkF m pc Ls (.int y :: .int x :: st)) := by
  obtain ⟨hd, rfl, ho, hp⟩ := hd
  by_cases w : x < y
  · exact (kn w).imp fun t q => ⟨XS.icmpNo X.here hx rfl (hb hby hd) rfl (tlt w).2.1 q.1, q.2⟩
  · exact (ky w).imp fun t q => ⟨XS.icmpYes X.here hx rfl rfl (hb hby hd) rfl (flt w).2.1 ho hp q.1, q.2⟩
theorem g_if_ge (X : Stand p l e R s m args below meth c T locs cells slots) (hx : p.tables.exec = Jvm.exec) (hby : c.code = code) {x : Int32} {o : Int} (hd : InsB code pc (.ifCond .ge o) o pn pt) (ky : ¬ x < 0 → Gd p e below P T (mkF m pt Ls st)) (kn : x < 0 → Gd p e below P T (mkF m pn Ls st)) : Gd p e below P T (mkF m pc Ls (.int x :: st)) := by
  obtain ⟨hd, rfl, ho, hp⟩ := hd
  by_cases w : x < 0
  · exact (kn w).imp fun t q => ⟨XS.ifNo X.here hx rfl (hb hby hd) rfl ((if0 _ _).trans (tlt w).2.1) q.1, q.2⟩
  · exact (ky w).imp fun t q => ⟨XS.ifYes X.here hx rfl rfl (hb hby hd) rfl ((if0 _ _).trans (flt w).2.1) ho hp q.1, q.2⟩
theorem g_lcmp_ge (X : Stand p l e R s m args below meth c T locs cells slots) (hx : p.tables.exec = Jvm.exec) (hby : c.code = code) {x y : Int64} {o : Int} {pc1 : Nat} (hc : Ins1 code pc .lcmp 1 pc1) (hd : InsB code pc1 (.ifCond .ge o) o pn pt) (ky : ¬ x < y → Gd p e below P T (mkF m pt Ls st)) (kn : x < y → Gd p e below P T (mkF m pn Ls st)) : Gd p e below P T (mkF m pc Ls (.long y :: .long x :: st)) :=
  g_lcmp X hx hby hc (g_if_ge X hx hby hd (fun w => ky (fun q => w ((lw_lt x y).mpr q))) (fun w => kn ((lw_lt x y).mp w)))
theorem g_icmp_gt (X : Stand p l e R s m args below meth c T locs cells slots) (hx : p.tables.exec = Jvm.exec) (hby : c.code = code) {x y : Int32} {o : Int} (hd : InsB code pc (.if_icmp .gt o) o pn pt) (ky : y < x → Gd p e below P T (mkF m pt Ls st)) (kn : ¬ y < x → Gd p e below P T (mkF m pn Ls st)) : Gd p e below P T (mkF m pc Ls (.int y :: .int x :: st)) := by
  obtain ⟨hd, rfl, ho, hp⟩ := hd
  by_cases w : y < x
  · exact (ky w).imp fun t q => ⟨XS.icmpYes X.here hx rfl rfl (hb hby hd) rfl (tlt w).2.2.1 ho hp q.1, q.2⟩
  · exact (kn w).imp fun t q => ⟨XS.icmpNo X.here hx rfl (hb hby hd) rfl (flt w).2.2.1 q.1, q.2⟩
theorem g_if_gt (X : Stand p l e R s m args below meth c T locs cells slots) (hx : p.tables.exec = Jvm.exec) (hby : c.code = code) {x : Int32} {o : Int} (hd : InsB code pc (.ifCond .gt o) o pn pt) (ky : 0 < x → Gd p e below P T (mkF m pt Ls st)) (kn : ¬ 0 < x → Gd p e below P T (mkF m pn Ls st)) : Gd p e below P T (mkF m pc Ls (.int x :: st)) := by
  obtain ⟨hd, rfl, ho, hp⟩ := hd
  by_cases w : 0 < x
  · exact (ky w).imp fun t q => ⟨XS.ifYes X.here hx rfl rfl (hb hby hd) rfl ((if0 _ _).trans (tlt w).2.2.1) ho hp q.1, q.2⟩
  · exact (kn w).imp fun t q => ⟨XS.ifNo X.here hx rfl (hb hby hd) rfl ((if0 _ _).trans (flt w).2.2.1) q.1, q.2⟩
theorem g_lcmp_gt (X : Stand p l e R s m args below meth c T locs cells slots) (hx : p.tables.exec = Jvm.exec) (hby : c.code = code) {x y : Int64} {o : Int} {pc1 : Nat} (hc : Ins1 code pc .lcmp 1 pc1) (hd : InsB code pc1 (.ifCond .gt o) o pn pt) (ky : y < x → Gd p e below P T (mkF m pt Ls st)) (kn : ¬ y < x → Gd p e below P T (mkF m pn Ls st)) : Gd p e below P T (mkF m pc Ls (.long y :: .long x :: st)) :=
  g_lcmp X hx hby hc (g_if_gt X hx hby hd (fun w => ky ((lw_gt x y).mp w)) (fun w => kn (fun q => w ((lw_gt x y).mpr q))))
theorem g_icmp_le (X : Stand p l e R s m args below meth c T locs cells slots) (hx : p.tables.exec = Jvm.exec) (hby : c.code = code) {x y : Int32} {o : Int} (hd : InsB code pc (.if_icmp .le o) o pn pt) (ky : ¬ y < x → Gd p e below P T (mkF m pt Ls st)) (kn : y < x → Gd p e below P T (mkF m pn Ls st)) : Gd p e below P T (mkF m pc Ls (.int y :: .int x :: st)) := by
  obtain ⟨hd, rfl, ho, hp⟩ := hd
  by_cases w : y < x
  · exact (kn w).imp fun t q => ⟨XS.icmpNo X.here hx rfl (hb hby hd) rfl (tlt w).2.2.2 q.1, q.2⟩
  · exact (ky w).imp fun t q => ⟨XS.icmpYes X.here hx rfl rfl (hb hby hd) rfl (flt w).2.2.2 ho hp q.1, q.2⟩
theorem g_if_le (X : Stand p l e R s m args below meth c T locs cells slots) (hx : p.tables.exec = Jvm.exec) (hby : c.code = code) {x : Int32} {o : Int} (hd : InsB code pc (.ifCond .le o) o pn pt) (ky : ¬ 0 < x → Gd p e below P T (mkF m pt Ls st)) (kn : 0 < x → Gd p e below P T (mkF m pn Ls st)) : Gd p e below P T (mkF m pc Ls (.int x :: st)) := by
  obtain ⟨hd, rfl, ho, hp⟩ := hd
  by_cases w : 0 < x
  · exact (kn w).imp fun t q => ⟨XS.ifNo X.here hx rfl (hb hby hd) rfl ((if0 _ _).trans (tlt w).2.2.2) q.1, q.2⟩
  · exact (ky w).imp fun t q => ⟨XS.ifYes X.here hx rfl rfl (hb hby hd) rfl ((if0 _ _).trans (flt w).2.2.2) ho hp q.1, q.2⟩
theorem g_lcmp_le (X : Stand p l e R s m args below meth c T locs cells slots) (hx : p.tables.exec = Jvm.exec) (hby : c.code = code) {x y : Int64} {o : Int} {pc1 : Nat} (hc : Ins1 code pc .lcmp 1 pc1) (hd : InsB code pc1 (.ifCond .le o) o pn pt) (ky : ¬ y < x → Gd p e below P T (mkF m pt Ls st)) (kn : y < x → Gd p e below P T (mkF m pn Ls st)) : Gd p e below P T (mkF m pc Ls (.long y :: .long x :: st)) :=
  g_lcmp X hx hby hc (g_if_le X hx hby hd (fun w => ky (fun q => w ((lw_gt x y).mpr q))) (fun w => kn ((lw_gt x y).mp w)))
theorem g_icmp_eq (X : Stand p l e R s m args below meth c T locs cells slots) (hx : p.tables.exec = Jvm.exec) (hby : c.code = code) {x y : Int32} {o : Int} (hd : InsB code pc (.if_icmp .eq o) o pn pt) (ky : x = y → Gd p e below P T (mkF m pt Ls st)) (kn : ¬ x = y → Gd p e below P T (mkF m pn Ls st)) : Gd p e below P T (mkF m pc Ls (.int y :: .int x :: st)) := by
  obtain ⟨hd, rfl, ho, hp⟩ := hd
  by_cases w : x = y
  · exact (ky w).imp fun t q => ⟨XS.icmpYes X.here hx rfl rfl (hb hby hd) rfl (teq w).1 ho hp q.1, q.2⟩
  · exact (kn w).imp fun t q => ⟨XS.icmpNo X.here hx rfl (hb hby hd) rfl (feq w).1 q.1, q.2⟩
theorem g_if_eq (X : Stand p l e R s m args below meth c T locs cells slots) (hx : p.tables.exec = Jvm.exec) (hby : c.code = code) {x : Int32} {o : Int} (hd : InsB code pc (.ifCond .eq o) o pn pt) (ky : x = 0 → Gd p e below P T (mkF m pt Ls st)) (kn : ¬ x = 0 → Gd p e below P T (mkF m pn Ls st)) : Gd p e below P T (mkF m pc Ls (.int x :: st)) := by
  obtain ⟨hd, rfl, ho, hp⟩ := hd
  by_cases w : x = 0
  · exact (ky w).imp fun t q => ⟨XS.ifYes X.here hx rfl rfl (hb hby hd) rfl ((if0 _ _).trans (teq w).1) ho hp q.1, q.2⟩
  · exact (kn w).imp fun t q => ⟨XS.ifNo X.here hx rfl (hb hby hd) rfl ((if0 _ _).trans (feq w).1) q.1, q.2⟩
theorem g_lcmp_eq (X : Stand p l e R s m args below meth c T locs cells slots) (hx : p.tables.exec = Jvm.exec) (hby : c.code = code) {x y : Int64} {o : Int} {pc1 : Nat} (hc : Ins1 code pc .lcmp 1 pc1) (hd : InsB code pc1 (.ifCond .eq o) o pn pt) (ky : x = y → Gd p e below P T (mkF m pt Ls st)) (kn : ¬ x = y → Gd p e below P T (mkF m pn Ls st)) : Gd p e below P T (mkF m pc Ls (.long y :: .long x :: st)) :=
  g_lcmp X hx hby hc (g_if_eq X hx hby hd (fun w => ky ((lw_eq x y).mp w)) (fun w => kn (fun q => w ((lw_eq x y).mpr q))))
theorem g_icmp_ne (X : Stand p l e R s m args below meth c T locs cells slots) (hx : p.tables.exec = Jvm.exec) (hby : c.code = code) {x y : Int32} {o : Int} (hd : InsB code pc (.if_icmp .ne o) o pn pt) (ky : ¬ x = y → Gd p e below P T (mkF m pt Ls st)) (kn : x = y → Gd p e below P T (mkF m pn Ls st)) : Gd p e below P T (mkF m pc Ls (.int y :: .int x :: st)) := by
  obtain ⟨hd, rfl, ho, hp⟩ := hd
  by_cases w : x = y
  · exact (kn w).imp fun t q => ⟨XS.icmpNo X.here hx rfl (hb hby hd) rfl (teq w).2 q.1, q.2⟩
  · exact (ky w).imp fun t q => ⟨XS.icmpYes X.here hx rfl rfl (hb hby hd) rfl (feq w).2 ho hp q.1, q.2⟩
theorem g_if_ne (X : Stand p l e R s m args below meth c T locs cells slots) (hx : p.tables.exec = Jvm.exec) (hby : c.code = code) {x : Int32} {o : Int} (hd : InsB code pc (.ifCond .ne o) o pn pt) (ky : ¬ x = 0 → Gd p e below P T (mkF m pt Ls st)) (kn : x = 0 → Gd p e below P T (mkF m pn Ls st)) : Gd p e below P T (mkF m pc Ls (.int x :: st)) := by
  obtain ⟨hd, rfl, ho, hp⟩ := hd
  by_cases w : x = 0
  · exact (kn w).imp fun t q => ⟨XS.ifNo X.here hx rfl (hb hby hd) rfl ((if0 _ _).trans (teq w).2) q.1, q.2⟩
  · exact (ky w).imp fun t q => ⟨XS.ifYes X.here hx rfl rfl (hb hby hd) rfl ((if0 _ _).trans (feq w).2) ho hp q.1, q.2⟩
theorem g_lcmp_ne (X : Stand p l e R s m args below meth c T locs cells slots) (hx : p.tables.exec = Jvm.exec) (hby : c.code = code) {x y : Int64} {o : Int} {pc1 : Nat} (hc : Ins1 code pc .lcmp 1 pc1) (hd : InsB code pc1 (.ifCond .ne o) o pn pt) (ky : ¬ x = y → Gd p e below P T (mkF m pt Ls st)) (kn : x = y → Gd p e below P T (mkF m pn Ls st)) : Gd p e below P T (mkF m pc Ls (.long y :: .long x :: st)) :=
  g_lcmp X hx hby hc (g_if_ne X hx hby hd (fun w => ky (fun q => w ((lw_eq x y).mpr q))) (fun w => kn ((lw_eq x y).mp w)))
theorem g_ifnull_y (X : Stand p l e R s m args below meth c T locs cells slots) (hx : p.tables.exec = Jvm.exec) (hby : c.code = code) {o : Int} (hd : InsB code pc (.ifnull o) o pn pt) (k : Gd p e below P T (mkF m pt Ls st)) : Gd p e below P T (mkF m pc Ls (.null :: st)) := by
  obtain ⟨hd, -, ho, hp⟩ := hd
  exact k.imp fun t q => ⟨XS.ifnullYes X.here hx rfl rfl (hb hby hd) rfl ho hp q.1, q.2⟩
theorem g_ifnull_n (X : Stand p l e R s m args below meth c T locs cells slots) (hx : p.tables.exec = Jvm.exec) (hby : c.code = code) {o : Int} {b : Addr} (hd : InsB code pc (.ifnull o) o pn pt) (k : Gd p e below P T (mkF m pn Ls st)) : Gd p e below P T (mkF m pc Ls (.ref b :: st)) := by
  obtain ⟨hd, rfl, ho, hp⟩ := hd
  exact k.imp fun t q => ⟨XS.ifnullNo X.here hx rfl (hb hby hd) rfl q.1, q.2⟩
theorem g_ifnonnull_n (X : Stand p l e R s m args below meth c T locs cells slots) (hx : p.tables.exec = Jvm.exec) (hby : c.code = code) {o : Int} (hd : InsB code pc (.ifnonnull o) o pn pt) (k : Gd p e below P T (mkF m pn Ls st)) : Gd p e below P T (mkF m pc Ls (.null :: st)) := by
  obtain ⟨hd, rfl, ho, hp⟩ := hd
  exact k.imp fun t q => ⟨XS.ifnonnullNo X.here hx rfl (hb hby hd) rfl q.1, q.2⟩
theorem g_ifnonnull_y (X : Stand p l e R s m args below meth c T locs cells slots) (hx : p.tables.exec = Jvm.exec) (hby : c.code = code) {o : Int} {b : Addr} (hd : InsB code pc (.ifnonnull o) o pn pt) (k : Gd p e below P T (mkF m pt Ls st)) : Gd p e below P T (mkF m pc Ls (.ref b :: st)) := by
  obtain ⟨hd, -, ho, hp⟩ := hd
  exact k.imp fun t q => ⟨XS.ifnonnullYes X.here hx rfl rfl (hb hby hd) rfl ho hp q.1, q.2⟩
theorem g_acmp_eq (X : Stand p l e R s m args below meth c T locs cells slots) (hx : p.tables.exec = Jvm.exec) (hby : c.code = code) {o : Int} {x y : Value} (hd : InsB code pc (.if_acmp .eq o) o pn pt) (h1 : x.isRef = true) (h2 : y.isRef = true) (ky : x = y → Gd p e below P T (mkF m pt Ls st)) (kn : ¬ x = y → Gd p e below P T (mkF m pn Ls st)) : Gd p e below P T (mkF m pc Ls (y :: x :: st)) := by
  obtain ⟨hd, hn, ho, hp⟩ := hd
  by_cases w : x = y
  · exact (ky w).imp fun t q => ⟨Jvm.RoadKit.acmp (g := mkF m pc Ls (y :: x :: st)) X hx rfl h1 h2 rfl (hb hby hd) rfl (same := true) (decide_eq_true w) ho (by show _ = ((pc : Int) + o).toNat; exact hp.symm) q.1, q.2⟩
  · exact (kn w).imp fun t q => ⟨Jvm.RoadKit.acmp (g := mkF m pc Ls (y :: x :: st)) X hx rfl h1 h2 rfl (hb hby hd) rfl (same := false) (decide_eq_false w) ho (by show _ = pc + 3; exact hn.symm) q.1, q.2⟩
theorem g_acmp_ne (X : Stand p l e R s m args below meth c T locs cells slots) (hx : p.tables.exec = Jvm.exec) (hby : c.code = code) {o : Int} {x y : Value} (hd : InsB code pc (.if_acmp .ne o) o pn pt) (h1 : x.isRef = true) (h2 : y.isRef = true) (ky : ¬ x = y → Gd p e below P T (mkF m pt Ls st)) (kn : x = y → Gd p e below P T (mkF m pn Ls st)) : Gd p e below P T (mkF m pc Ls (y :: x :: st)) := by
  obtain ⟨hd, hn, ho, hp⟩ := hd
  by_cases w : x = y
  · exact (kn w).imp fun t q => ⟨Jvm.RoadKit.acmp (g := mkF m pc Ls (y :: x :: st)) X hx rfl h1 h2 rfl (hb hby hd) rfl (same := true) (decide_eq_true w) ho (by show _ = pc + 3; exact hn.symm) q.1, q.2⟩
  · exact (ky w).imp fun t q => ⟨Jvm.RoadKit.acmp (g := mkF m pc Ls (y :: x :: st)) X hx rfl h1 h2 rfl (hb hby hd) rfl (same := false) (decide_eq_false w) ho (by show _ = ((pc : Int) + o).toNat; exact hp.symm) q.1, q.2⟩
theorem g_ldcInt (X : Stand p l e R s m args below meth c T locs cells slots) (hx : p.tables.exec = Jvm.exec) (hby : c.code = code) (hZ : Z.Warmed39 s.vm) {own : String} (hown : s.vm.findClass own = some m.cls) {i : Nat} {v : Int32} (w : (Jvm.Cond.constant own i v).before a0 Z = true) (hd : Ins1 code pc (.ldc i) 2 pn) (k : Gd p e below P T (mkF m pn Ls (.int v :: st))) : Gd p e below P T (mkF m pc Ls st) := by
  obtain ⟨hd, rfl⟩ := hd
  exact k.imp fun t q => ⟨X.ldcInt hx hown (mvT hZ w) (g := mkF m pc Ls st) rfl (hb hby hd) _ q.1, q.2⟩
theorem g_ldc2Long (X : Stand p l e R s m args below meth c T locs cells slots) (hx : p.tables.exec = Jvm.exec) (hby : c.code = code) (hZ : Z.Warmed39 s.vm) {own : String} (hown : s.vm.findClass own = some m.cls) {i : Nat} {v : Int64} (w : (Jvm.Cond.constantLong own i v).before a0 Z = true) (hd : Ins1 code pc (.ldc2_w i) 3 pn) (k : Gd p e below P T (mkF m pn Ls (.long v :: st))) : Gd p e below P T (mkF m pc Ls st) := by
  obtain ⟨hd, rfl⟩ := hd
  exact k.imp fun t q => ⟨X.ldc2Long hx hown (mvT hZ w) (g := mkF m pc Ls st) rfl (hb hby hd) _ q.1, q.2⟩
theorem g_getfield (X : Stand p l e R s m args below meth c T locs cells slots) (hx : p.tables.exec = Jvm.exec) (hby : c.code = code) (hZ : Z.Warmed39 s.vm) {own R0 O n d host : String} {index : Nat} (hown : s.vm.findClass own = some m.cls) (w : (Jvm.Cond.fieldLink own index R0 n d).before a0 Z = true ∨ (Jvm.Cond.fieldLinkNest own index R0 n d host).before a0 Z = true) (via : Via Z R0 O n d) (eT : T.heap = h) {a : Addr} {v : Value} (F : Fld Z h a O n d v) (hd : Ins1 code pc (.getfield index) 3 pn)
    (k : ∀ T', Stand p l e R s m args below meth c T' locs cells slots → T'.heap = h → Gd p e below P T' (mkF m pn Ls (v :: st))) : Gd p e below P T (mkF m pc Ls (.ref a :: st)) := by
  obtain ⟨hd, rfl⟩ := hd
  obtain ⟨T', X', e', stp⟩ := getF X hx hZ hown w via eT F (g := mkF m pc Ls (.ref a :: st)) rfl rfl (hb hby hd)
  exact (k T' X' e').of stp
theorem g_getstatic (X : Stand p l e R s m args below meth c T locs cells slots) (hx : p.tables.exec = Jvm.exec) (hby : c.code = code) (hZ : Z.Warmed39 s.vm) {own R0 O n d host : String} {index : Nat} (hown : s.vm.findClass own = some m.cls) (w : (Jvm.Cond.fieldLink own index R0 n d).before a0 Z = true ∨ (Jvm.Cond.fieldLinkNest own index R0 n d host).before a0 Z = true) (via : Via Z R0 O n d) (eT : T.heap = h) {v : Value} (F : Sta Z h O n d v) (hd : Ins1 code pc (.getstatic index) 3 pn)
    (k : ∀ T', Stand p l e R s m args below meth c T' locs cells slots → T'.heap = h → Gd p e below P T' (mkF m pn Ls (v :: st))) : Gd p e below P T (mkF m pc Ls st) := by
  obtain ⟨hd, rfl⟩ := hd
  obtain ⟨T', X', e', stp⟩ := getS2 X hx hZ hown w via eT F (g := mkF m pc Ls st) rfl (hb hby hd)
  exact (k T' X' e').of stp
theorem g_putfield (X : Stand p l e R s m args below meth c T locs cells slots) (hx : p.tables.exec = Jvm.exec) (hby : c.code = code) (hZ : Z.Warmed39 s.vm) {own R0 O n d host C : String} {index kk : Nat} {ty : FieldType} (hown : s.vm.findClass own = some m.cls) (w : (Jvm.Cond.fieldLink own index R0 n d).before a0 Z = true ∨ (Jvm.Cond.fieldLinkNest own index R0 n d host).before a0 Z = true) (via : Via Z R0 O n d) (eT : T.heap = h) {a : Addr} {v old : Value} (F : Fld Z h a O n d old) (E : Exa Z h a C)
    (L : (Jvm.Cond.lays C O n d).before a0 Z = true ∨ ((Jvm.Cond.laysFinal C O n d).before a0 Z = true ∧ own = O ∧ meth.name = "<init>")) (wi : (Jvm.Cond.instantiable C kk).before a0 Z = true) (hty : parseFieldDescriptor d = some ty) (hn : narrow ty v = v) (hf : fits ty v = true) (hd : Ins1 code pc (.putfield index) 3 pn)
    (k : ∀ T' h', Stand p l e R s m args below meth c T' (locs ++ [⟨a, Jvm.RoadKit.slotOf Z O n d⟩]) cells slots → T'.heap = h' → Wr h h' a (Jvm.RoadKit.slotOf Z O n d) v → Gd p e below P T' (mkF m pn Ls st)) : Gd p e below P T (mkF m pc Ls (v :: .ref a :: st)) := by
  obtain ⟨hd, rfl⟩ := hd
  obtain ⟨T', h', X', e', W, stp⟩ := putF X hx hZ hown w via eT F E L wi hty hn hf (g := mkF m pc Ls (v :: .ref a :: st)) rfl rfl (hb hby hd)
  exact (k T' h' X' e' W).of stp
theorem g_putfieldN (X : Stand p l e R s m args below meth c T locs cells slots) (hx : p.tables.exec = Jvm.exec) (hby : c.code = code) (hZ : Z.Warmed39 s.vm) {own R0 O n d C : String} {index kk : Nat} {ty : FieldType} (hown : s.vm.findClass own = some m.cls) (w : (Jvm.Cond.fieldLink own index R0 n d).before a0 Z = true) (via : Via Z R0 O n d) (eT : T.heap = h) {a : Addr} {v v' old : Value} (F : Fld Z h a O n d old) (E : Exa Z h a C)
    (L : (Jvm.Cond.lays C O n d).before a0 Z = true ∨ ((Jvm.Cond.laysFinal C O n d).before a0 Z = true ∧ own = O ∧ meth.name = "<init>")) (wi : (Jvm.Cond.instantiable C kk).before a0 Z = true) (hty : parseFieldDescriptor d = some ty) (hn : narrow ty v = v') (hf : fits ty v' = true) (hd : Ins1 code pc (.putfield index) 3 pn)
    (k : ∀ T' h', Stand p l e R s m args below meth c T' (locs ++ [⟨a, Jvm.RoadKit.slotOf Z O n d⟩]) cells slots → T'.heap = h' → Wr h h' a (Jvm.RoadKit.slotOf Z O n d) v' → Gd p e below P T' (mkF m pn Ls st)) : Gd p e below P T (mkF m pc Ls (v :: .ref a :: st)) := by
  obtain ⟨hd, rfl⟩ := hd
  obtain ⟨T', h', X', e', W, stp⟩ := putFN X hx hZ hown w via eT F E L wi hty hn hf (g := mkF m pc Ls (v :: .ref a :: st)) rfl rfl (hb hby hd)
  exact (k T' h' X' e' W).of stp
theorem g_new (X : Stand p l e R s m args below meth c T locs cells slots) (hx : p.tables.exec = Jvm.exec) (hby : c.code = code) (hZ : Z.Warmed39 s.vm) {own C : String} {index n : Nat} (hown : s.vm.findClass own = some m.cls) (w : (Jvm.Cond.classLink own index C).before a0 Z = true) (wi : (Jvm.Cond.instantiable C n).before a0 Z = true) (wz : (Jvm.Cond.initialized C).before a0 Z = true) (eT : T.heap = h) (hd : Ins1 code pc (.new index) 3 pn) (hc : cells + 1 ≤ R.cells) (hl : slots + n ≤ R.slots)
    (k : ∀ T' h' b, Stand p l e R s m args below meth c T' locs (cells + 1) (slots + n) → T'.heap = h' → Ext h h' → b = h.size → Exa Z h' b C → (∀ {O nm d : String} {ty : FieldType}, Laid Z a0 C O nm d → parseFieldDescriptor d = some ty → Fld Z h' b O nm d (defaultValue ty)) → Gd p e below P T' (mkF m pn Ls (.ref b :: st))) : Gd p e below P T (mkF m pc Ls st) := by
  obtain ⟨hd, rfl⟩ := hd
  obtain ⟨T', h', X', e', E, A, D, -, stp⟩ := newO X hx hZ hown w wi wz eT (g := mkF m pc Ls st) rfl (hb hby hd) hc hl
  exact (k T' h' _ X' e' E rfl A D).of stp
theorem g_newarray (X : Stand p l e R s m args below meth c T locs cells slots) (hx : p.tables.exec = Jvm.exec) (hby : c.code = code) (hZ : Z.Warmed39 s.vm) {aty : ArrayType} {n : Int32} {ty : FieldType} (hty : newarray.typeOf aty = ty) (w : (Jvm.Cond.arrayClass ty).before a0 Z = true) (eT : T.heap = h) (hd : Ins1 code pc (.newarray aty) 2 pn) (hn : ¬ n < 0) (cap : Nat) (hcap : n.toNatClampNeg ≤ cap) (hb' : cap * 8 ≤ 536870912) (hc : cells + 1 ≤ R.cells) (hl : slots + cap ≤ R.slots)
    (k : ∀ T' h' b cA, Stand p l e R s m args below meth c T' locs (cells + 1) (slots + cap) → T'.heap = h' → Ext h h' → b = h.size → Arv Z h' b cA ty n [] (defaultValue ty) → Gd p e below P T' (mkF m pn Ls (.ref b :: st))) : Gd p e below P T (mkF m pc Ls (.int n :: st)) := by
  obtain ⟨hd, rfl⟩ := hd
  subst hty
  obtain ⟨T', h', cA, X', e', E, A, stp⟩ := newP X hx hZ w eT (g := mkF m pc Ls (.int n :: st)) rfl (hb hby hd) rfl hn hcap hb' hc hl
  exact (k T' h' _ cA X' e' E rfl (Arv.new A hn)).of stp
theorem g_iastore (X : Stand p l e R s m args below meth c T locs cells slots) (hx : p.tables.exec = Jvm.exec) (hby : c.code = code) (hZ : Z.Warmed39 s.vm) (eT : T.heap = h) {a : Addr} {kc : ClassId} {z j : Int32} {vs : List Value} {dv : Value} {x : Int32} (A : Arv Z h a kc .int z vs dv) {i : Nat} (hj0 : ¬ j < 0) (hj : j < z) (hji : j.toNatClampNeg = i) (hil : i < vs.length) (hd : Ins1 code pc .iastore 1 pn)
    (k : ∀ T' h', Stand p l e R s m args below meth c T' (locs ++ [⟨a, i⟩]) cells slots → T'.heap = h' → Wr h h' a i (.int x) → Arv Z h' a kc .int z (vs.set i (.int x)) dv → Gd p e below P T' (mkF m pn Ls st)) : Gd p e below P T (mkF m pc Ls (.int x :: .int j :: .ref a :: st)) := by
  obtain ⟨hd, rfl⟩ := hd
  obtain ⟨cl, Ar, q1, S, N, H, G⟩ := A
  obtain ⟨T', h', X', e', W, stp⟩ := stI X hx hZ eT Ar (j := j) (inb_of S ⟨hj0, hj⟩) (g := mkF m pc Ls (.int x :: .int j :: .ref a :: st)) rfl rfl (hb hby hd)
  have V := Arv.set Ar q1 S N H G rfl W i hji hil
  rw [hji] at X' W
  exact (k T' h' X' e' W V).of stp
theorem g_lastore (X : Stand p l e R s m args below meth c T locs cells slots) (hx : p.tables.exec = Jvm.exec) (hby : c.code = code) (hZ : Z.Warmed39 s.vm) (eT : T.heap = h) {a : Addr} {kc : ClassId} {z j : Int32} {vs : List Value} {dv : Value} {x : Int64} (A : Arv Z h a kc .long z vs dv) {i : Nat} (hj0 : ¬ j < 0) (hj : j < z) (hji : j.toNatClampNeg = i) (hil : i < vs.length) (hd : Ins1 code pc .lastore 1 pn)
    (k : ∀ T' h', Stand p l e R s m args below meth c T' (locs ++ [⟨a, i⟩]) cells slots → T'.heap = h' → Wr h h' a i (.long x) → Arv Z h' a kc .long z (vs.set i (.long x)) dv → Gd p e below P T' (mkF m pn Ls st)) : Gd p e below P T (mkF m pc Ls (.long x :: .int j :: .ref a :: st)) := by
  obtain ⟨hd, rfl⟩ := hd
  obtain ⟨cl, Ar, q1, S, N, H, G⟩ := A
  obtain ⟨T', h', X', e', W, stp⟩ := stJ X hx hZ eT Ar (j := j) (inb_of S ⟨hj0, hj⟩) (g := mkF m pc Ls (.long x :: .int j :: .ref a :: st)) rfl rfl (hb hby hd)
  have V := Arv.set Ar q1 S N H G rfl W i hji hil
  rw [hji] at X' W
  exact (k T' h' X' e' W V).of stp
theorem g_castore (X : Stand p l e R s m args below meth c T locs cells slots) (hx : p.tables.exec = Jvm.exec) (hby : c.code = code) (hZ : Z.Warmed39 s.vm) (eT : T.heap = h) {a : Addr} {kc : ClassId} {z j : Int32} {vs : List Value} {dv : Value} {x : Int32} (A : Arv Z h a kc .char z vs dv) {i : Nat} (hj0 : ¬ j < 0) (hj : j < z) (hji : j.toNatClampNeg = i) (hil : i < vs.length) (hd : Ins1 code pc .castore 1 pn)
    (k : ∀ T' h', Stand p l e R s m args below meth c T' (locs ++ [⟨a, i⟩]) cells slots → T'.heap = h' → Wr h h' a i (.int (nar .char x)) → Arv Z h' a kc .char z (vs.set i (.int (nar .char x))) dv → Gd p e below P T' (mkF m pn Ls st)) : Gd p e below P T (mkF m pc Ls (.int x :: .int j :: .ref a :: st)) := by
  obtain ⟨hd, rfl⟩ := hd
  obtain ⟨cl, Ar, q1, S, N, H, G⟩ := A
  obtain ⟨T', h', X', e', W, stp⟩ := stC X hx hZ eT Ar (j := j) (inb_of S ⟨hj0, hj⟩) (g := mkF m pc Ls (.int x :: .int j :: .ref a :: st)) rfl rfl (hb hby hd)
  have V := Arv.set Ar q1 S N H G (fits_nar_char x) W i hji hil
  rw [hji] at X' W
  exact (k T' h' X' e' W V).of stp
theorem g_sastore (X : Stand p l e R s m args below meth c T locs cells slots) (hx : p.tables.exec = Jvm.exec) (hby : c.code = code) (hZ : Z.Warmed39 s.vm) (eT : T.heap = h) {a : Addr} {kc : ClassId} {z j : Int32} {vs : List Value} {dv : Value} {x : Int32} (A : Arv Z h a kc .short z vs dv) {i : Nat} (hj0 : ¬ j < 0) (hj : j < z) (hji : j.toNatClampNeg = i) (hil : i < vs.length) (hd : Ins1 code pc .sastore 1 pn)
    (k : ∀ T' h', Stand p l e R s m args below meth c T' (locs ++ [⟨a, i⟩]) cells slots → T'.heap = h' → Wr h h' a i (.int (nar .short x)) → Arv Z h' a kc .short z (vs.set i (.int (nar .short x))) dv → Gd p e below P T' (mkF m pn Ls st)) : Gd p e below P T (mkF m pc Ls (.int x :: .int j :: .ref a :: st)) := by
  obtain ⟨hd, rfl⟩ := hd
  obtain ⟨cl, Ar, q1, S, N, H, G⟩ := A
  obtain ⟨T', h', X', e', W, stp⟩ := stS X hx hZ eT Ar (j := j) (inb_of S ⟨hj0, hj⟩) (g := mkF m pc Ls (.int x :: .int j :: .ref a :: st)) rfl rfl (hb hby hd)
  have V := Arv.set Ar q1 S N H G (fits_nar_short x) W i hji hil
  rw [hji] at X' W
  exact (k T' h' X' e' W V).of stp
theorem g_bastore (X : Stand p l e R s m args below meth c T locs cells slots) (hx : p.tables.exec = Jvm.exec) (hby : c.code = code) (hZ : Z.Warmed39 s.vm) (eT : T.heap = h) {a : Addr} {kc : ClassId} {z j : Int32} {vs : List Value} {dv : Value} {x : Int32} (A : Arv Z h a kc .byte z vs dv) {i : Nat} (hj0 : ¬ j < 0) (hj : j < z) (hji : j.toNatClampNeg = i) (hil : i < vs.length) (hd : Ins1 code pc .bastore 1 pn)
    (k : ∀ T' h', Stand p l e R s m args below meth c T' (locs ++ [⟨a, i⟩]) cells slots → T'.heap = h' → Wr h h' a i (.int (nar .byte x)) → Arv Z h' a kc .byte z (vs.set i (.int (nar .byte x))) dv → Gd p e below P T' (mkF m pn Ls st)) : Gd p e below P T (mkF m pc Ls (.int x :: .int j :: .ref a :: st)) := by
  obtain ⟨hd, rfl⟩ := hd
  obtain ⟨cl, Ar, q1, S, N, H, G⟩ := A
  obtain ⟨T', h', X', e', W, stp⟩ := stB X hx hZ eT Ar (j := j) (inb_of S ⟨hj0, hj⟩) (g := mkF m pc Ls (.int x :: .int j :: .ref a :: st)) rfl rfl (hb hby hd)
  have V := Arv.set Ar q1 S N H G (fits_nar_byte x) W i hji hil
  rw [hji] at X' W
  exact (k T' h' X' e' W V).of stp
theorem g_iaload (X : Stand p l e R s m args below meth c T locs cells slots) (hx : p.tables.exec = Jvm.exec) (hby : c.code = code) (hZ : Z.Warmed39 s.vm) (eT : T.heap = h) {a : Addr} {kc : ClassId} {z j : Int32} {vs : List Value} {dv v : Value} (A : Arv Z h a kc .int z vs dv) {i : Nat} (hj0 : ¬ j < 0) (hj : j < z) (hji : j.toNatClampNeg = i) (hv : vs.getD i dv = v) (hd : Ins1 code pc .iaload 1 pn)
    (k : Gd p e below P T (mkF m pn Ls (v :: st))) : Gd p e below P T (mkF m pc Ls (.int j :: .ref a :: st)) := by
  obtain ⟨hd, rfl⟩ := hd
  obtain ⟨cl, Ar, q1, S, N, H, G⟩ := A
  have hin := inb_of S ⟨hj0, hj⟩
  exact k.imp fun t q => ⟨X.iaload hx (j := j) (v := v) (by rw [eT]; exact Ar.1) (State.isArrayOf_alike hZ.alike Ar.2.1) Ar.2.2 hin (H.at hin (by rw [hji]; exact hv)) (g := mkF m pc Ls (.int j :: .ref a :: st)) rfl rfl (hb hby hd) _ q.1, q.2⟩
theorem g_laload (X : Stand p l e R s m args below meth c T locs cells slots) (hx : p.tables.exec = Jvm.exec) (hby : c.code = code) (hZ : Z.Warmed39 s.vm) (eT : T.heap = h) {a : Addr} {kc : ClassId} {z j : Int32} {vs : List Value} {dv v : Value} (A : Arv Z h a kc .long z vs dv) {i : Nat} (hj0 : ¬ j < 0) (hj : j < z) (hji : j.toNatClampNeg = i) (hv : vs.getD i dv = v) (hd : Ins1 code pc .laload 1 pn)
    (k : Gd p e below P T (mkF m pn Ls (v :: st))) : Gd p e below P T (mkF m pc Ls (.int j :: .ref a :: st)) := by
  obtain ⟨hd, rfl⟩ := hd
  obtain ⟨cl, Ar, q1, S, N, H, G⟩ := A
  have hin := inb_of S ⟨hj0, hj⟩
  exact k.imp fun t q => ⟨X.laload hx (j := j) (v := v) (by rw [eT]; exact Ar.1) (State.isArrayOf_alike hZ.alike Ar.2.1) Ar.2.2 hin (H.at hin (by rw [hji]; exact hv)) (g := mkF m pc Ls (.int j :: .ref a :: st)) rfl rfl (hb hby hd) _ q.1, q.2⟩
theorem g_caload (X : Stand p l e R s m args below meth c T locs cells slots) (hx : p.tables.exec = Jvm.exec) (hby : c.code = code) (hZ : Z.Warmed39 s.vm) (eT : T.heap = h) {a : Addr} {kc : ClassId} {z j : Int32} {vs : List Value} {dv v : Value} (A : Arv Z h a kc .char z vs dv) {i : Nat} (hj0 : ¬ j < 0) (hj : j < z) (hji : j.toNatClampNeg = i) (hv : vs.getD i dv = v) (hd : Ins1 code pc .caload 1 pn)
    (k : Gd p e below P T (mkF m pn Ls (v :: st))) : Gd p e below P T (mkF m pc Ls (.int j :: .ref a :: st)) := by
  obtain ⟨hd, rfl⟩ := hd
  obtain ⟨cl, Ar, q1, S, N, H, G⟩ := A
  have hin := inb_of S ⟨hj0, hj⟩
  exact k.imp fun t q => ⟨X.caload hx (j := j) (v := v) (by rw [eT]; exact Ar.1) (State.isArrayOf_alike hZ.alike Ar.2.1) Ar.2.2 hin (H.at hin (by rw [hji]; exact hv)) (g := mkF m pc Ls (.int j :: .ref a :: st)) rfl rfl (hb hby hd) _ q.1, q.2⟩
theorem g_saload (X : Stand p l e R s m args below meth c T locs cells slots) (hx : p.tables.exec = Jvm.exec) (hby : c.code = code) (hZ : Z.Warmed39 s.vm) (eT : T.heap = h) {a : Addr} {kc : ClassId} {z j : Int32} {vs : List Value} {dv v : Value} (A : Arv Z h a kc .short z vs dv) {i : Nat} (hj0 : ¬ j < 0) (hj : j < z) (hji : j.toNatClampNeg = i) (hv : vs.getD i dv = v) (hd : Ins1 code pc .saload 1 pn)
    (k : Gd p e below P T (mkF m pn Ls (v :: st))) : Gd p e below P T (mkF m pc Ls (.int j :: .ref a :: st)) := by
  obtain ⟨hd, rfl⟩ := hd
  obtain ⟨cl, Ar, q1, S, N, H, G⟩ := A
  have hin := inb_of S ⟨hj0, hj⟩
  exact k.imp fun t q => ⟨X.saload hx (j := j) (v := v) (by rw [eT]; exact Ar.1) (State.isArrayOf_alike hZ.alike Ar.2.1) Ar.2.2 hin (H.at hin (by rw [hji]; exact hv)) (g := mkF m pc Ls (.int j :: .ref a :: st)) rfl rfl (hb hby hd) _ q.1, q.2⟩
theorem g_baload (X : Stand p l e R s m args below meth c T locs cells slots) (hx : p.tables.exec = Jvm.exec) (hby : c.code = code) (hZ : Z.Warmed39 s.vm) (eT : T.heap = h) {a : Addr} {kc : ClassId} {z j : Int32} {vs : List Value} {dv v : Value} (A : Arv Z h a kc .byte z vs dv) {i : Nat} (hj0 : ¬ j < 0) (hj : j < z) (hji : j.toNatClampNeg = i) (hv : vs.getD i dv = v) (hd : Ins1 code pc .baload 1 pn)
    (k : Gd p e below P T (mkF m pn Ls (v :: st))) : Gd p e below P T (mkF m pc Ls (.int j :: .ref a :: st)) := by
  obtain ⟨hd, rfl⟩ := hd
  obtain ⟨cl, Ar, q1, S, N, H, G⟩ := A
  have hin := inb_of S ⟨hj0, hj⟩
  exact k.imp fun t q => ⟨X.baloadBytes hx (j := j) (v := v) (by rw [eT]; exact Ar.1) (State.isArrayOf_alike hZ.alike Ar.2.1) Ar.2.2 hin (H.at hin (by rw [hji]; exact hv)) (g := mkF m pc Ls (.int j :: .ref a :: st)) rfl rfl (hb hby hd) _ q.1, q.2⟩
theorem g_arraylength (X : Stand p l e R s m args below meth c T locs cells slots) (hx : p.tables.exec = Jvm.exec) (hby : c.code = code) (hZ : Z.Warmed39 s.vm) (eT : T.heap = h) {a : Addr} {kc : ClassId} {ty : FieldType} {z : Int32} {vs : List Value} {dv : Value} (A : Arv Z h a kc ty z vs dv) (hd : Ins1 code pc .arraylength 1 pn) (k : Gd p e below P T (mkF m pn Ls (.int z :: st))) : Gd p e below P T (mkF m pc Ls (.ref a :: st)) := by
  obtain ⟨hd, rfl⟩ := hd
  obtain ⟨cl, Ar, q1, S, N, H, G⟩ := A
  rw [← len_of S N] at k
  exact k.imp fun t q => ⟨X.arraylength hx (by rw [eT]; exact Ar.1) (State.isArrayOf_alike hZ.alike Ar.2.1) (g := mkF m pc Ls (.ref a :: st)) rfl rfl (hb hby hd) _ q.1, q.2⟩
theorem g_objInit (X : Stand p l e R s m args below meth c T locs cells slots) (hx : p.tables.exec = Jvm.exec) (hby : c.code = code) (hZ : Z.Warmed39 s.vm) {own : String} {idx : Nat} (hown : s.vm.findClass own = some m.cls) (w1 : (Jvm.Cond.methodLink own idx Lib.objectInit).before a0 Z = true) (w2 : (Jvm.Cond.instanceMethod Lib.objectInit).before a0 Z = true) (w3 : (Jvm.Cond.code Lib.objectInit ⟨#[0xb1]⟩ 1 none).before a0 Z = true) (eT : T.heap = h) (hsize : Ls.size = c.maxLocals) {a : Addr} (hd : Ins1 code pc (.invokespecial idx) 3 pn)
    (W : Nat) (hW : (st.map fun v => v.category).sum = W) (hf : 1 ≤ R.frames) (hl : W + 12 ≤ R.locals) (k : ∀ T', Stand p l e R s m args below meth c T' locs cells slots → T'.heap = h → Gd p e below P T' (mkF m pn Ls st)) : Gd p e below P T (mkF m pc Ls (.ref a :: st)) := by
  obtain ⟨hd, rfl⟩ := hd
  obtain ⟨T', X', e', stp⟩ := initO X hx hZ hown w1 w2 w3 eT (g := mkF m pc Ls (.ref a :: st)) rfl hsize rfl (hb hby hd) hf (W := W) (by show 2 * 0 + _ ≤ _; rw [hW]; omega) hl
  exact (k T' X' e').of stp
theorem g_callS0 (X : Stand p l e R s m args below meth c T locs cells slots) (hx : p.tables.exec = Jvm.exec) (hby : c.code = code) (hZ : Z.Warmed39 s.vm) {y : MethodName} {bytes : ByteArray} {maxL : Nat} {ret : Option FieldType} {rm : Room} {argsL rest : List Value} {Q : Option Value → Heap → List Loc → Prop} {own : String} {index : Nat} (hown : s.vm.findClass own = some m.cls) (w1 : (Jvm.Cond.methodLink own index y).before a0 Z = true) (w2 : (Jvm.Cond.static y).before a0 Z = true) (w3 : (Jvm.Cond.initialized y.cls).before a0 Z = true) (w4 : (Jvm.Cond.code y bytes maxL ret).before a0 Z = true) (hy : y.cls ≠ "java/lang/invoke/MethodHandle" ∧ y.cls ≠ "java/lang/invoke/VarHandle")
    (M : Met1 l y bytes maxL ret [] rm argsL.toArray Z h Q) (eT : T.heap = h) (hsize : Ls.size = c.maxLocals) {ps : List FieldType} {r : Option FieldType} (hpd : parseMethodDescriptor y.desc = some ⟨ps, r⟩) (hlen : argsL.length = ps.length) (hst : st = argsL.reverse ++ rest) (hd : Ins1 code pc (.invokestatic index) 3 pn) (hf : rm.frames + 1 ≤ R.frames) (W : Nat) (hW : (rest.map fun v => v.category).sum = W) (hl : W + (maxL + 11) + rm.locals ≤ R.locals) (hcl : cells + rm.cells ≤ R.cells) (hsl : slots + rm.slots ≤ R.slots)
    (k : ∀ T' v L, Stand p l e R s m args below meth c T' (locs ++ L) (cells + rm.cells) (slots + rm.slots) → Q v T'.heap L → Gd p e below P T' (mkF m pn Ls (v.toList ++ rest))) : Gd p e below P T (mkF m pc Ls st) := by
  obtain ⟨hd, rfl⟩ := hd
  obtain ⟨v, _, ⟨T', L', k', n'⟩, -, X', ⟨Lc, hQ, l1, y1, z1⟩, stp⟩ := Jvm.LawKit.callS X hx (y := y) hown (mvT hZ w1) (mvT hZ w2) (mvT hZ w3) (mvT hZ w4) hy (backOf (W := W) M hZ w4 w3 hf hl) (g := mkF m pc Ls st) rfl hsize (argsL := argsL) (rest := rest) (lenOf hpd hlen) hst (by show 2 * 0 + _ ≤ _; rw [hW]; omega) (hb hby hd) (fun _ _ => ⟨rfl, eT, hcl, hsl⟩)
  dsimp only [Pt.U, Pt.locs, Pt.cells, Pt.slots] at X' l1 y1 z1 stp hQ
  subst l1 y1 z1
  exact (k T' v Lc X' hQ).of stp
theorem g_callInit0 (X : Stand p l e R s m args below meth c T locs cells slots) (hx : p.tables.exec = Jvm.exec) (hby : c.code = code) (hZ : Z.Warmed39 s.vm) {y : MethodName} {bytes : ByteArray} {maxL : Nat} {rm : Room} {argsL rest : List Value} {Q : Option Value → Heap → List Loc → Prop} {own : String} {index : Nat} (hy1 : y.name = "<init>") (hown : s.vm.findClass own = some m.cls) (w1 : (Jvm.Cond.methodLink own index y).before a0 Z = true) (w2 : (Jvm.Cond.instanceMethod y).before a0 Z = true) (w3 : (Jvm.Cond.initialized y.cls).before a0 Z = true) (w4 : (Jvm.Cond.code y bytes maxL none).before a0 Z = true) (hy : y.cls ≠ "java/lang/invoke/MethodHandle" ∧ y.cls ≠ "java/lang/invoke/VarHandle")
    {a : Addr} (M : Met1 l y bytes maxL none [] rm (.ref a :: argsL).toArray Z h Q) (eT : T.heap = h) (hsize : Ls.size = c.maxLocals) {ps : List FieldType} {r : Option FieldType} (hpd : parseMethodDescriptor y.desc = some ⟨ps, r⟩) (hlen : argsL.length = ps.length) (hst : st = argsL.reverse ++ .ref a :: rest) (hd : Ins1 code pc (.invokespecial index) 3 pn) (hf : rm.frames + 1 ≤ R.frames) (W : Nat) (hW : (rest.map fun v => v.category).sum = W) (hl : W + (maxL + 11) + rm.locals ≤ R.locals) (hcl : cells + rm.cells ≤ R.cells) (hsl : slots + rm.slots ≤ R.slots)
    (k : ∀ T' v L, Stand p l e R s m args below meth c T' (locs ++ L) (cells + rm.cells) (slots + rm.slots) → Q v T'.heap L → Gd p e below P T' (mkF m pn Ls (v.toList ++ rest))) : Gd p e below P T (mkF m pc Ls st) := by
  obtain ⟨hd, rfl⟩ := hd
  obtain ⟨v, _, ⟨T', L', k', n'⟩, -, X', ⟨Lc, hQ, l1, y1, z1⟩, stp⟩ := X.specialBack hx (y := y) hy1 hown (mvT hZ w1) (mvT hZ w2) (mvT hZ w4) hy (backOf (W := W) M hZ w4 w3 hf hl) (g := mkF m pc Ls st) rfl hsize (Steps.refl _) (a := a) (argsL := argsL) (rest := rest) (lenOf hpd hlen) hst (by show 2 * 0 + _ ≤ _; rw [hW]; omega) (hb hby hd) (fun _ _ => ⟨rfl, eT, hcl, hsl⟩)
  dsimp only [Pt.U, Pt.locs, Pt.cells, Pt.slots] at X' l1 y1 z1 stp hQ
  subst l1 y1 z1
  exact (k T' v Lc X' hQ).of fun t q => stp.trans q
theorem g_callV0 (X : Stand p l e R s m args below meth c T locs cells slots) (hx : p.tables.exec = Jvm.exec) (hby : c.code = code) (hZ : Z.Warmed39 s.vm) {y : MethodName} {bytes : ByteArray} {maxL : Nat} {ret : Option FieldType} {rm : Room} {argsL rest : List Value} {Q : Option Value → Heap → List Loc → Prop} {own C : String} {index : Nat} {y0 : MethodName} (hown : s.vm.findClass own = some m.cls) (w1 : (Jvm.Cond.methodLink own index y0).before a0 Z = true) (w2 : (Jvm.Cond.declares y0).before a0 Z = true) (hnf : NotFace s y0) (w5 : (Jvm.Cond.selects C y0 y).before a0 Z = true) (w6 : (Jvm.Cond.instanceMethod y).before a0 Z = true) (w3 : (Jvm.Cond.initialized y.cls).before a0 Z = true) (w4 : (Jvm.Cond.code y bytes maxL ret).before a0 Z = true) (hy : y0.cls ≠ "java/lang/invoke/MethodHandle" ∧ y0.cls ≠ "java/lang/invoke/VarHandle")
    {a : Addr} (E : Exa Z h a C) (M : Met1 l y bytes maxL ret [] rm (.ref a :: argsL).toArray Z h Q) (eT : T.heap = h) (hsize : Ls.size = c.maxLocals) {ps : List FieldType} {r : Option FieldType} (hpd : parseMethodDescriptor y0.desc = some ⟨ps, r⟩) (hlen : argsL.length = ps.length) (hst : st = argsL.reverse ++ .ref a :: rest) (hd : Ins1 code pc (.invokevirtual index) 3 pn) (hf : rm.frames + 1 ≤ R.frames) (W : Nat) (hW : (rest.map fun v => v.category).sum = W) (hl : W + (maxL + 11) + rm.locals ≤ R.locals) (hcl : cells + rm.cells ≤ R.cells) (hsl : slots + rm.slots ≤ R.slots)
    (k : ∀ T' v L, Stand p l e R s m args below meth c T' (locs ++ L) (cells + rm.cells) (slots + rm.slots) → Q v T'.heap L → Gd p e below P T' (mkF m pn Ls (v.toList ++ rest))) : Gd p e below P T (mkF m pc Ls st) := by
  obtain ⟨hd, rfl⟩ := hd
  obtain ⟨cq, kq, qa, qb, qc⟩ := isOf hZ eT E
  obtain ⟨v, _, ⟨T', L', k', n'⟩, -, X', ⟨Lc, hQ, l1, y1, z1⟩, stp⟩ := X.virtualBack hx (y := y0) (z := y) hown (mvT hZ w1) (mvT hZ w2) hnf (mvT hZ w5) (mvT hZ w6) hy (backOf (W := W) M hZ w4 w3 hf hl) qa qc (g := mkF m pc Ls st) rfl hsize (Steps.refl _) (argsL := argsL) (rest := rest) (lenOf hpd hlen) hst (by show 2 * 0 + _ ≤ _; rw [hW]; omega) (hb hby hd) (fun _ _ => ⟨rfl, eT, hcl, hsl⟩)
  dsimp only [Pt.U, Pt.locs, Pt.cells, Pt.slots] at X' l1 y1 z1 stp hQ
  subst l1 y1 z1
  exact (k T' v Lc X' hQ).of fun t q => stp.trans q
theorem g_ireturn (X : Stand p l e R s m args below meth c T locs cells slots) (hx : p.tables.exec = Jvm.exec) (hby : c.code = code) (hret : meth.sig.returnType = some .int) (hlk : meth.locks = false) {z : Int32} {Q : Option Value → Heap → List Loc → Prop} {C S : Nat} (hd : Ins1 code pc .ireturn 1 pn) (hc : cells ≤ C) (hs : slots ≤ S) (hQ : Q (some (.int z)) T.heap locs) : Gd p e below (Fin1 s below C S Q) T (mkF m pc Ls (.int z :: st)) := by
  obtain ⟨fs, hr, hrun, hended, hW, hsame⟩ := X.leave (v := some (.int z)) (fun q => by rw [hret] at q; cases q) hlk
  exact ⟨_, retOut X hx (t := .int) hret rfl (Or.inl ⟨rfl, Or.inl rfl, z, rfl⟩) (hb hby hd.1) hr, _, hrun, hended, _, _, rfl, hQ, ⟨_, rfl⟩, hW, hsame.mono hc hs⟩
theorem g_ireturnN (X : Stand p l e R s m args below meth c T locs cells slots) (hx : p.tables.exec = Jvm.exec) (hby : c.code = code) {ty : FieldType} (hret : meth.sig.returnType = some ty) (hty : ty = .boolean ∨ ty = .byte ∨ ty = .char ∨ ty = .short) (hlk : meth.locks = false) {z : Int32} {Q : Option Value → Heap → List Loc → Prop} {C S : Nat} (hd : Ins1 code pc .ireturn 1 pn) (hc : cells ≤ C) (hs : slots ≤ S) (hQ : Q (some (.int (nar ty z))) T.heap locs) : Gd p e below (Fin1 s below C S Q) T (mkF m pc Ls (.int z :: st)) := by
  obtain ⟨fs, hr, hrun, hended, hW, hsame⟩ := X.leave (v := some (.int (nar ty z))) (fun q => by rw [hret] at q; cases q) hlk
  exact ⟨_, retN X hx hret hty (hb hby hd.1) hr, _, hrun, hended, _, _, rfl, hQ, ⟨_, rfl⟩, hW, hsame.mono hc hs⟩
theorem g_lreturn (X : Stand p l e R s m args below meth c T locs cells slots) (hx : p.tables.exec = Jvm.exec) (hby : c.code = code) (hret : meth.sig.returnType = some .long) (hlk : meth.locks = false) {z : Int64} {Q : Option Value → Heap → List Loc → Prop} {C S : Nat} (hd : Ins1 code pc .lreturn 1 pn) (hc : cells ≤ C) (hs : slots ≤ S) (hQ : Q (some (.long z)) T.heap locs) : Gd p e below (Fin1 s below C S Q) T (mkF m pc Ls (.long z :: st)) := by
  obtain ⟨fs, hr, hrun, hended, hW, hsame⟩ := X.leave (v := some (.long z)) (fun q => by rw [hret] at q; cases q) hlk
  exact ⟨_, retOut X hx (t := .long) hret rfl (Or.inr (Or.inl ⟨rfl, rfl, z, rfl⟩)) (hb hby hd.1) hr, _, hrun, hended, _, _, rfl, hQ, ⟨_, rfl⟩, hW, hsame.mono hc hs⟩
theorem g_dreturn (X : Stand p l e R s m args below meth c T locs cells slots) (hx : p.tables.exec = Jvm.exec) (hby : c.code = code) (hret : meth.sig.returnType = some .double) (hlk : meth.locks = false) {z : UInt64} {Q : Option Value → Heap → List Loc → Prop} {C S : Nat} (hd : Ins1 code pc .dreturn 1 pn) (hc : cells ≤ C) (hs : slots ≤ S) (hQ : Q (some (.double z)) T.heap locs) : Gd p e below (Fin1 s below C S Q) T (mkF m pc Ls (.double z :: st)) := by
  obtain ⟨fs, hr, hrun, hended, hW, hsame⟩ := X.leave (v := some (.double z)) (fun q => by rw [hret] at q; cases q) hlk
  exact ⟨_, retOut X hx (t := .double) hret rfl (Or.inr (Or.inr (Or.inl ⟨rfl, rfl, z, rfl⟩))) (hb hby hd.1) hr, _, hrun, hended, _, _, rfl, hQ, ⟨_, rfl⟩, hW, hsame.mono hc hs⟩
theorem g_areturn (X : Stand p l e R s m args below meth c T locs cells slots) (hx : p.tables.exec = Jvm.exec) (hby : c.code = code) {ty : FieldType} (hret : meth.sig.returnType = some ty) (hty : ty.isReference = true) (hn : ∀ v, narrow ty v = v) (hlk : meth.locks = false) {z : Value} (hz : z.isRef = true) {Q : Option Value → Heap → List Loc → Prop} {C S : Nat} (hd : Ins1 code pc .areturn 1 pn) (hc : cells ≤ C) (hs : slots ≤ S) (hQ : Q (some z) T.heap locs) : Gd p e below (Fin1 s below C S Q) T (mkF m pc Ls (z :: st)) := by
  obtain ⟨fs, hr, hrun, hended, hW, hsame⟩ := X.leave (v := some z) (fun q => by rw [hret] at q; cases q) hlk
  exact ⟨_, retOut X hx hret (hn z) (Or.inr (Or.inr (Or.inr (Or.inr ⟨rfl, hty, hz⟩)))) (hb hby hd.1) hr, _, hrun, hended, _, _, rfl, hQ, ⟨_, rfl⟩, hW, hsame.mono hc hs⟩
theorem g_return (X : Stand p l e R s m args below meth c T locs cells slots) (hx : p.tables.exec = Jvm.exec) (hby : c.code = code) (hret : meth.sig.returnType = none) (hlk : meth.locks = false) {Q : Option Value → Heap → List Loc → Prop} {C S : Nat} (hd : Ins1 code pc .return_ 1 pn) (hc : cells ≤ C) (hs : slots ≤ S) (hQ : Q none T.heap locs) : Gd p e below (Fin1 s below C S Q) T (mkF m pc Ls []) := by
  obtain ⟨fs, hr, hrun, hended, hW, hsame⟩ := X.leave (v := none) (fun _ => rfl) hlk
  exact ⟨_, X.returnOut hx hret (hb hby hd.1) hr, _, hrun, hended, _, _, rfl, hQ, ⟨_, rfl⟩, hW, hsame.mono hc hs⟩
theorem own_stat {C n d K : String} (hx : (Jvm.Cond.exactly (.static C n d) K).value args Z none Z [] = some true) (w1 : (Jvm.Cond.initialized C).before args Z = true) (w2 : (Jvm.Cond.laysStatic C n d).before args Z = true) : ∃ a, (Term.static C n d).eval args Z none [] Z = some (.ref a) ∧ Sta Z Z.heap C n d (.ref a) ∧ Exa Z Z.heap a K := by
  obtain ⟨a, c', cell, k, e1, -⟩ := Cond.exactly_spec (Cond.before_iff.mpr hx)
  exact ⟨a, e1, Sta.start e1 (Or.inr ⟨w1, w2⟩), Exa.start e1 hx⟩
theorem own_sfld {t : Term} {a : Addr} {C f dd : String} {n : Int32} (ev : t.eval args Z none [] Z = some (.ref a)) (q : (Jvm.Cond.eq (.field t C f dd) (.int n)).value args Z none Z [] = some true) : Fld Z Z.heap a C f dd (.int n) := Fld.start (by rw [← fld_at (C := C) (n := f) (dd := dd) ev]; exact eqv_i (Term.int_eval n) q)
end K
end Jvm.OwnG
namespace Jvm.Pilot.@@N@@
open Jvm Jvm.ClassFile Sem Op Lib Jvm.Free Jvm.Stand Jvm.LawKit Jvm.RoadKit Jvm.OwnG Bundle Jvm.Pilot.@@N@@.Jvm.D
def own_at (k l : Int32) (c : Int64) : Int64 := if l = k then c else 0
def own_up (l : Int32) (c : Int64) (k : Int32) (r : Int64) : Int64 := if l = k then r + c else r
def own_sel (i : Int32) (r0 r1 r2 : Int64) : Int64 := if i = 0 then r0 else if i = 1 then r1 else r2
def own_max (a b : Int64) : Int64 := if a < b then b else a
def own_low (r0 r1 r2 : Int64) : Int32 := if r0 = 0 then (if r1 = 0 then 2 else 1) else 0
theorem own_low3 (r0 r1 r2 : Int64) : own_low r0 r1 r2 = 0 ∨ own_low r0 r1 r2 = 1 ∨ own_low r0 r1 r2 = 2 := by
  unfold own_low
  split
  · split
    · exact Or.inr (Or.inr rfl)
    · exact Or.inr (Or.inl rfl)
  · exact Or.inl rfl
theorem own_set {p1 : Int32} {q2 r0 r1 r2 : Int64} (hl : p1 = 0 ∨ p1 = 1 ∨ p1 = 2) : ([(.long r0), (.long r1), (.long r2)] : List Value).set p1.toNatClampNeg (.long (own_sel p1 r0 r1 r2 + q2)) = [(.long (own_up p1 q2 0 r0)), (.long (own_up p1 q2 1 r1)), (.long (own_up p1 q2 2 r2))] := by
  rcases hl with rfl | rfl | rfl <;> rfl
theorem own_nnL (a b : Int64) (hb : b ≠ 0) : Jvm.Free.Fl.NoNaN64 (FP.ddiv (FP.l2d a) (FP.l2d b)) := ((ddiv_mag (Jvm.Free.Fl.l2d_mag a) (l2d_big hb) (by decide) (by decide)).fin (by decide)).noNaN
theorem own_mod3 {v x : Int32} (hv : v = ((x &&& (2147483647 : Int32)) % (3 : Int32))) : v = 0 ∨ v = 1 ∨ v = 2 := by
  have m := c_mask x 2147483647 31 (by decide) (by decide)
  have r := (c_irem (x &&& 2147483647) 3 3 (by decide)).1 (by omega)
  rw [← hv] at r
  have e0 : (0 : Int32).toInt = 0 := by decide
  have e1 : (1 : Int32).toInt = 1 := by decide
  have e2 : (2 : Int32).toInt = 2 := by decide
  simp only [← Int32.toInt_inj, e0, e1, e2]
  omega
theorem own_upat (l : Int32) (c : Int64) (k : Int32) (r : Int64) : own_up l c k r = r + own_at k l c := by
  unfold own_up own_at
  split
  · rfl
  · exact (Int64.add_zero r).symm
theorem own_sum (k l1 l2 l3 : Int32) (c1 c2 c3 : Int64) : own_up l3 c3 k (own_up l2 c2 k (own_up l1 c1 k 0)) = own_at k l1 c1 + own_at k l2 c2 + own_at k l3 c3 := by
  simp only [own_upat, Int64.zero_add]
theorem own_z0 {c1 c2 c3 : Int64} : (0 + c1) + c2 + c3 = c1 + c2 + c3 := by rw [Int64.zero_add]
theorem own_atT (k l : Int32) (c : Int64) : (own_at k l c).toInt = if l = k then c.toInt else 0 := by
  unfold own_at
  split
  · rfl
  · decide
theorem own_add3 (x y z : Int64) (h1 : 0 ≤ x.toInt) (h2 : 0 ≤ y.toInt) (h3 : 0 ≤ z.toInt) (k1 : x.toInt ≤ 1099511627776) (k2 : y.toInt ≤ 1099511627776) (k3 : z.toInt ≤ 1099511627776) : (x + y + z).toInt = x.toInt + y.toInt + z.toInt := by
  have a := c_ladd x y
  have b := c_ladd (x + y) z
  have r1 := rng64 (x + y)
  have r2 := rng64 (x + y + z)
  omega
theorem own_maxT (a b : Int64) : (own_max a b).toInt = if a.toInt < b.toInt then b.toInt else a.toInt := by
  unfold own_max
  simp only [Int64.lt_iff_toInt_lt]
  split <;> rfl
theorem own_mx {r0 r1 r2 : Int64} (h0 : 0 ≤ r0.toInt) (h1 : 0 ≤ r1.toInt) (h2 : 0 ≤ r2.toInt) : own_max (own_max (own_max 0 r0) r1) r2 = own_max r0 (own_max r1 r2) := by
  have e0 : (0 : Int64).toInt = 0 := by decide
  apply Int64.toInt_inj.mp
  simp only [own_maxT, e0]
  repeat' split
  all_goals omega
theorem own_facts {l1 l2 l3 : Int32} {c1 c2 c3 x1 x2 x3 r0 r1 r2 t : Int64} (hl : l1 = 0 ∨ l1 = 1 ∨ l1 = 2) (k1 : c1 = (x1 &&& (1099511627775 : Int64)) + (1 : Int64)) (k2 : c2 = x2 &&& (1099511627775 : Int64)) (k3 : c3 = x3 &&& (1099511627775 : Int64))
    (h0 : r0 = own_at 0 l1 c1 + own_at 0 l2 c2 + own_at 0 l3 c3) (h1 : r1 = own_at 1 l1 c1 + own_at 1 l2 c2 + own_at 1 l3 c3) (h2 : r2 = own_at 2 l1 c1 + own_at 2 l2 c2 + own_at 2 l3 c3) (ht : t = c1 + c2 + c3) :
    ¬ (r0 = (0 : Int64) ∧ r1 = (0 : Int64) ∧ r2 = (0 : Int64)) ∧ t ≠ 0 ∧ 0 ≤ r0.toInt ∧ 0 ≤ r1.toInt ∧ 0 ≤ r2.toInt := by
  have e0 : (0 : Int64).toInt = 0 := by decide
  have e1 : (1 : Int64).toInt = 1 := by decide
  have m1 := c_maskL x1 1099511627775 40 (by decide) (by decide)
  have m2 := c_maskL x2 1099511627775 40 (by decide) (by decide)
  have m3 := c_maskL x3 1099511627775 40 (by decide) (by decide)
  have a1 := c_ladd (x1 &&& 1099511627775) 1
  have q1 := rng64 ((x1 &&& 1099511627775) + 1)
  rw [e1] at a1
  rw [← k1] at a1 q1
  rw [← k2] at m2
  rw [← k3] at m3
  have c1b : 1 ≤ c1.toInt ∧ c1.toInt ≤ 1099511627776 := by omega
  have c2b : 0 ≤ c2.toInt ∧ c2.toInt ≤ 1099511627776 := by omega
  have c3b : 0 ≤ c3.toInt ∧ c3.toInt ≤ 1099511627776 := by omega
  have B : ∀ (k l : Int32) (c : Int64), 0 ≤ c.toInt ∧ c.toInt ≤ 1099511627776 → 0 ≤ (own_at k l c).toInt ∧ (own_at k l c).toInt ≤ 1099511627776 := by
    intro k l c h
    rw [own_atT]
    split <;> omega
  have c1b' : 0 ≤ c1.toInt ∧ c1.toInt ≤ 1099511627776 := by omega
  have s : ∀ k : Int32, (own_at k l1 c1 + own_at k l2 c2 + own_at k l3 c3).toInt = (own_at k l1 c1).toInt + (own_at k l2 c2).toInt + (own_at k l3 c3).toInt := fun k =>
    own_add3 _ _ _ (B k l1 c1 c1b').1 (B k l2 c2 c2b).1 (B k l3 c3 c3b).1 (B k l1 c1 c1b').2 (B k l2 c2 c2b).2 (B k l3 c3 c3b).2
  have s0 := s 0
  have s1 := s 1
  have s2 := s 2
  rw [← h0] at s0
  rw [← h1] at s1
  rw [← h2] at s2
  have tt := own_add3 c1 c2 c3 (by omega) (by omega) (by omega) (by omega) (by omega) (by omega)
  rw [← ht] at tt
  have b01 := B 0 l1 c1 c1b'
  have b02 := B 0 l2 c2 c2b
  have b03 := B 0 l3 c3 c3b
  have b11 := B 1 l1 c1 c1b'
  have b12 := B 1 l2 c2 c2b
  have b13 := B 1 l3 c3 c3b
  have b21 := B 2 l1 c1 c1b'
  have b22 := B 2 l2 c2 c2b
  have b23 := B 2 l3 c3 c3b
  have one : (own_at 0 l1 c1).toInt + (own_at 1 l1 c1).toInt + (own_at 2 l1 c1).toInt = c1.toInt := by
    simp only [own_atT]
    rcases hl with rfl | rfl | rfl <;> simp
  refine ⟨fun ⟨z0, z1, z2⟩ => ?_, fun z => ?_, by omega, by omega, by omega⟩
  · rw [z0, e0] at s0
    rw [z1, e0] at s1
    rw [z2, e0] at s2
    omega
  · rw [z, e0] at tt
    omega
theorem i1_0 : Ins1 prog_3_method_1_code 0 (.aload_n 0) 1 1 := ⟨by decide +kernel, rfl⟩
theorem i1_1 : Ins1 prog_3_method_1_code 1 (.invokespecial 1) 3 4 := ⟨by decide +kernel, rfl⟩
theorem i1_4 : Ins1 prog_3_method_1_code 4 (.aload_n 0) 1 5 := ⟨by decide +kernel, rfl⟩
theorem i1_5 : Ins1 prog_3_method_1_code 5 (.iload_n 1) 1 6 := ⟨by decide +kernel, rfl⟩
theorem i1_6 : Ins1 prog_3_method_1_code 6 (.iconst 1) 1 7 := ⟨by decide +kernel, rfl⟩
theorem i1_7 : Ins1 prog_3_method_1_code 7 (.iadd) 1 8 := ⟨by decide +kernel, rfl⟩
theorem i1_8 : Ins1 prog_3_method_1_code 8 (.newarray .long) 2 10 := ⟨by decide +kernel, rfl⟩
theorem i1_10 : Ins1 prog_3_method_1_code 10 (.putfield 7) 3 13 := ⟨by decide +kernel, rfl⟩
theorem i1_13 : Ins1 prog_3_method_1_code 13 (.return_) 1 14 := ⟨by decide +kernel, rfl⟩
theorem pn_com_example_value_generalizer_valuegeneralizer_ColumnLevels : plainName "com/example/value_generalizer/valuegeneralizer/ColumnLevels" = true := by first | (simp [plainName, overriddenIn]; done) | decide +kernel
theorem ef_1 (m : MethodId) (a0' : Addr) (p1 : Int32) : entryFrame m #[(.ref a0'), (.int p1)] 2 = mkF m 0 #[.val (.ref a0'), .val (.int p1)] [] := by first | (simp [entryFrame, mkF, argsToLocals, Value.category]; done) | rfl
set_option maxRecDepth 65536 in
set_option maxHeartbeats 40000000 in
theorem rm1 (l : Launch) (Z : State) (a0 : Array Value) (hw : ∀ d ∈ tables_1, d.before a0 Z = true) (ws : List Jvm.Cond) (a0' : Addr) (p1 : Int32)  (h0 : Heap) (n0 : Nat) (Z0 : n0 ≤ h0.size) (E_a : Exa Z h0 a0' "com/example/value_generalizer/valuegeneralizer/ColumnLevels") (F_r : Fld Z h0 a0' "com/example/value_generalizer/valuegeneralizer/ColumnLevels" "records" "[J" .null) (F_t : Fld Z h0 a0' "com/example/value_generalizer/valuegeneralizer/ColumnLevels" "total" "J" (.long 0)) (g_a0' : n0 ≤ a0') (hp : p1 = 2) :
    Met1 l (⟨"com/example/value_generalizer/valuegeneralizer/ColumnLevels", "<init>", "(I)V"⟩ : MethodName) prog_3_method_1_code 2 none ws ({ frames := 1, cells := 1, slots := 3, locals := 12 } : Room) #[(.ref a0'), (.int p1)] Z h0 (RN fun h L => ∃ b kc, Keep h0 h [a0'] ∧ Exa Z h a0' "com/example/value_generalizer/valuegeneralizer/ColumnLevels" ∧ Fld Z h a0' "com/example/value_generalizer/valuegeneralizer/ColumnLevels" "records" "[J" (.ref b) ∧ Fld Z h a0' "com/example/value_generalizer/valuegeneralizer/ColumnLevels" "total" "J" (.long 0) ∧ Arv Z h b kc .long (3 : Int32) [(.long (0 : Int64)), (.long (0 : Int64)), (.long (0 : Int64))] (.long (0 : Int64)) ∧ n0 ≤ b ∧ h0.size ≤ b ∧ Fr n0 L) := by
  refine met_of (plainFor_of_name pn_com_example_value_generalizer_valuegeneralizer_ColumnLevels) ?_
  intro p e s m below meth c T0 X0 hx hby hml hZ hown hnm hret hlk e0 es
  have N0 := Fr.nil n0
  refine Gd.cast (ef_1 m a0' p1) ?_
  subst hp
  have K0 : Keep h0 h0 [a0'] := Keep.refl _ _
  refine g_aloadN X0 hx hby i1_0 rfl rfl ?_
  refine g_objInit X0 hx hby hZ hown (hw _ (List.mem_of_getElem? (i := 8) rfl)) (hw _ (List.mem_of_getElem? (i := 9) rfl)) (hw _ (List.mem_of_getElem? (i := 10) rfl)) e0 (by rw [hml]; rfl) i1_1 0 rfl (by decide) (by decide) fun T1 X1 e1 => ?_
  refine g_aloadN X1 hx hby i1_4 rfl rfl ?_
  refine g_iloadN X1 hx hby i1_5 rfl ?_
  refine g_iconst X1 hx hby i1_6 (z := (1 : Int32)) (by decide) ?_
  refine g_iadd X1 hx hby i1_7 ?_
  refine g_newarray X1 hx hby hZ (ty := .long) rfl (hw _ (List.mem_of_getElem? (i := 11) rfl)) e1 i1_8 (by decide) 3 (by decide) (by decide) (by decide) (by decide) fun T2 h2 b2 k2 X2 e2 E2 hb2 V2 => ?_
  have ne_a0'_b2 : a0' ≠ b2 := Nat.ne_of_lt (Nat.lt_of_lt_of_le E_a.lt (Nat.le_of_eq hb2.symm))
  have g_b2 : n0 ≤ b2 := Nat.le_trans Z0 (Nat.le_of_eq hb2.symm)
  have E_a := E_a.ext E2
  have F_r := F_r.ext E2
  have F_t := F_t.ext E2
  have sz_b2 : h0.size ≤ b2 := Nat.le_trans K0.1 (Nat.le_of_eq hb2.symm)
  have K0 := K0.ext E2
  have Z0 : n0 ≤ h2.size := Nat.le_trans Z0 E2.1
  have V2 : Arv Z h2 b2 k2 .long ((2 : Int32) + (1 : Int32)) [] (.long (0 : Int64)) := V2
  refine g_putfield X2 hx hby hZ hown (host := "") (Or.inl (hw _ (List.mem_of_getElem? (i := 12) rfl))) Via.refl e2 F_r E_a (Or.inr ⟨(hw _ (List.mem_of_getElem? (i := 13) rfl)), rfl, hnm⟩) (hw _ (List.mem_of_getElem? (i := 3) rfl)) (ty := (.array .long)) (by decide) rfl rfl i1_10 fun T3 h3 X3 e3 W3 => ?_
  have F_r := F_r.same W3
  have E_a := E_a.wr W3
  have F_t := F_t.other W3 (Or.inr (slot_ne (Or.inl (hw _ (List.mem_of_getElem? (i := 20) rfl))) (Or.inr (hw _ (List.mem_of_getElem? (i := 13) rfl))) (by decide) (t := .long) (t' := (.array .long)) (by decide) (by decide)))
  have V2 := V2.other W3 (Ne.symm ne_a0'_b2)
  have Z0 : n0 ≤ h3.size := Nat.le_trans Z0 (Nat.le_of_eq W3.size.symm)
  have N0 := Fr.snoc X3 N0 g_a0'
  have K0 := K0.wr W3 (Or.inl (List.mem_singleton.mpr rfl))
  refine g_return X3 hx hby hret hlk i1_13 (by decide) (by decide) ?_
  rw [e3]
  exact ⟨rfl, b2, k2, K0, E_a, F_r, F_t, V2.pad (pad_rep [] _ 3), g_b2, sz_b2, N0⟩
theorem i3_0 : Ins1 prog_3_method_2_code 0 (.aload_n 0) 1 1 := ⟨by decide +kernel, rfl⟩
theorem i3_1 : Ins1 prog_3_method_2_code 1 (.getfield 7) 3 4 := ⟨by decide +kernel, rfl⟩
theorem i3_4 : Ins1 prog_3_method_2_code 4 (.iload_n 1) 1 5 := ⟨by decide +kernel, rfl⟩
theorem i3_5 : Ins1 prog_3_method_2_code 5 (.dup2) 1 6 := ⟨by decide +kernel, rfl⟩
theorem i3_6 : Ins1 prog_3_method_2_code 6 (.laload) 1 7 := ⟨by decide +kernel, rfl⟩
theorem i3_7 : Ins1 prog_3_method_2_code 7 (.lload_n 2) 1 8 := ⟨by decide +kernel, rfl⟩
theorem i3_8 : Ins1 prog_3_method_2_code 8 (.ladd) 1 9 := ⟨by decide +kernel, rfl⟩
theorem i3_9 : Ins1 prog_3_method_2_code 9 (.lastore) 1 10 := ⟨by decide +kernel, rfl⟩
theorem i3_10 : Ins1 prog_3_method_2_code 10 (.aload_n 0) 1 11 := ⟨by decide +kernel, rfl⟩
theorem i3_11 : Ins1 prog_3_method_2_code 11 (.dup) 1 12 := ⟨by decide +kernel, rfl⟩
theorem i3_12 : Ins1 prog_3_method_2_code 12 (.getfield 13) 3 15 := ⟨by decide +kernel, rfl⟩
theorem i3_15 : Ins1 prog_3_method_2_code 15 (.lload_n 2) 1 16 := ⟨by decide +kernel, rfl⟩
theorem i3_16 : Ins1 prog_3_method_2_code 16 (.ladd) 1 17 := ⟨by decide +kernel, rfl⟩
theorem i3_17 : Ins1 prog_3_method_2_code 17 (.putfield 13) 3 20 := ⟨by decide +kernel, rfl⟩
theorem i3_20 : Ins1 prog_3_method_2_code 20 (.return_) 1 21 := ⟨by decide +kernel, rfl⟩
theorem ef_3 (m : MethodId) (a0' : Addr) (p1 : Int32) (q2 : Int64) : entryFrame m #[(.ref a0'), (.int p1), (.long q2)] 4 = mkF m 0 #[.val (.ref a0'), .val (.int p1), .val (.long q2), .second] [] := by first | (simp [entryFrame, mkF, argsToLocals, Value.category]; done) | rfl
set_option maxRecDepth 65536 in
set_option maxHeartbeats 40000000 in
theorem rm3 (l : Launch) (Z : State) (a0 : Array Value) (hw : ∀ d ∈ tables_1, d.before a0 Z = true) (ws : List Jvm.Cond) (a0' : Addr) (p1 : Int32) (q2 : Int64) (b : Addr) (kc : ClassId) (r0 r1 r2 t : Int64) (h0 : Heap) (n0 : Nat) (Z0 : n0 ≤ h0.size) (E_a : Exa Z h0 a0' "com/example/value_generalizer/valuegeneralizer/ColumnLevels") (F_r : Fld Z h0 a0' "com/example/value_generalizer/valuegeneralizer/ColumnLevels" "records" "[J" (.ref b)) (F_t : Fld Z h0 a0' "com/example/value_generalizer/valuegeneralizer/ColumnLevels" "total" "J" (.long t)) (V : Arv Z h0 b kc .long (3 : Int32) [(.long r0), (.long r1), (.long r2)] (.long (0 : Int64))) (g_a0' : n0 ≤ a0') (g_b : n0 ≤ b) (hab : a0' ≠ b) (hl : p1 = 0 ∨ p1 = 1 ∨ p1 = 2) :
    Met1 l (⟨"com/example/value_generalizer/valuegeneralizer/ColumnLevels", "add", "(IJ)V"⟩ : MethodName) prog_3_method_2_code 4 none ws ({ frames := 0, cells := 0, slots := 0, locals := 0 } : Room) #[(.ref a0'), (.int p1), (.long q2)] Z h0 (RN fun h L => Keep h0 h [a0', b] ∧ Exa Z h a0' "com/example/value_generalizer/valuegeneralizer/ColumnLevels" ∧ Fld Z h a0' "com/example/value_generalizer/valuegeneralizer/ColumnLevels" "records" "[J" (.ref b) ∧ Fld Z h a0' "com/example/value_generalizer/valuegeneralizer/ColumnLevels" "total" "J" (.long (t + q2)) ∧ Arv Z h b kc .long (3 : Int32) [(.long (own_up p1 q2 0 r0)), (.long (own_up p1 q2 1 r1)), (.long (own_up p1 q2 2 r2))] (.long (0 : Int64)) ∧ Fr n0 L) := by
  refine met_of (plainFor_of_name pn_com_example_value_generalizer_valuegeneralizer_ColumnLevels) ?_
  intro p e s m below meth c T0 X0 hx hby hml hZ hown hnm hret hlk e0 es
  have N0 := Fr.nil n0
  refine Gd.cast (ef_3 m a0' p1 q2) ?_
  have K0 : Keep h0 h0 [a0', b] := Keep.refl _ _
  refine g_aloadN X0 hx hby i3_0 rfl rfl ?_
  refine g_getfield X0 hx hby hZ hown (host := "") (Or.inl (hw _ (List.mem_of_getElem? (i := 12) rfl))) Via.refl e0 F_r i3_1 fun T1 X1 e1 => ?_
  refine g_iloadN X1 hx hby i3_4 rfl ?_
  refine g_dup2 X1 hx hby i3_5 rfl rfl ?_
  refine g_laload X1 hx hby hZ e1 V (i := p1.toNatClampNeg) (v := .long (own_sel p1 r0 r1 r2)) (by rcases hl with rfl | rfl | rfl <;> decide) (by rcases hl with rfl | rfl | rfl <;> decide) rfl (by rcases hl with rfl | rfl | rfl <;> rfl) i3_6 ?_
  refine g_lloadN X1 hx hby i3_7 rfl ?_
  refine g_ladd X1 hx hby i3_8 ?_
  refine g_lastore X1 hx hby hZ e1 V (i := p1.toNatClampNeg) (by rcases hl with rfl | rfl | rfl <;> decide) (by rcases hl with rfl | rfl | rfl <;> decide) rfl (by show p1.toNatClampNeg < 3; rcases hl with rfl | rfl | rfl <;> decide) i3_9 fun T3 h3 X3 e3 W3 V => ?_
  rw [own_set hl] at V
  have E_a := E_a.wr W3
  have F_r := F_r.other W3 (Or.inl hab)
  have F_t := F_t.other W3 (Or.inl hab)
  have Z0 : n0 ≤ h3.size := Nat.le_trans Z0 (Nat.le_of_eq W3.size.symm)
  have N0 := Fr.snoc X3 N0 g_b
  have K0 := K0.wr W3 (Or.inl (by simp))
  refine g_aloadN X3 hx hby i3_10 rfl rfl ?_
  refine g_dup X3 hx hby i3_11 rfl ?_
  refine g_getfield X3 hx hby hZ hown (host := "") (Or.inl (hw _ (List.mem_of_getElem? (i := 19) rfl))) Via.refl e3 F_t i3_12 fun T4 X4 e4 => ?_
  refine g_lloadN X4 hx hby i3_15 rfl ?_
  refine g_ladd X4 hx hby i3_16 ?_
  refine g_putfield X4 hx hby hZ hown (host := "") (Or.inl (hw _ (List.mem_of_getElem? (i := 19) rfl))) Via.refl e4 F_t E_a (Or.inl (hw _ (List.mem_of_getElem? (i := 20) rfl))) (hw _ (List.mem_of_getElem? (i := 3) rfl)) (ty := .long) (by decide) rfl rfl i3_17 fun T5 h5 X5 e5 W5 => ?_
  have F_t := F_t.same W5
  have E_a := E_a.wr W5
  have F_r := F_r.other W5 (Or.inr (slot_ne (Or.inr (hw _ (List.mem_of_getElem? (i := 13) rfl))) (Or.inl (hw _ (List.mem_of_getElem? (i := 20) rfl))) (by decide) (t := (.array .long)) (t' := .long) (by decide) (by decide)))
  have V := V.other W5 (Ne.symm hab)
  have Z0 : n0 ≤ h5.size := Nat.le_trans Z0 (Nat.le_of_eq W5.size.symm)
  have N0 := Fr.snoc X5 N0 g_a0'
  have K0 := K0.wr W5 (Or.inl (by simp))
  refine g_return X5 hx hby hret hlk i3_20 (by decide) (by decide) ?_
  rw [e5]
  exact ⟨rfl, K0, E_a, F_r, F_t, V, N0⟩
theorem i4_0 : Ins1 method_3_code 0 (.iload_n 1) 1 1 := ⟨by decide +kernel, rfl⟩
theorem i4_1 : Ins1 method_3_code 1 (.iload_n 0) 1 2 := ⟨by decide +kernel, rfl⟩
theorem i4_2 : InsB method_3_code 2 (.if_icmp .ne 7) 7 5 9 := ⟨by decide +kernel, rfl, by decide, by decide⟩
theorem i4_5 : Ins1 method_3_code 5 (.lload_n 2) 1 6 := ⟨by decide +kernel, rfl⟩
theorem i4_6 : InsB method_3_code 6 (.goto 4) 4 9 10 := ⟨by decide +kernel, rfl, by decide, by decide⟩
theorem i4_9 : Ins1 method_3_code 9 (.lconst 0) 1 10 := ⟨by decide +kernel, rfl⟩
theorem i4_10 : Ins1 method_3_code 10 (.lreturn) 1 11 := ⟨by decide +kernel, rfl⟩
theorem pn_com_example_value_generalizer_valuegeneralizer_ColumnLevelsAddPinLaw : plainName "com/example/value_generalizer/valuegeneralizer/ColumnLevelsAddPinLaw" = true := by first | (simp [plainName, overriddenIn]; done) | decide +kernel
theorem ef_4 (m : MethodId) (p0 : Int32) (p1 : Int32) (q2 : Int64) : entryFrame m #[(.int p0), (.int p1), (.long q2)] 4 = mkF m 0 #[.val (.int p0), .val (.int p1), .val (.long q2), .second] [] := by first | (simp [entryFrame, mkF, argsToLocals, Value.category]; done) | rfl
set_option maxRecDepth 65536 in
set_option maxHeartbeats 40000000 in
theorem rm4 (l : Launch) (Z : State) (a0 : Array Value) (hw : ∀ d ∈ tables_1, d.before a0 Z = true) (ws : List Jvm.Cond) (p0 : Int32) (p1 : Int32) (q2 : Int64)  (h0 : Heap) (n0 : Nat) (Z0 : n0 ≤ h0.size)  :
    Met1 l (⟨"com/example/value_generalizer/valuegeneralizer/ColumnLevelsAddPinLaw", "at", "(IIJ)J"⟩ : MethodName) method_3_code 4 (some .long) ws ({ frames := 0, cells := 0, slots := 0, locals := 0 } : Room) #[(.int p0), (.int p1), (.long q2)] Z h0 (RV fun z h L => z = .long (own_at p0 p1 q2) ∧ h = h0 ∧ Fr n0 L) := by
  refine met_of (plainFor_of_name pn_com_example_value_generalizer_valuegeneralizer_ColumnLevelsAddPinLaw) ?_
  intro p e s m below meth c T0 X0 hx hby hml hZ hown hnm hret hlk e0 es
  have N0 := Fr.nil n0
  refine Gd.cast (ef_4 m p0 p1 q2) ?_
  refine g_iloadN X0 hx hby i4_0 rfl ?_
  refine g_iloadN X0 hx hby i4_1 rfl ?_
  refine g_icmp_ne X0 hx hby i4_2 (fun c2_1 => ?_) (fun c2_1 => ?_)
  · refine g_lconst X0 hx hby i4_9 (z := (0 : Int64)) (by decide) ?_
    refine g_lreturn X0 hx hby hret hlk i4_10 (by decide) (by decide) ?_
    exact ⟨_, rfl, by simp [own_at, c2_1], e0, N0⟩
  · refine g_lloadN X0 hx hby i4_5 rfl ?_
    refine g_goto X0 hx hby i4_6 ?_
    refine g_lreturn X0 hx hby hret hlk i4_10 (by decide) (by decide) ?_
    exact ⟨_, rfl, by simp [own_at, c2_1], e0, N0⟩
theorem i5_0 : Ins1 jdk_29_method_66_code 0 (.lload_n 0) 1 1 := ⟨by decide +kernel, rfl⟩
theorem i5_1 : Ins1 jdk_29_method_66_code 1 (.lload_n 2) 1 2 := ⟨by decide +kernel, rfl⟩
theorem i5_2 : Ins1 jdk_29_method_66_code 2 (.lcmp) 1 3 := ⟨by decide +kernel, rfl⟩
theorem i5_3 : InsB jdk_29_method_66_code 3 (.ifCond .lt 7) 7 6 10 := ⟨by decide +kernel, rfl, by decide, by decide⟩
theorem i5_6 : Ins1 jdk_29_method_66_code 6 (.lload_n 0) 1 7 := ⟨by decide +kernel, rfl⟩
theorem i5_7 : InsB jdk_29_method_66_code 7 (.goto 4) 4 10 11 := ⟨by decide +kernel, rfl, by decide, by decide⟩
theorem i5_10 : Ins1 jdk_29_method_66_code 10 (.lload_n 2) 1 11 := ⟨by decide +kernel, rfl⟩
theorem i5_11 : Ins1 jdk_29_method_66_code 11 (.lreturn) 1 12 := ⟨by decide +kernel, rfl⟩
theorem ef_5 (m : MethodId) (q0 : Int64) (q1 : Int64) : entryFrame m #[(.long q0), (.long q1)] 4 = mkF m 0 #[.val (.long q0), .second, .val (.long q1), .second] [] := by first | (simp [entryFrame, mkF, argsToLocals, Value.category]; done) | rfl
set_option maxRecDepth 65536 in
set_option maxHeartbeats 40000000 in
theorem rm5 (l : Launch) (Z : State) (a0 : Array Value) (hw : ∀ d ∈ tables_1, d.before a0 Z = true) (ws : List Jvm.Cond) (q0 : Int64) (q1 : Int64)  (h0 : Heap) (n0 : Nat) (Z0 : n0 ≤ h0.size)  :
    Met1 l (⟨"java/lang/Math", "max", "(JJ)J"⟩ : MethodName) jdk_29_method_66_code 4 (some .long) ws ({ frames := 0, cells := 0, slots := 0, locals := 0 } : Room) #[(.long q0), (.long q1)] Z h0 (RV fun z h L => z = .long (own_max q0 q1) ∧ h = h0 ∧ Fr n0 L) := by
  refine met_of (Jvm.Free.JP.mathPlain rfl (by decide +kernel)) ?_
  intro p e s m below meth c T0 X0 hx hby hml hZ hown hnm hret hlk e0 es
  have N0 := Fr.nil n0
  refine Gd.cast (ef_5 m q0 q1) ?_
  refine g_lloadN X0 hx hby i5_0 rfl ?_
  refine g_lloadN X0 hx hby i5_1 rfl ?_
  refine g_lcmp_lt X0 hx hby i5_2 i5_3 (fun c2_1 => ?_) (fun c2_1 => ?_)
  · refine g_lloadN X0 hx hby i5_10 rfl ?_
    refine g_lreturn X0 hx hby hret hlk i5_11 (by decide) (by decide) ?_
    exact ⟨_, rfl, by simp [own_max, c2_1], e0, N0⟩
  · refine g_lloadN X0 hx hby i5_6 rfl ?_
    refine g_goto X0 hx hby i5_7 ?_
    refine g_lreturn X0 hx hby hret hlk i5_11 (by decide) (by decide) ?_
    exact ⟨_, rfl, by simp [own_max, c2_1], e0, N0⟩
theorem i6_0 : Ins1 prog_3_method_3_code 0 (.iconst 0) 1 1 := ⟨by decide +kernel, rfl⟩
theorem i6_1 : Ins1 prog_3_method_3_code 1 (.istore_n 1) 1 2 := ⟨by decide +kernel, rfl⟩
theorem i6_2 : Ins1 prog_3_method_3_code 2 (.aload_n 0) 1 3 := ⟨by decide +kernel, rfl⟩
theorem i6_3 : Ins1 prog_3_method_3_code 3 (.getfield 7) 3 6 := ⟨by decide +kernel, rfl⟩
theorem i6_6 : Ins1 prog_3_method_3_code 6 (.iload_n 1) 1 7 := ⟨by decide +kernel, rfl⟩
theorem i6_7 : Ins1 prog_3_method_3_code 7 (.laload) 1 8 := ⟨by decide +kernel, rfl⟩
theorem i6_8 : Ins1 prog_3_method_3_code 8 (.lconst 0) 1 9 := ⟨by decide +kernel, rfl⟩
theorem i6_9 : Ins1 prog_3_method_3_code 9 (.lcmp) 1 10 := ⟨by decide +kernel, rfl⟩
theorem i6_10 : InsB prog_3_method_3_code 10 (.ifCond .ne 9) 9 13 19 := ⟨by decide +kernel, rfl, by decide, by decide⟩
theorem i6_13 : Ins1 prog_3_method_3_code 13 (.iinc 1 1) 3 16 := ⟨by decide +kernel, rfl⟩
theorem i6_16 : InsB prog_3_method_3_code 16 (.goto (-14)) (-14) 19 2 := ⟨by decide +kernel, rfl, by decide, by decide⟩
theorem i6_19 : Ins1 prog_3_method_3_code 19 (.iload_n 1) 1 20 := ⟨by decide +kernel, rfl⟩
theorem i6_20 : Ins1 prog_3_method_3_code 20 (.ireturn) 1 21 := ⟨by decide +kernel, rfl⟩
theorem ef_6 (m : MethodId) (a0' : Addr) : entryFrame m #[(.ref a0')] 2 = mkF m 0 #[.val (.ref a0'), .unset] [] := by first | (simp [entryFrame, mkF, argsToLocals, Value.category]; done) | rfl
set_option maxRecDepth 65536 in
set_option maxHeartbeats 40000000 in
theorem rm6 (l : Launch) (Z : State) (a0 : Array Value) (hw : ∀ d ∈ tables_1, d.before a0 Z = true) (ws : List Jvm.Cond) (a0' : Addr) (b : Addr) (kc : ClassId) (r0 r1 r2 : Int64) (h0 : Heap) (n0 : Nat) (Z0 : n0 ≤ h0.size) (F_r : Fld Z h0 a0' "com/example/value_generalizer/valuegeneralizer/ColumnLevels" "records" "[J" (.ref b)) (V : Arv Z h0 b kc .long (3 : Int32) [(.long r0), (.long r1), (.long r2)] (.long (0 : Int64))) (hnz : ¬ (r0 = (0 : Int64) ∧ r1 = (0 : Int64) ∧ r2 = (0 : Int64))) :
    Met1 l (⟨"com/example/value_generalizer/valuegeneralizer/ColumnLevels", "lowest", "()I"⟩ : MethodName) prog_3_method_3_code 2 (some .int) ws ({ frames := 0, cells := 0, slots := 0, locals := 0 } : Room) #[(.ref a0')] Z h0 (RV fun v h L => v = .int (own_low r0 r1 r2) ∧ h = h0 ∧ Fr n0 L) := by
  refine met_of (plainFor_of_name pn_com_example_value_generalizer_valuegeneralizer_ColumnLevels) ?_
  intro p e s m below meth c T0 X0 hx hby hml hZ hown hnm hret hlk e0 es
  have N0 := Fr.nil n0
  refine Gd.cast (ef_6 m a0') ?_
  refine g_iconst X0 hx hby i6_0 (z := (0 : Int32)) (by decide) ?_
  refine g_istoreN X0 hx hby i6_1 (l' := #[.val (.ref a0'), .val (.int (0 : Int32))]) rfl ?_
  refine g_aloadN X0 hx hby i6_2 rfl rfl ?_
  refine g_getfield X0 hx hby hZ hown (host := "") (Or.inl (hw _ (List.mem_of_getElem? (i := 12) rfl))) Via.refl e0 F_r i6_3 fun T1 X1 e1 => ?_
  refine g_iloadN X1 hx hby i6_6 rfl ?_
  refine g_laload X1 hx hby hZ e1 V (i := 0) (by decide) (by decide) (by decide) rfl i6_7 ?_
  refine g_lconst X1 hx hby i6_8 (z := (0 : Int64)) (by decide) ?_
  refine g_lcmp_ne X1 hx hby i6_9 i6_10 (fun c9_2 => ?_) (fun c9_2 => ?_)
  · refine g_iloadN X1 hx hby i6_19 rfl ?_
    refine g_ireturn X1 hx hby hret hlk i6_20 (by decide) (by decide) ?_
    exact ⟨_, rfl, by simp [own_low, c9_2], e1, N0⟩
  · refine g_iinc X1 hx hby i6_13 rfl (z := (1 : Int32)) (by decide) (l' := #[.val (.ref a0'), .val (.int (1 : Int32))]) rfl ?_
    refine g_goto X1 hx hby i6_16 ?_
    refine g_aloadN X1 hx hby i6_2 rfl rfl ?_
    refine g_getfield X1 hx hby hZ hown (host := "") (Or.inl (hw _ (List.mem_of_getElem? (i := 12) rfl))) Via.refl e1 F_r i6_3 fun T3 X3 e3 => ?_
    refine g_iloadN X3 hx hby i6_6 rfl ?_
    refine g_laload X3 hx hby hZ e3 V (i := 1) (by decide) (by decide) (by decide) rfl i6_7 ?_
    refine g_lconst X3 hx hby i6_8 (z := (0 : Int64)) (by decide) ?_
    refine g_lcmp_ne X3 hx hby i6_9 i6_10 (fun c9_4 => ?_) (fun c9_4 => ?_)
    · refine g_iloadN X3 hx hby i6_19 rfl ?_
      refine g_ireturn X3 hx hby hret hlk i6_20 (by decide) (by decide) ?_
      exact ⟨_, rfl, by simp [own_low, c9_2, c9_4], e3, N0⟩
    · refine g_iinc X3 hx hby i6_13 rfl (z := (2 : Int32)) (by decide) (l' := #[.val (.ref a0'), .val (.int (2 : Int32))]) rfl ?_
      refine g_goto X3 hx hby i6_16 ?_
      refine g_aloadN X3 hx hby i6_2 rfl rfl ?_
      refine g_getfield X3 hx hby hZ hown (host := "") (Or.inl (hw _ (List.mem_of_getElem? (i := 12) rfl))) Via.refl e3 F_r i6_3 fun T5 X5 e5 => ?_
      refine g_iloadN X5 hx hby i6_6 rfl ?_
      refine g_laload X5 hx hby hZ e5 V (i := 2) (by decide) (by decide) (by decide) rfl i6_7 ?_
      refine g_lconst X5 hx hby i6_8 (z := (0 : Int64)) (by decide) ?_
      refine g_lcmp_ne X5 hx hby i6_9 i6_10 (fun c9_6 => ?_) (fun c9_6 => False.elim (hnz ⟨c9_2, c9_4, c9_6⟩))
      refine g_iloadN X5 hx hby i6_19 rfl ?_
      refine g_ireturn X5 hx hby hret hlk i6_20 (by decide) (by decide) ?_
      exact ⟨_, rfl, by simp [own_low, c9_2, c9_4, c9_6], e5, N0⟩
theorem i7_0 : Ins1 prog_3_method_4_code 0 (.lconst 0) 1 1 := ⟨by decide +kernel, rfl⟩
theorem i7_1 : Ins1 prog_3_method_4_code 1 (.lstore_n 1) 1 2 := ⟨by decide +kernel, rfl⟩
theorem i7_2 : Ins1 prog_3_method_4_code 2 (.aload_n 0) 1 3 := ⟨by decide +kernel, rfl⟩
theorem i7_3 : Ins1 prog_3_method_4_code 3 (.getfield 7) 3 6 := ⟨by decide +kernel, rfl⟩
theorem i7_6 : Ins1 prog_3_method_4_code 6 (.astore_n 3) 1 7 := ⟨by decide +kernel, rfl⟩
theorem i7_7 : Ins1 prog_3_method_4_code 7 (.aload_n 3) 1 8 := ⟨by decide +kernel, rfl⟩
theorem i7_8 : Ins1 prog_3_method_4_code 8 (.arraylength) 1 9 := ⟨by decide +kernel, rfl⟩
theorem i7_9 : Ins1 prog_3_method_4_code 9 (.istore 4) 2 11 := ⟨by decide +kernel, rfl⟩
theorem i7_11 : Ins1 prog_3_method_4_code 11 (.iconst 0) 1 12 := ⟨by decide +kernel, rfl⟩
theorem i7_12 : Ins1 prog_3_method_4_code 12 (.istore 5) 2 14 := ⟨by decide +kernel, rfl⟩
theorem i7_14 : Ins1 prog_3_method_4_code 14 (.iload 5) 2 16 := ⟨by decide +kernel, rfl⟩
theorem i7_16 : Ins1 prog_3_method_4_code 16 (.iload 4) 2 18 := ⟨by decide +kernel, rfl⟩
theorem i7_18 : InsB prog_3_method_4_code 18 (.if_icmp .ge 22) 22 21 40 := ⟨by decide +kernel, rfl, by decide, by decide⟩
theorem i7_21 : Ins1 prog_3_method_4_code 21 (.aload_n 3) 1 22 := ⟨by decide +kernel, rfl⟩
theorem i7_22 : Ins1 prog_3_method_4_code 22 (.iload 5) 2 24 := ⟨by decide +kernel, rfl⟩
theorem i7_24 : Ins1 prog_3_method_4_code 24 (.laload) 1 25 := ⟨by decide +kernel, rfl⟩
theorem i7_25 : Ins1 prog_3_method_4_code 25 (.lstore 6) 2 27 := ⟨by decide +kernel, rfl⟩
theorem i7_27 : Ins1 prog_3_method_4_code 27 (.lload_n 1) 1 28 := ⟨by decide +kernel, rfl⟩
theorem i7_28 : Ins1 prog_3_method_4_code 28 (.lload 6) 2 30 := ⟨by decide +kernel, rfl⟩
theorem i7_30 : Ins1 prog_3_method_4_code 30 (.invokestatic 17) 3 33 := ⟨by decide +kernel, rfl⟩
theorem i7_33 : Ins1 prog_3_method_4_code 33 (.lstore_n 1) 1 34 := ⟨by decide +kernel, rfl⟩
theorem i7_34 : Ins1 prog_3_method_4_code 34 (.iinc 5 1) 3 37 := ⟨by decide +kernel, rfl⟩
theorem i7_37 : InsB prog_3_method_4_code 37 (.goto (-23)) (-23) 40 14 := ⟨by decide +kernel, rfl, by decide, by decide⟩
theorem i7_40 : Ins1 prog_3_method_4_code 40 (.aload_n 0) 1 41 := ⟨by decide +kernel, rfl⟩
theorem i7_41 : Ins1 prog_3_method_4_code 41 (.getfield 13) 3 44 := ⟨by decide +kernel, rfl⟩
theorem i7_44 : Ins1 prog_3_method_4_code 44 (.lload_n 1) 1 45 := ⟨by decide +kernel, rfl⟩
theorem i7_45 : Ins1 prog_3_method_4_code 45 (.lsub) 1 46 := ⟨by decide +kernel, rfl⟩
theorem i7_46 : Ins1 prog_3_method_4_code 46 (.l2d) 1 47 := ⟨by decide +kernel, rfl⟩
theorem i7_47 : Ins1 prog_3_method_4_code 47 (.aload_n 0) 1 48 := ⟨by decide +kernel, rfl⟩
theorem i7_48 : Ins1 prog_3_method_4_code 48 (.getfield 13) 3 51 := ⟨by decide +kernel, rfl⟩
theorem i7_51 : Ins1 prog_3_method_4_code 51 (.l2d) 1 52 := ⟨by decide +kernel, rfl⟩
theorem i7_52 : Ins1 prog_3_method_4_code 52 (.ddiv) 1 53 := ⟨by decide +kernel, rfl⟩
theorem i7_53 : Ins1 prog_3_method_4_code 53 (.dreturn) 1 54 := ⟨by decide +kernel, rfl⟩
theorem ef_7 (m : MethodId) (a0' : Addr) : entryFrame m #[(.ref a0')] 8 = mkF m 0 #[.val (.ref a0'), .unset, .unset, .unset, .unset, .unset, .unset, .unset] [] := by first | (simp [entryFrame, mkF, argsToLocals, Value.category]; done) | rfl
theorem pd_0 : parseMethodDescriptor "(JJ)J" = some ⟨[.long, .long], some .long⟩ := by decide +kernel
set_option maxRecDepth 65536 in
set_option maxHeartbeats 40000000 in
theorem rm7 (l : Launch) (Z : State) (a0 : Array Value) (hw : ∀ d ∈ tables_1, d.before a0 Z = true) (ws : List Jvm.Cond) (a0' : Addr) (b : Addr) (kc : ClassId) (r0 r1 r2 t : Int64) (h0 : Heap) (n0 : Nat) (Z0 : n0 ≤ h0.size) (F_r : Fld Z h0 a0' "com/example/value_generalizer/valuegeneralizer/ColumnLevels" "records" "[J" (.ref b)) (V : Arv Z h0 b kc .long (3 : Int32) [(.long r0), (.long r1), (.long r2)] (.long (0 : Int64))) (F_t : Fld Z h0 a0' "com/example/value_generalizer/valuegeneralizer/ColumnLevels" "total" "J" (.long t)) (ht : t ≠ 0) :
    Met1 l (⟨"com/example/value_generalizer/valuegeneralizer/ColumnLevels", "inconsistency", "()D"⟩ : MethodName) prog_3_method_4_code 8 (some .double) ws ({ frames := 1, cells := 0, slots := 0, locals := 15 } : Room) #[(.ref a0')] Z h0 (RV fun v h L => v = .double (FP.ddiv (FP.l2d (t - own_max (own_max (own_max 0 r0) r1) r2)) (FP.l2d t)) ∧ h = h0 ∧ Fr n0 L) := by
  refine met_of (plainFor_of_name pn_com_example_value_generalizer_valuegeneralizer_ColumnLevels) ?_
  intro p e s m below meth c T0 X0 hx hby hml hZ hown hnm hret hlk e0 es
  have N0 := Fr.nil n0
  refine Gd.cast (ef_7 m a0') ?_
  refine g_lconst X0 hx hby i7_0 (z := (0 : Int64)) (by decide) ?_
  refine g_lstoreN X0 hx hby i7_1 (l' := #[.val (.ref a0'), .val (.long (0 : Int64)), .second, .unset, .unset, .unset, .unset, .unset]) rfl ?_
  refine g_aloadN X0 hx hby i7_2 rfl rfl ?_
  refine g_getfield X0 hx hby hZ hown (host := "") (Or.inl (hw _ (List.mem_of_getElem? (i := 12) rfl))) Via.refl e0 F_r i7_3 fun T1 X1 e1 => ?_
  refine g_astoreN X1 hx hby i7_6 rfl (l' := #[.val (.ref a0'), .val (.long (0 : Int64)), .second, .val (.ref b), .unset, .unset, .unset, .unset]) rfl ?_
  refine g_aloadN X1 hx hby i7_7 rfl rfl ?_
  refine g_arraylength X1 hx hby hZ e1 V i7_8 ?_
  refine g_istore X1 hx hby i7_9 (l' := #[.val (.ref a0'), .val (.long (0 : Int64)), .second, .val (.ref b), .val (.int (3 : Int32)), .unset, .unset, .unset]) rfl ?_
  refine g_iconst X1 hx hby i7_11 (z := (0 : Int32)) (by decide) ?_
  refine g_istore X1 hx hby i7_12 (l' := #[.val (.ref a0'), .val (.long (0 : Int64)), .second, .val (.ref b), .val (.int (3 : Int32)), .val (.int (0 : Int32)), .unset, .unset]) rfl ?_
  refine g_iload X1 hx hby i7_14 rfl ?_
  refine g_iload X1 hx hby i7_16 rfl ?_
  refine g_icmp_ge X1 hx hby i7_18 (fun c18_2 => False.elim (absurd c18_2 (by decide))) fun c18_2 => ?_
  refine g_aloadN X1 hx hby i7_21 rfl rfl ?_
  refine g_iload X1 hx hby i7_22 rfl ?_
  refine g_laload X1 hx hby hZ e1 V (i := 0) (by decide) (by decide) (by decide) rfl i7_24 ?_
  refine g_lstore X1 hx hby i7_25 (l' := #[.val (.ref a0'), .val (.long (0 : Int64)), .second, .val (.ref b), .val (.int (3 : Int32)), .val (.int (0 : Int32)), .val (.long r0), .second]) rfl ?_
  refine g_lloadN X1 hx hby i7_27 rfl ?_
  refine g_lload X1 hx hby i7_28 rfl ?_
  refine g_callS0 X1 hx hby hZ (y := (⟨"java/lang/Math", "max", "(JJ)J"⟩ : MethodName)) (argsL := [(.long (0 : Int64)), (.long r0)]) (rest := []) hown (hw _ (List.mem_of_getElem? (i := 39) rfl)) (hw _ (List.mem_of_getElem? (i := 26) rfl)) (hw _ (List.mem_of_getElem? (i := 27) rfl)) (hw _ (List.mem_of_getElem? (i := 28) rfl)) (by decide) (rm5 l Z a0 hw [] (0 : Int64) r0 h0 n0 Z0) e1 (by rw [hml]; rfl) pd_0 rfl rfl i7_30 (by decide) 0 rfl (by decide) (by decide) (by decide) fun T3 v3 L3 X3 q3 => ?_
  obtain ⟨_, rfl, rfl, e3, N3⟩ := q3
  have N0 := Fr.app N0 N3
  show Gd p e below _ T3 (mkF m 33 #[.val (.ref a0'), .val (.long (0 : Int64)), .second, .val (.ref b), .val (.int (3 : Int32)), .val (.int (0 : Int32)), .val (.long r0), .second] [(.long (own_max (0 : Int64) r0))])
  refine g_lstoreN X3 hx hby i7_33 (l' := #[.val (.ref a0'), .val (.long (own_max (0 : Int64) r0)), .second, .val (.ref b), .val (.int (3 : Int32)), .val (.int (0 : Int32)), .val (.long r0), .second]) rfl ?_
  refine g_iinc X3 hx hby i7_34 rfl (z := (1 : Int32)) (by decide) (l' := #[.val (.ref a0'), .val (.long (own_max (0 : Int64) r0)), .second, .val (.ref b), .val (.int (3 : Int32)), .val (.int (1 : Int32)), .val (.long r0), .second]) rfl ?_
  refine g_goto X3 hx hby i7_37 ?_
  refine g_iload X3 hx hby i7_14 rfl ?_
  refine g_iload X3 hx hby i7_16 rfl ?_
  refine g_icmp_ge X3 hx hby i7_18 (fun c18_4 => False.elim (absurd c18_4 (by decide))) fun c18_4 => ?_
  refine g_aloadN X3 hx hby i7_21 rfl rfl ?_
  refine g_iload X3 hx hby i7_22 rfl ?_
  refine g_laload X3 hx hby hZ e3 V (i := 1) (by decide) (by decide) (by decide) rfl i7_24 ?_
  refine g_lstore X3 hx hby i7_25 (l' := #[.val (.ref a0'), .val (.long (own_max (0 : Int64) r0)), .second, .val (.ref b), .val (.int (3 : Int32)), .val (.int (1 : Int32)), .val (.long r1), .second]) rfl ?_
  refine g_lloadN X3 hx hby i7_27 rfl ?_
  refine g_lload X3 hx hby i7_28 rfl ?_
  refine g_callS0 X3 hx hby hZ (y := (⟨"java/lang/Math", "max", "(JJ)J"⟩ : MethodName)) (argsL := [(.long (own_max (0 : Int64) r0)), (.long r1)]) (rest := []) hown (hw _ (List.mem_of_getElem? (i := 39) rfl)) (hw _ (List.mem_of_getElem? (i := 26) rfl)) (hw _ (List.mem_of_getElem? (i := 27) rfl)) (hw _ (List.mem_of_getElem? (i := 28) rfl)) (by decide) (rm5 l Z a0 hw [] (own_max (0 : Int64) r0) r1 h0 n0 Z0) e3 (by rw [hml]; rfl) pd_0 rfl rfl i7_30 (by decide) 0 rfl (by decide) (by decide) (by decide) fun T5 v5 L5 X5 q5 => ?_
  obtain ⟨_, rfl, rfl, e5, N5⟩ := q5
  have N0 := Fr.app N0 N5
  show Gd p e below _ T5 (mkF m 33 #[.val (.ref a0'), .val (.long (own_max (0 : Int64) r0)), .second, .val (.ref b), .val (.int (3 : Int32)), .val (.int (1 : Int32)), .val (.long r1), .second] [(.long (own_max (own_max (0 : Int64) r0) r1))])
  refine g_lstoreN X5 hx hby i7_33 (l' := #[.val (.ref a0'), .val (.long (own_max (own_max (0 : Int64) r0) r1)), .second, .val (.ref b), .val (.int (3 : Int32)), .val (.int (1 : Int32)), .val (.long r1), .second]) rfl ?_
  refine g_iinc X5 hx hby i7_34 rfl (z := (2 : Int32)) (by decide) (l' := #[.val (.ref a0'), .val (.long (own_max (own_max (0 : Int64) r0) r1)), .second, .val (.ref b), .val (.int (3 : Int32)), .val (.int (2 : Int32)), .val (.long r1), .second]) rfl ?_
  refine g_goto X5 hx hby i7_37 ?_
  refine g_iload X5 hx hby i7_14 rfl ?_
  refine g_iload X5 hx hby i7_16 rfl ?_
  refine g_icmp_ge X5 hx hby i7_18 (fun c18_6 => False.elim (absurd c18_6 (by decide))) fun c18_6 => ?_
  refine g_aloadN X5 hx hby i7_21 rfl rfl ?_
  refine g_iload X5 hx hby i7_22 rfl ?_
  refine g_laload X5 hx hby hZ e5 V (i := 2) (by decide) (by decide) (by decide) rfl i7_24 ?_
  refine g_lstore X5 hx hby i7_25 (l' := #[.val (.ref a0'), .val (.long (own_max (own_max (0 : Int64) r0) r1)), .second, .val (.ref b), .val (.int (3 : Int32)), .val (.int (2 : Int32)), .val (.long r2), .second]) rfl ?_
  refine g_lloadN X5 hx hby i7_27 rfl ?_
  refine g_lload X5 hx hby i7_28 rfl ?_
  refine g_callS0 X5 hx hby hZ (y := (⟨"java/lang/Math", "max", "(JJ)J"⟩ : MethodName)) (argsL := [(.long (own_max (own_max (0 : Int64) r0) r1)), (.long r2)]) (rest := []) hown (hw _ (List.mem_of_getElem? (i := 39) rfl)) (hw _ (List.mem_of_getElem? (i := 26) rfl)) (hw _ (List.mem_of_getElem? (i := 27) rfl)) (hw _ (List.mem_of_getElem? (i := 28) rfl)) (by decide) (rm5 l Z a0 hw [] (own_max (own_max (0 : Int64) r0) r1) r2 h0 n0 Z0) e5 (by rw [hml]; rfl) pd_0 rfl rfl i7_30 (by decide) 0 rfl (by decide) (by decide) (by decide) fun T7 v7 L7 X7 q7 => ?_
  obtain ⟨_, rfl, rfl, e7, N7⟩ := q7
  have N0 := Fr.app N0 N7
  show Gd p e below _ T7 (mkF m 33 #[.val (.ref a0'), .val (.long (own_max (own_max (0 : Int64) r0) r1)), .second, .val (.ref b), .val (.int (3 : Int32)), .val (.int (2 : Int32)), .val (.long r2), .second] [(.long (own_max (own_max (own_max (0 : Int64) r0) r1) r2))])
  refine g_lstoreN X7 hx hby i7_33 (l' := #[.val (.ref a0'), .val (.long (own_max (own_max (own_max (0 : Int64) r0) r1) r2)), .second, .val (.ref b), .val (.int (3 : Int32)), .val (.int (2 : Int32)), .val (.long r2), .second]) rfl ?_
  refine g_iinc X7 hx hby i7_34 rfl (z := (3 : Int32)) (by decide) (l' := #[.val (.ref a0'), .val (.long (own_max (own_max (own_max (0 : Int64) r0) r1) r2)), .second, .val (.ref b), .val (.int (3 : Int32)), .val (.int (3 : Int32)), .val (.long r2), .second]) rfl ?_
  refine g_goto X7 hx hby i7_37 ?_
  refine g_iload X7 hx hby i7_14 rfl ?_
  refine g_iload X7 hx hby i7_16 rfl ?_
  refine g_icmp_ge X7 hx hby i7_18 (fun c18_8 => ?_) (fun c18_8 => False.elim (absurd c18_8 (by decide)))
  refine g_aloadN X7 hx hby i7_40 rfl rfl ?_
  refine g_getfield X7 hx hby hZ hown (host := "") (Or.inl (hw _ (List.mem_of_getElem? (i := 19) rfl))) Via.refl e7 F_t i7_41 fun T9 X9 e9 => ?_
  refine g_lloadN X9 hx hby i7_44 rfl ?_
  refine g_lsub X9 hx hby i7_45 ?_
  refine g_l2d X9 hx hby i7_46 ?_
  refine g_aloadN X9 hx hby i7_47 rfl rfl ?_
  refine g_getfield X9 hx hby hZ hown (host := "") (Or.inl (hw _ (List.mem_of_getElem? (i := 19) rfl))) Via.refl e9 F_t i7_48 fun T10 X10 e10 => ?_
  refine g_l2d X10 hx hby i7_51 ?_
  refine g_ddiv X10 hx hby i7_52 (own_nnL _ _ ht) ?_
  refine g_dreturn X10 hx hby hret hlk i7_53 (by decide) (by decide) ?_
  exact ⟨_, rfl, rfl, e10, N0⟩
theorem i8_0 : Ins1 prog_3_method_5_code 0 (.aload_n 0) 1 1 := ⟨by decide +kernel, rfl⟩
theorem i8_1 : Ins1 prog_3_method_5_code 1 (.getfield 13) 3 4 := ⟨by decide +kernel, rfl⟩
theorem i8_4 : Ins1 prog_3_method_5_code 4 (.aload_n 0) 1 5 := ⟨by decide +kernel, rfl⟩
theorem i8_5 : Ins1 prog_3_method_5_code 5 (.getfield 7) 3 8 := ⟨by decide +kernel, rfl⟩
theorem i8_8 : Ins1 prog_3_method_5_code 8 (.aload_n 0) 1 9 := ⟨by decide +kernel, rfl⟩
theorem i8_9 : Ins1 prog_3_method_5_code 9 (.invokevirtual 23) 3 12 := ⟨by decide +kernel, rfl⟩
theorem i8_12 : Ins1 prog_3_method_5_code 12 (.laload) 1 13 := ⟨by decide +kernel, rfl⟩
theorem i8_13 : Ins1 prog_3_method_5_code 13 (.lsub) 1 14 := ⟨by decide +kernel, rfl⟩
theorem i8_14 : Ins1 prog_3_method_5_code 14 (.l2d) 1 15 := ⟨by decide +kernel, rfl⟩
theorem i8_15 : Ins1 prog_3_method_5_code 15 (.aload_n 0) 1 16 := ⟨by decide +kernel, rfl⟩
theorem i8_16 : Ins1 prog_3_method_5_code 16 (.getfield 13) 3 19 := ⟨by decide +kernel, rfl⟩
theorem i8_19 : Ins1 prog_3_method_5_code 19 (.l2d) 1 20 := ⟨by decide +kernel, rfl⟩
theorem i8_20 : Ins1 prog_3_method_5_code 20 (.ddiv) 1 21 := ⟨by decide +kernel, rfl⟩
theorem i8_21 : Ins1 prog_3_method_5_code 21 (.dreturn) 1 22 := ⟨by decide +kernel, rfl⟩
theorem ef_8 (m : MethodId) (a0' : Addr) : entryFrame m #[(.ref a0')] 1 = mkF m 0 #[.val (.ref a0')] [] := by first | (simp [entryFrame, mkF, argsToLocals, Value.category]; done) | rfl
theorem pd_1 : parseMethodDescriptor "()I" = some ⟨[], some .int⟩ := by decide +kernel
set_option maxRecDepth 65536 in
set_option maxHeartbeats 40000000 in
theorem rm8 (l : Launch) (Z : State) (a0 : Array Value) (hw : ∀ d ∈ tables_1, d.before a0 Z = true) (ws : List Jvm.Cond) (a0' : Addr) (b : Addr) (kc : ClassId) (r0 r1 r2 t : Int64) (h0 : Heap) (n0 : Nat) (Z0 : n0 ≤ h0.size) (F_r : Fld Z h0 a0' "com/example/value_generalizer/valuegeneralizer/ColumnLevels" "records" "[J" (.ref b)) (V : Arv Z h0 b kc .long (3 : Int32) [(.long r0), (.long r1), (.long r2)] (.long (0 : Int64))) (F_t : Fld Z h0 a0' "com/example/value_generalizer/valuegeneralizer/ColumnLevels" "total" "J" (.long t)) (ht : t ≠ 0) (E_a : Exa Z h0 a0' "com/example/value_generalizer/valuegeneralizer/ColumnLevels") (hnz : ¬ (r0 = (0 : Int64) ∧ r1 = (0 : Int64) ∧ r2 = (0 : Int64))) :
    Met1 l (⟨"com/example/value_generalizer/valuegeneralizer/ColumnLevels", "generalisationPortion", "()D"⟩ : MethodName) prog_3_method_5_code 1 (some .double) ws ({ frames := 1, cells := 0, slots := 0, locals := 16 } : Room) #[(.ref a0')] Z h0 (RV fun v h L => v = .double (FP.ddiv (FP.l2d (t - own_sel (own_low r0 r1 r2) r0 r1 r2)) (FP.l2d t)) ∧ h = h0 ∧ Fr n0 L) := by
  refine met_of (plainFor_of_name pn_com_example_value_generalizer_valuegeneralizer_ColumnLevels) ?_
  intro p e s m below meth c T0 X0 hx hby hml hZ hown hnm hret hlk e0 es
  have N0 := Fr.nil n0
  refine Gd.cast (ef_8 m a0') ?_
  refine g_aloadN X0 hx hby i8_0 rfl rfl ?_
  refine g_getfield X0 hx hby hZ hown (host := "") (Or.inl (hw _ (List.mem_of_getElem? (i := 19) rfl))) Via.refl e0 F_t i8_1 fun T1 X1 e1 => ?_
  refine g_aloadN X1 hx hby i8_4 rfl rfl ?_
  refine g_getfield X1 hx hby hZ hown (host := "") (Or.inl (hw _ (List.mem_of_getElem? (i := 12) rfl))) Via.refl e1 F_r i8_5 fun T2 X2 e2 => ?_
  refine g_aloadN X2 hx hby i8_8 rfl rfl ?_
  refine g_callV0 X2 hx hby hZ (y0 := (⟨"com/example/value_generalizer/valuegeneralizer/ColumnLevels", "lowest", "()I"⟩ : MethodName)) (y := (⟨"com/example/value_generalizer/valuegeneralizer/ColumnLevels", "lowest", "()I"⟩ : MethodName)) (argsL := []) (rest := [(.ref b), (.long t)]) hown (hw _ (List.mem_of_getElem? (i := 45) rfl)) (hw _ (List.mem_of_getElem? (i := 30) rfl)) (notFace_of_selects (args := #[]) (mvT hZ (hw _ (List.mem_of_getElem? (i := 32) rfl)))) (hw _ (List.mem_of_getElem? (i := 32) rfl)) (hw _ (List.mem_of_getElem? (i := 31) rfl)) (hw _ (List.mem_of_getElem? (i := 4) rfl)) (hw _ (List.mem_of_getElem? (i := 33) rfl)) (by decide) (a := a0') E_a (rm6 l Z a0 hw [] a0' b kc r0 r1 r2 h0 n0 Z0 F_r V hnz) e2 (by rw [hml]; rfl) pd_1 rfl rfl i8_9 (by decide) 3 rfl (by decide) (by decide) (by decide) fun T3 v3 L3 X3 q3 => ?_
  obtain ⟨_, rfl, rfl, e3, N3⟩ := q3
  have N0 := Fr.app N0 N3
  show Gd p e below _ T3 (mkF m 12 #[.val (.ref a0')] [(.int (own_low r0 r1 r2)), (.ref b), (.long t)])
  have hlo := own_low3 r0 r1 r2
  refine g_laload X3 hx hby hZ e3 V (i := (own_low r0 r1 r2).toNatClampNeg) (v := .long (own_sel (own_low r0 r1 r2) r0 r1 r2)) (by rcases hlo with q | q | q <;> rw [q] <;> decide) (by rcases hlo with q | q | q <;> rw [q] <;> decide) rfl (by rcases hlo with q | q | q <;> rw [q] <;> rfl) i8_12 ?_
  refine g_lsub X3 hx hby i8_13 ?_
  refine g_l2d X3 hx hby i8_14 ?_
  refine g_aloadN X3 hx hby i8_15 rfl rfl ?_
  refine g_getfield X3 hx hby hZ hown (host := "") (Or.inl (hw _ (List.mem_of_getElem? (i := 19) rfl))) Via.refl e3 F_t i8_16 fun T4 X4 e4 => ?_
  refine g_l2d X4 hx hby i8_19 ?_
  refine g_ddiv X4 hx hby i8_20 (own_nnL _ _ ht) ?_
  refine g_dreturn X4 hx hby hret hlk i8_21 (by decide) (by decide) ?_
  exact ⟨_, rfl, rfl, e4, N0⟩
theorem i0_0 : Ins1 code 0 (.iload_n 0) 1 1 := ⟨at_0, rfl⟩
theorem i0_1 : Ins1 code 1 (.ldc 7) 2 3 := ⟨at_1, rfl⟩
theorem i0_3 : Ins1 code 3 (.iand) 1 4 := ⟨at_3, rfl⟩
theorem i0_4 : Ins1 code 4 (.iconst 3) 1 5 := ⟨at_4, rfl⟩
theorem i0_5 : Ins1 code 5 (.irem) 1 6 := ⟨at_5, rfl⟩
theorem i0_6 : Ins1 code 6 (.istore 9) 2 8 := ⟨at_6, rfl⟩
theorem i0_8 : Ins1 code 8 (.iload_n 3) 1 9 := ⟨at_8, rfl⟩
theorem i0_9 : Ins1 code 9 (.ldc 7) 2 11 := ⟨at_9, rfl⟩
theorem i0_11 : Ins1 code 11 (.iand) 1 12 := ⟨at_11, rfl⟩
theorem i0_12 : Ins1 code 12 (.iconst 3) 1 13 := ⟨at_12, rfl⟩
theorem i0_13 : Ins1 code 13 (.irem) 1 14 := ⟨at_13, rfl⟩
theorem i0_14 : Ins1 code 14 (.istore 10) 2 16 := ⟨at_14, rfl⟩
theorem i0_16 : Ins1 code 16 (.iload 6) 2 18 := ⟨at_16, rfl⟩
theorem i0_18 : Ins1 code 18 (.ldc 7) 2 20 := ⟨at_18, rfl⟩
theorem i0_20 : Ins1 code 20 (.iand) 1 21 := ⟨at_20, rfl⟩
theorem i0_21 : Ins1 code 21 (.iconst 3) 1 22 := ⟨at_21, rfl⟩
theorem i0_22 : Ins1 code 22 (.irem) 1 23 := ⟨at_22, rfl⟩
theorem i0_23 : Ins1 code 23 (.istore 11) 2 25 := ⟨at_23, rfl⟩
theorem i0_25 : Ins1 code 25 (.lload_n 1) 1 26 := ⟨at_25, rfl⟩
theorem i0_26 : Ins1 code 26 (.ldc2_w 8) 3 29 := ⟨at_26, rfl⟩
theorem i0_29 : Ins1 code 29 (.land) 1 30 := ⟨at_29, rfl⟩
theorem i0_30 : Ins1 code 30 (.lconst 1) 1 31 := ⟨at_30, rfl⟩
theorem i0_31 : Ins1 code 31 (.ladd) 1 32 := ⟨at_31, rfl⟩
theorem i0_32 : Ins1 code 32 (.lstore 12) 2 34 := ⟨at_32, rfl⟩
theorem i0_34 : Ins1 code 34 (.lload 4) 2 36 := ⟨at_34, rfl⟩
theorem i0_36 : Ins1 code 36 (.ldc2_w 8) 3 39 := ⟨at_36, rfl⟩
theorem i0_39 : Ins1 code 39 (.land) 1 40 := ⟨at_39, rfl⟩
theorem i0_40 : Ins1 code 40 (.lstore 14) 2 42 := ⟨at_40, rfl⟩
theorem i0_42 : Ins1 code 42 (.lload 7) 2 44 := ⟨at_42, rfl⟩
theorem i0_44 : Ins1 code 44 (.ldc2_w 8) 3 47 := ⟨at_44, rfl⟩
theorem i0_47 : Ins1 code 47 (.land) 1 48 := ⟨at_47, rfl⟩
theorem i0_48 : Ins1 code 48 (.lstore 16) 2 50 := ⟨at_48, rfl⟩
theorem i0_50 : Ins1 code 50 (.new 10) 3 53 := ⟨at_50, rfl⟩
theorem i0_53 : Ins1 code 53 (.dup) 1 54 := ⟨at_53, rfl⟩
theorem i0_54 : Ins1 code 54 (.iconst 2) 1 55 := ⟨at_54, rfl⟩
theorem i0_55 : Ins1 code 55 (.invokespecial 12) 3 58 := ⟨at_55, rfl⟩
theorem i0_58 : Ins1 code 58 (.astore 18) 2 60 := ⟨at_58, rfl⟩
theorem i0_60 : Ins1 code 60 (.aload 18) 2 62 := ⟨at_60, rfl⟩
theorem i0_62 : Ins1 code 62 (.iload 9) 2 64 := ⟨at_62, rfl⟩
theorem i0_64 : Ins1 code 64 (.lload 12) 2 66 := ⟨at_64, rfl⟩
theorem i0_66 : Ins1 code 66 (.invokevirtual 15) 3 69 := ⟨at_66, rfl⟩
theorem i0_69 : Ins1 code 69 (.aload 18) 2 71 := ⟨at_69, rfl⟩
theorem i0_71 : Ins1 code 71 (.iload 10) 2 73 := ⟨at_71, rfl⟩
theorem i0_73 : Ins1 code 73 (.lload 14) 2 75 := ⟨at_73, rfl⟩
theorem i0_75 : Ins1 code 75 (.invokevirtual 15) 3 78 := ⟨at_75, rfl⟩
theorem i0_78 : Ins1 code 78 (.aload 18) 2 80 := ⟨at_78, rfl⟩
theorem i0_80 : Ins1 code 80 (.iload 11) 2 82 := ⟨at_80, rfl⟩
theorem i0_82 : Ins1 code 82 (.lload 16) 2 84 := ⟨at_82, rfl⟩
theorem i0_84 : Ins1 code 84 (.invokevirtual 15) 3 87 := ⟨at_84, rfl⟩
theorem i0_87 : Ins1 code 87 (.iconst 0) 1 88 := ⟨at_87, rfl⟩
theorem i0_88 : Ins1 code 88 (.iload 9) 2 90 := ⟨at_88, rfl⟩
theorem i0_90 : Ins1 code 90 (.lload 12) 2 92 := ⟨at_90, rfl⟩
theorem i0_92 : Ins1 code 92 (.invokestatic 19) 3 95 := ⟨at_92, rfl⟩
theorem i0_95 : Ins1 code 95 (.iconst 0) 1 96 := ⟨at_95, rfl⟩
theorem i0_96 : Ins1 code 96 (.iload 10) 2 98 := ⟨at_96, rfl⟩
theorem i0_98 : Ins1 code 98 (.lload 14) 2 100 := ⟨at_98, rfl⟩
theorem i0_100 : Ins1 code 100 (.invokestatic 19) 3 103 := ⟨at_100, rfl⟩
theorem i0_103 : Ins1 code 103 (.ladd) 1 104 := ⟨at_103, rfl⟩
theorem i0_104 : Ins1 code 104 (.iconst 0) 1 105 := ⟨at_104, rfl⟩
theorem i0_105 : Ins1 code 105 (.iload 11) 2 107 := ⟨at_105, rfl⟩
theorem i0_107 : Ins1 code 107 (.lload 16) 2 109 := ⟨at_107, rfl⟩
theorem i0_109 : Ins1 code 109 (.invokestatic 19) 3 112 := ⟨at_109, rfl⟩
theorem i0_112 : Ins1 code 112 (.ladd) 1 113 := ⟨at_112, rfl⟩
theorem i0_113 : Ins1 code 113 (.lstore 19) 2 115 := ⟨at_113, rfl⟩
theorem i0_115 : Ins1 code 115 (.iconst 1) 1 116 := ⟨at_115, rfl⟩
theorem i0_116 : Ins1 code 116 (.iload 9) 2 118 := ⟨at_116, rfl⟩
theorem i0_118 : Ins1 code 118 (.lload 12) 2 120 := ⟨at_118, rfl⟩
theorem i0_120 : Ins1 code 120 (.invokestatic 19) 3 123 := ⟨at_120, rfl⟩
theorem i0_123 : Ins1 code 123 (.iconst 1) 1 124 := ⟨at_123, rfl⟩
theorem i0_124 : Ins1 code 124 (.iload 10) 2 126 := ⟨at_124, rfl⟩
theorem i0_126 : Ins1 code 126 (.lload 14) 2 128 := ⟨at_126, rfl⟩
theorem i0_128 : Ins1 code 128 (.invokestatic 19) 3 131 := ⟨at_128, rfl⟩
theorem i0_131 : Ins1 code 131 (.ladd) 1 132 := ⟨at_131, rfl⟩
theorem i0_132 : Ins1 code 132 (.iconst 1) 1 133 := ⟨at_132, rfl⟩
theorem i0_133 : Ins1 code 133 (.iload 11) 2 135 := ⟨at_133, rfl⟩
theorem i0_135 : Ins1 code 135 (.lload 16) 2 137 := ⟨at_135, rfl⟩
theorem i0_137 : Ins1 code 137 (.invokestatic 19) 3 140 := ⟨at_137, rfl⟩
theorem i0_140 : Ins1 code 140 (.ladd) 1 141 := ⟨at_140, rfl⟩
theorem i0_141 : Ins1 code 141 (.lstore 21) 2 143 := ⟨at_141, rfl⟩
theorem i0_143 : Ins1 code 143 (.iconst 2) 1 144 := ⟨at_143, rfl⟩
theorem i0_144 : Ins1 code 144 (.iload 9) 2 146 := ⟨at_144, rfl⟩
theorem i0_146 : Ins1 code 146 (.lload 12) 2 148 := ⟨at_146, rfl⟩
theorem i0_148 : Ins1 code 148 (.invokestatic 19) 3 151 := ⟨at_148, rfl⟩
theorem i0_151 : Ins1 code 151 (.iconst 2) 1 152 := ⟨at_151, rfl⟩
theorem i0_152 : Ins1 code 152 (.iload 10) 2 154 := ⟨at_152, rfl⟩
theorem i0_154 : Ins1 code 154 (.lload 14) 2 156 := ⟨at_154, rfl⟩
theorem i0_156 : Ins1 code 156 (.invokestatic 19) 3 159 := ⟨at_156, rfl⟩
theorem i0_159 : Ins1 code 159 (.ladd) 1 160 := ⟨at_159, rfl⟩
theorem i0_160 : Ins1 code 160 (.iconst 2) 1 161 := ⟨at_160, rfl⟩
theorem i0_161 : Ins1 code 161 (.iload 11) 2 163 := ⟨at_161, rfl⟩
theorem i0_163 : Ins1 code 163 (.lload 16) 2 165 := ⟨at_163, rfl⟩
theorem i0_165 : Ins1 code 165 (.invokestatic 19) 3 168 := ⟨at_165, rfl⟩
theorem i0_168 : Ins1 code 168 (.ladd) 1 169 := ⟨at_168, rfl⟩
theorem i0_169 : Ins1 code 169 (.lstore 23) 2 171 := ⟨at_169, rfl⟩
theorem i0_171 : Ins1 code 171 (.lload 12) 2 173 := ⟨at_171, rfl⟩
theorem i0_173 : Ins1 code 173 (.lload 14) 2 175 := ⟨at_173, rfl⟩
theorem i0_175 : Ins1 code 175 (.ladd) 1 176 := ⟨at_175, rfl⟩
theorem i0_176 : Ins1 code 176 (.lload 16) 2 178 := ⟨at_176, rfl⟩
theorem i0_178 : Ins1 code 178 (.ladd) 1 179 := ⟨at_178, rfl⟩
theorem i0_179 : Ins1 code 179 (.lstore 25) 2 181 := ⟨at_179, rfl⟩
theorem i0_181 : Ins1 code 181 (.lload 19) 2 183 := ⟨at_181, rfl⟩
theorem i0_183 : Ins1 code 183 (.lconst 0) 1 184 := ⟨at_183, rfl⟩
theorem i0_184 : Ins1 code 184 (.lcmp) 1 185 := ⟨at_184, rfl⟩
theorem i0_185 : InsB code 185 (.ifCond .eq 7) 7 188 192 := ⟨at_185, rfl, by decide, by decide⟩
theorem i0_188 : Ins1 code 188 (.iconst 0) 1 189 := ⟨at_188, rfl⟩
theorem i0_189 : InsB code 189 (.goto 15) 15 192 204 := ⟨at_189, rfl, by decide, by decide⟩
theorem i0_192 : Ins1 code 192 (.lload 21) 2 194 := ⟨at_192, rfl⟩
theorem i0_194 : Ins1 code 194 (.lconst 0) 1 195 := ⟨at_194, rfl⟩
theorem i0_195 : Ins1 code 195 (.lcmp) 1 196 := ⟨at_195, rfl⟩
theorem i0_196 : InsB code 196 (.ifCond .eq 7) 7 199 203 := ⟨at_196, rfl, by decide, by decide⟩
theorem i0_199 : Ins1 code 199 (.iconst 1) 1 200 := ⟨at_199, rfl⟩
theorem i0_200 : InsB code 200 (.goto 4) 4 203 204 := ⟨at_200, rfl, by decide, by decide⟩
theorem i0_203 : Ins1 code 203 (.iconst 2) 1 204 := ⟨at_203, rfl⟩
theorem i0_204 : Ins1 code 204 (.istore 27) 2 206 := ⟨at_204, rfl⟩
theorem i0_206 : Ins1 code 206 (.iload 27) 2 208 := ⟨at_206, rfl⟩
theorem i0_208 : InsB code 208 (.ifCond .ne 8) 8 211 216 := ⟨at_208, rfl, by decide, by decide⟩
theorem i0_211 : Ins1 code 211 (.lload 19) 2 213 := ⟨at_211, rfl⟩
theorem i0_213 : InsB code 213 (.goto 16) 16 216 229 := ⟨at_213, rfl, by decide, by decide⟩
theorem i0_216 : Ins1 code 216 (.iload 27) 2 218 := ⟨at_216, rfl⟩
theorem i0_218 : Ins1 code 218 (.iconst 1) 1 219 := ⟨at_218, rfl⟩
theorem i0_219 : InsB code 219 (.if_icmp .ne 8) 8 222 227 := ⟨at_219, rfl, by decide, by decide⟩
theorem i0_222 : Ins1 code 222 (.lload 21) 2 224 := ⟨at_222, rfl⟩
theorem i0_224 : InsB code 224 (.goto 5) 5 227 229 := ⟨at_224, rfl, by decide, by decide⟩
theorem i0_227 : Ins1 code 227 (.lload 23) 2 229 := ⟨at_227, rfl⟩
theorem i0_229 : Ins1 code 229 (.lstore 28) 2 231 := ⟨at_229, rfl⟩
theorem i0_231 : Ins1 code 231 (.lload 19) 2 233 := ⟨at_231, rfl⟩
theorem i0_233 : Ins1 code 233 (.lload 21) 2 235 := ⟨at_233, rfl⟩
theorem i0_235 : Ins1 code 235 (.lload 23) 2 237 := ⟨at_235, rfl⟩
theorem i0_237 : Ins1 code 237 (.invokestatic 25) 3 240 := ⟨at_237, rfl⟩
theorem i0_240 : Ins1 code 240 (.invokestatic 25) 3 243 := ⟨at_240, rfl⟩
theorem i0_243 : Ins1 code 243 (.lstore 30) 2 245 := ⟨at_243, rfl⟩
theorem i0_245 : Ins1 code 245 (.lload 25) 2 247 := ⟨at_245, rfl⟩
theorem i0_247 : Ins1 code 247 (.lload 30) 2 249 := ⟨at_247, rfl⟩
theorem i0_249 : Ins1 code 249 (.lsub) 1 250 := ⟨at_249, rfl⟩
theorem i0_250 : Ins1 code 250 (.l2d) 1 251 := ⟨at_250, rfl⟩
theorem i0_251 : Ins1 code 251 (.lload 25) 2 253 := ⟨at_251, rfl⟩
theorem i0_253 : Ins1 code 253 (.l2d) 1 254 := ⟨at_253, rfl⟩
theorem i0_254 : Ins1 code 254 (.ddiv) 1 255 := ⟨at_254, rfl⟩
theorem i0_255 : Ins1 code 255 (.dstore 32) 2 257 := ⟨at_255, rfl⟩
theorem i0_257 : Ins1 code 257 (.lload 25) 2 259 := ⟨at_257, rfl⟩
theorem i0_259 : Ins1 code 259 (.lload 28) 2 261 := ⟨at_259, rfl⟩
theorem i0_261 : Ins1 code 261 (.lsub) 1 262 := ⟨at_261, rfl⟩
theorem i0_262 : Ins1 code 262 (.l2d) 1 263 := ⟨at_262, rfl⟩
theorem i0_263 : Ins1 code 263 (.lload 25) 2 265 := ⟨at_263, rfl⟩
theorem i0_265 : Ins1 code 265 (.l2d) 1 266 := ⟨at_265, rfl⟩
theorem i0_266 : Ins1 code 266 (.ddiv) 1 267 := ⟨at_266, rfl⟩
theorem i0_267 : Ins1 code 267 (.dstore 34) 2 269 := ⟨at_267, rfl⟩
theorem i0_269 : Ins1 code 269 (.aload 18) 2 271 := ⟨at_269, rfl⟩
theorem i0_271 : Ins1 code 271 (.invokevirtual 31) 3 274 := ⟨at_271, rfl⟩
theorem i0_274 : Ins1 code 274 (.iload 27) 2 276 := ⟨at_274, rfl⟩
theorem i0_276 : InsB code 276 (.if_icmp .ne 29) 29 279 305 := ⟨at_276, rfl, by decide, by decide⟩
theorem i0_279 : Ins1 code 279 (.aload 18) 2 281 := ⟨at_279, rfl⟩
theorem i0_281 : Ins1 code 281 (.invokevirtual 35) 3 284 := ⟨at_281, rfl⟩
theorem i0_284 : Ins1 code 284 (.dload 32) 2 286 := ⟨at_284, rfl⟩
theorem i0_286 : Ins1 code 286 (.dcmp .l) 1 287 := ⟨at_286, rfl⟩
theorem i0_287 : InsB code 287 (.ifCond .ne 18) 18 290 305 := ⟨at_287, rfl, by decide, by decide⟩
theorem i0_290 : Ins1 code 290 (.aload 18) 2 292 := ⟨at_290, rfl⟩
theorem i0_292 : Ins1 code 292 (.invokevirtual 39) 3 295 := ⟨at_292, rfl⟩
theorem i0_295 : Ins1 code 295 (.dload 34) 2 297 := ⟨at_295, rfl⟩
theorem i0_297 : Ins1 code 297 (.dcmp .l) 1 298 := ⟨at_297, rfl⟩
theorem i0_298 : InsB code 298 (.ifCond .ne 7) 7 301 305 := ⟨at_298, rfl, by decide, by decide⟩
theorem i0_301 : Ins1 code 301 (.iconst 1) 1 302 := ⟨at_301, rfl⟩
theorem i0_302 : InsB code 302 (.goto 4) 4 305 306 := ⟨at_302, rfl, by decide, by decide⟩
theorem i0_305 : Ins1 code 305 (.iconst 0) 1 306 := ⟨at_305, rfl⟩
theorem i0_306 : Ins1 code 306 (.ireturn) 1 307 := ⟨at_306, rfl⟩
theorem ef_0 (m : MethodId) (p0 : Int32) (q1 : Int64) (p2 : Int32) (q3 : Int64) (p4 : Int32) (q5 : Int64) : entryFrame m #[(.int p0), (.long q1), (.int p2), (.long q3), (.int p4), (.long q5)] maxLocals = mkF m 0 #[.val (.int p0), .val (.long q1), .second, .val (.int p2), .val (.long q3), .second, .val (.int p4), .val (.long q5), .second, .unset, .unset, .unset, .unset, .unset, .unset, .unset, .unset, .unset, .unset, .unset, .unset, .unset, .unset, .unset, .unset, .unset, .unset, .unset, .unset, .unset, .unset, .unset, .unset, .unset, .unset, .unset] [] := by first | (simp [entryFrame, mkF, argsToLocals, Value.category, maxLocals]; done) | rfl
theorem pd_2 : parseMethodDescriptor "(I)V" = some ⟨[.int], none⟩ := by decide +kernel
theorem pd_3 : parseMethodDescriptor "(IJ)V" = some ⟨[.int, .long], none⟩ := by decide +kernel
theorem pd_4 : parseMethodDescriptor "(IIJ)J" = some ⟨[.int, .int, .long], some .long⟩ := by decide +kernel
theorem pd_5 : parseMethodDescriptor "()D" = some ⟨[], some .double⟩ := by decide +kernel
set_option maxRecDepth 65536 in
set_option maxHeartbeats 40000000 in
theorem rm0 (l : Launch) (Z : State) (a0 : Array Value) (hw : ∀ d ∈ tables_1, d.before a0 Z = true) (ws : List Jvm.Cond) (p0 : Int32) (q1 : Int64) (p2 : Int32) (q3 : Int64) (p4 : Int32) (q5 : Int64)  (h0 : Heap) (n0 : Nat) (Z0 : n0 ≤ h0.size)  :
    Met1 l x code maxLocals ret ws room_1 #[(.int p0), (.long q1), (.int p2), (.long q3), (.int p4), (.long q5)] Z h0 (RV fun z _ L => z = .int 1 ∧ Fr n0 L) := by
  refine met_of (plainFor_of_name pn_com_example_value_generalizer_valuegeneralizer_ColumnLevelsAddPinLaw) ?_
  intro p e s m below meth c T0 X0 hx hby hml hZ hown hnm hret hlk e0 es
  have N0 := Fr.nil n0
  refine Gd.cast (ef_0 m p0 q1 p2 q3 p4 q5) ?_
  replace hown : s.vm.findClass "com/example/value_generalizer/valuegeneralizer/ColumnLevelsAddPinLaw" = some m.cls := hown
  refine g_iloadN X0 hx hby i0_0 rfl ?_
  refine g_ldcInt X0 hx hby hZ hown (hw _ (List.mem_of_getElem? (i := 0) rfl)) i0_1 ?_
  refine g_iand X0 hx hby i0_3 ?_
  refine g_iconst X0 hx hby i0_4 (z := (3 : Int32)) (by decide) ?_
  refine g_irem X0 hx hby i0_5 (by decide) ?_
  refine g_istoreW X0 hx hby i0_6 (l' := fun v1 => #[.val (.int p0), .val (.long q1), .second, .val (.int p2), .val (.long q3), .second, .val (.int p4), .val (.long q5), .second, .val (.int v1), .unset, .unset, .unset, .unset, .unset, .unset, .unset, .unset, .unset, .unset, .unset, .unset, .unset, .unset, .unset, .unset, .unset, .unset, .unset, .unset, .unset, .unset, .unset, .unset, .unset, .unset]) (fun _ => rfl) fun v1 hv1 => ?_
  refine g_iloadN X0 hx hby i0_8 rfl ?_
  refine g_ldcInt X0 hx hby hZ hown (hw _ (List.mem_of_getElem? (i := 0) rfl)) i0_9 ?_
  refine g_iand X0 hx hby i0_11 ?_
  refine g_iconst X0 hx hby i0_12 (z := (3 : Int32)) (by decide) ?_
  refine g_irem X0 hx hby i0_13 (by decide) ?_
  refine g_istoreW X0 hx hby i0_14 (l' := fun v2 => #[.val (.int p0), .val (.long q1), .second, .val (.int p2), .val (.long q3), .second, .val (.int p4), .val (.long q5), .second, .val (.int v1), .val (.int v2), .unset, .unset, .unset, .unset, .unset, .unset, .unset, .unset, .unset, .unset, .unset, .unset, .unset, .unset, .unset, .unset, .unset, .unset, .unset, .unset, .unset, .unset, .unset, .unset, .unset]) (fun _ => rfl) fun v2 hv2 => ?_
  refine g_iload X0 hx hby i0_16 rfl ?_
  refine g_ldcInt X0 hx hby hZ hown (hw _ (List.mem_of_getElem? (i := 0) rfl)) i0_18 ?_
  refine g_iand X0 hx hby i0_20 ?_
  refine g_iconst X0 hx hby i0_21 (z := (3 : Int32)) (by decide) ?_
  refine g_irem X0 hx hby i0_22 (by decide) ?_
  refine g_istoreW X0 hx hby i0_23 (l' := fun v3 => #[.val (.int p0), .val (.long q1), .second, .val (.int p2), .val (.long q3), .second, .val (.int p4), .val (.long q5), .second, .val (.int v1), .val (.int v2), .val (.int v3), .unset, .unset, .unset, .unset, .unset, .unset, .unset, .unset, .unset, .unset, .unset, .unset, .unset, .unset, .unset, .unset, .unset, .unset, .unset, .unset, .unset, .unset, .unset, .unset]) (fun _ => rfl) fun v3 hv3 => ?_
  refine g_lloadN X0 hx hby i0_25 rfl ?_
  refine g_ldc2Long X0 hx hby hZ hown (hw _ (List.mem_of_getElem? (i := 1) rfl)) i0_26 ?_
  refine g_land X0 hx hby i0_29 ?_
  refine g_lconst X0 hx hby i0_30 (z := (1 : Int64)) (by decide) ?_
  refine g_ladd X0 hx hby i0_31 ?_
  refine g_lstoreW X0 hx hby i0_32 (l' := fun v4 => #[.val (.int p0), .val (.long q1), .second, .val (.int p2), .val (.long q3), .second, .val (.int p4), .val (.long q5), .second, .val (.int v1), .val (.int v2), .val (.int v3), .val (.long v4), .second, .unset, .unset, .unset, .unset, .unset, .unset, .unset, .unset, .unset, .unset, .unset, .unset, .unset, .unset, .unset, .unset, .unset, .unset, .unset, .unset, .unset, .unset]) (fun _ => rfl) fun v4 hv4 => ?_
  refine g_lload X0 hx hby i0_34 rfl ?_
  refine g_ldc2Long X0 hx hby hZ hown (hw _ (List.mem_of_getElem? (i := 1) rfl)) i0_36 ?_
  refine g_land X0 hx hby i0_39 ?_
  refine g_lstoreW X0 hx hby i0_40 (l' := fun v5 => #[.val (.int p0), .val (.long q1), .second, .val (.int p2), .val (.long q3), .second, .val (.int p4), .val (.long q5), .second, .val (.int v1), .val (.int v2), .val (.int v3), .val (.long v4), .second, .val (.long v5), .second, .unset, .unset, .unset, .unset, .unset, .unset, .unset, .unset, .unset, .unset, .unset, .unset, .unset, .unset, .unset, .unset, .unset, .unset, .unset, .unset]) (fun _ => rfl) fun v5 hv5 => ?_
  refine g_lload X0 hx hby i0_42 rfl ?_
  refine g_ldc2Long X0 hx hby hZ hown (hw _ (List.mem_of_getElem? (i := 1) rfl)) i0_44 ?_
  refine g_land X0 hx hby i0_47 ?_
  refine g_lstoreW X0 hx hby i0_48 (l' := fun v6 => #[.val (.int p0), .val (.long q1), .second, .val (.int p2), .val (.long q3), .second, .val (.int p4), .val (.long q5), .second, .val (.int v1), .val (.int v2), .val (.int v3), .val (.long v4), .second, .val (.long v5), .second, .val (.long v6), .second, .unset, .unset, .unset, .unset, .unset, .unset, .unset, .unset, .unset, .unset, .unset, .unset, .unset, .unset, .unset, .unset, .unset, .unset]) (fun _ => rfl) fun v6 hv6 => ?_
  refine g_new X0 hx hby hZ hown (hw _ (List.mem_of_getElem? (i := 2) rfl)) (hw _ (List.mem_of_getElem? (i := 3) rfl)) (hw _ (List.mem_of_getElem? (i := 4) rfl)) e0 i0_50 (by decide) (by decide) fun T7 h7 b7 X7 e7 E7 hb7 A7 D7 => ?_
  have g_b7 : n0 ≤ b7 := Nat.le_trans Z0 (Nat.le_of_eq hb7.symm)
  have Z0 : n0 ≤ h7.size := Nat.le_trans Z0 E7.1
  have F7_records : Fld Z h7 b7 "com/example/value_generalizer/valuegeneralizer/ColumnLevels" "records" "[J" .null := D7 (Or.inr (hw _ (List.mem_of_getElem? (i := 13) rfl))) (ty := (.array .long)) (by decide)
  have F7_total : Fld Z h7 b7 "com/example/value_generalizer/valuegeneralizer/ColumnLevels" "total" "J" (.long (0 : Int64)) := D7 (Or.inl (hw _ (List.mem_of_getElem? (i := 20) rfl))) (ty := .long) (by decide)
  refine g_dup X7 hx hby i0_53 rfl ?_
  refine g_iconst X7 hx hby i0_54 (z := (2 : Int32)) (by decide) ?_
  refine g_callInit0 X7 hx hby hZ (y := (⟨"com/example/value_generalizer/valuegeneralizer/ColumnLevels", "<init>", "(I)V"⟩ : MethodName)) (argsL := [(.int (2 : Int32))]) (rest := [(.ref b7)]) rfl hown (hw _ (List.mem_of_getElem? (i := 5) rfl)) (hw _ (List.mem_of_getElem? (i := 6) rfl)) (hw _ (List.mem_of_getElem? (i := 4) rfl)) (hw _ (List.mem_of_getElem? (i := 7) rfl)) (by decide) (a := b7) (rm1 l Z a0 hw [] b7 (2 : Int32) h7 n0 Z0 A7 F7_records F7_total g_b7 rfl) e7 (by rw [hml]; rfl) pd_2 rfl rfl i0_55 (by decide) 1 rfl (by decide) (by decide) (by decide) fun T8 v8 L8 X8 q8 => ?_
  obtain ⟨rfl, b8, k8, K8, E8, F8_r, F8_t, V8, g_b8, s8, N8⟩ := q8
  have N0 := Fr.app N0 N8
  have ne_b7_b8 : b7 ≠ b8 := Nat.ne_of_lt (Nat.lt_of_lt_of_le A7.lt s8)
  have A7 := A7.keep K8
  have Z0 : n0 ≤ T8.heap.size := Nat.le_trans Z0 K8.1
  have F_r := F8_r
  have F_t := F8_t
  have V := V8
  show Gd p e below _ T8 (mkF m 58 #[.val (.int p0), .val (.long q1), .second, .val (.int p2), .val (.long q3), .second, .val (.int p4), .val (.long q5), .second, .val (.int v1), .val (.int v2), .val (.int v3), .val (.long v4), .second, .val (.long v5), .second, .val (.long v6), .second, .unset, .unset, .unset, .unset, .unset, .unset, .unset, .unset, .unset, .unset, .unset, .unset, .unset, .unset, .unset, .unset, .unset, .unset] [(.ref b7)])
  refine g_astore X8 hx hby i0_58 rfl (l' := #[.val (.int p0), .val (.long q1), .second, .val (.int p2), .val (.long q3), .second, .val (.int p4), .val (.long q5), .second, .val (.int v1), .val (.int v2), .val (.int v3), .val (.long v4), .second, .val (.long v5), .second, .val (.long v6), .second, .val (.ref b7), .unset, .unset, .unset, .unset, .unset, .unset, .unset, .unset, .unset, .unset, .unset, .unset, .unset, .unset, .unset, .unset, .unset]) rfl ?_
  refine g_aload X8 hx hby i0_60 rfl rfl ?_
  refine g_iload X8 hx hby i0_62 rfl ?_
  refine g_lload X8 hx hby i0_64 rfl ?_
  refine g_callV0 X8 hx hby hZ (y0 := (⟨"com/example/value_generalizer/valuegeneralizer/ColumnLevels", "add", "(IJ)V"⟩ : MethodName)) (y := (⟨"com/example/value_generalizer/valuegeneralizer/ColumnLevels", "add", "(IJ)V"⟩ : MethodName)) (argsL := [(.int v1), (.long v4)]) (rest := []) hown (hw _ (List.mem_of_getElem? (i := 14) rfl)) (hw _ (List.mem_of_getElem? (i := 15) rfl)) (notFace_of_selects (args := #[]) (mvT hZ (hw _ (List.mem_of_getElem? (i := 17) rfl)))) (hw _ (List.mem_of_getElem? (i := 17) rfl)) (hw _ (List.mem_of_getElem? (i := 16) rfl)) (hw _ (List.mem_of_getElem? (i := 4) rfl)) (hw _ (List.mem_of_getElem? (i := 18) rfl)) (by decide) (a := b7) A7 (rm3 l Z a0 hw [] b7 v1 v4 b8 k8 (0 : Int64) (0 : Int64) (0 : Int64) (0 : Int64) T8.heap n0 Z0 A7 F_r F_t V g_b7 g_b8 ne_b7_b8 (own_mod3 hv1)) rfl (by rw [hml]; rfl) pd_3 rfl rfl i0_66 (by decide) 0 rfl (by decide) (by decide) (by decide) fun T9 v9 L9 X9 q9 => ?_
  obtain ⟨rfl, K9, -, F_r, F_t, V, N9⟩ := q9
  have N0 := Fr.app N0 N9
  have A7 := A7.keep K9
  have Z0 : n0 ≤ T9.heap.size := Nat.le_trans Z0 K9.1
  show Gd p e below _ T9 (mkF m 69 #[.val (.int p0), .val (.long q1), .second, .val (.int p2), .val (.long q3), .second, .val (.int p4), .val (.long q5), .second, .val (.int v1), .val (.int v2), .val (.int v3), .val (.long v4), .second, .val (.long v5), .second, .val (.long v6), .second, .val (.ref b7), .unset, .unset, .unset, .unset, .unset, .unset, .unset, .unset, .unset, .unset, .unset, .unset, .unset, .unset, .unset, .unset, .unset] [])
  refine g_aload X9 hx hby i0_69 rfl rfl ?_
  refine g_iload X9 hx hby i0_71 rfl ?_
  refine g_lload X9 hx hby i0_73 rfl ?_
  refine g_callV0 X9 hx hby hZ (y0 := (⟨"com/example/value_generalizer/valuegeneralizer/ColumnLevels", "add", "(IJ)V"⟩ : MethodName)) (y := (⟨"com/example/value_generalizer/valuegeneralizer/ColumnLevels", "add", "(IJ)V"⟩ : MethodName)) (argsL := [(.int v2), (.long v5)]) (rest := []) hown (hw _ (List.mem_of_getElem? (i := 14) rfl)) (hw _ (List.mem_of_getElem? (i := 15) rfl)) (notFace_of_selects (args := #[]) (mvT hZ (hw _ (List.mem_of_getElem? (i := 17) rfl)))) (hw _ (List.mem_of_getElem? (i := 17) rfl)) (hw _ (List.mem_of_getElem? (i := 16) rfl)) (hw _ (List.mem_of_getElem? (i := 4) rfl)) (hw _ (List.mem_of_getElem? (i := 18) rfl)) (by decide) (a := b7) A7 (rm3 l Z a0 hw [] b7 v2 v5 b8 k8 (own_up v1 v4 0 (0 : Int64)) (own_up v1 v4 1 (0 : Int64)) (own_up v1 v4 2 (0 : Int64)) ((0 : Int64) + v4) T9.heap n0 Z0 A7 F_r F_t V g_b7 g_b8 ne_b7_b8 (own_mod3 hv2)) rfl (by rw [hml]; rfl) pd_3 rfl rfl i0_75 (by decide) 0 rfl (by decide) (by decide) (by decide) fun T10 v10 L10 X10 q10 => ?_
  obtain ⟨rfl, K10, -, F_r, F_t, V, N10⟩ := q10
  have N0 := Fr.app N0 N10
  have A7 := A7.keep K10
  have Z0 : n0 ≤ T10.heap.size := Nat.le_trans Z0 K10.1
  show Gd p e below _ T10 (mkF m 78 #[.val (.int p0), .val (.long q1), .second, .val (.int p2), .val (.long q3), .second, .val (.int p4), .val (.long q5), .second, .val (.int v1), .val (.int v2), .val (.int v3), .val (.long v4), .second, .val (.long v5), .second, .val (.long v6), .second, .val (.ref b7), .unset, .unset, .unset, .unset, .unset, .unset, .unset, .unset, .unset, .unset, .unset, .unset, .unset, .unset, .unset, .unset, .unset] [])
  refine g_aload X10 hx hby i0_78 rfl rfl ?_
  refine g_iload X10 hx hby i0_80 rfl ?_
  refine g_lload X10 hx hby i0_82 rfl ?_
  refine g_callV0 X10 hx hby hZ (y0 := (⟨"com/example/value_generalizer/valuegeneralizer/ColumnLevels", "add", "(IJ)V"⟩ : MethodName)) (y := (⟨"com/example/value_generalizer/valuegeneralizer/ColumnLevels", "add", "(IJ)V"⟩ : MethodName)) (argsL := [(.int v3), (.long v6)]) (rest := []) hown (hw _ (List.mem_of_getElem? (i := 14) rfl)) (hw _ (List.mem_of_getElem? (i := 15) rfl)) (notFace_of_selects (args := #[]) (mvT hZ (hw _ (List.mem_of_getElem? (i := 17) rfl)))) (hw _ (List.mem_of_getElem? (i := 17) rfl)) (hw _ (List.mem_of_getElem? (i := 16) rfl)) (hw _ (List.mem_of_getElem? (i := 4) rfl)) (hw _ (List.mem_of_getElem? (i := 18) rfl)) (by decide) (a := b7) A7 (rm3 l Z a0 hw [] b7 v3 v6 b8 k8 (own_up v2 v5 0 (own_up v1 v4 0 (0 : Int64))) (own_up v2 v5 1 (own_up v1 v4 1 (0 : Int64))) (own_up v2 v5 2 (own_up v1 v4 2 (0 : Int64))) (((0 : Int64) + v4) + v5) T10.heap n0 Z0 A7 F_r F_t V g_b7 g_b8 ne_b7_b8 (own_mod3 hv3)) rfl (by rw [hml]; rfl) pd_3 rfl rfl i0_84 (by decide) 0 rfl (by decide) (by decide) (by decide) fun T11 v11 L11 X11 q11 => ?_
  obtain ⟨rfl, K11, -, F_r, F_t, V, N11⟩ := q11
  have N0 := Fr.app N0 N11
  have A7 := A7.keep K11
  have Z0 : n0 ≤ T11.heap.size := Nat.le_trans Z0 K11.1
  show Gd p e below _ T11 (mkF m 87 #[.val (.int p0), .val (.long q1), .second, .val (.int p2), .val (.long q3), .second, .val (.int p4), .val (.long q5), .second, .val (.int v1), .val (.int v2), .val (.int v3), .val (.long v4), .second, .val (.long v5), .second, .val (.long v6), .second, .val (.ref b7), .unset, .unset, .unset, .unset, .unset, .unset, .unset, .unset, .unset, .unset, .unset, .unset, .unset, .unset, .unset, .unset, .unset] [])
  refine g_iconst X11 hx hby i0_87 (z := (0 : Int32)) (by decide) ?_
  refine g_iload X11 hx hby i0_88 rfl ?_
  refine g_lload X11 hx hby i0_90 rfl ?_
  refine g_callS0 X11 hx hby hZ (y := (⟨"com/example/value_generalizer/valuegeneralizer/ColumnLevelsAddPinLaw", "at", "(IIJ)J"⟩ : MethodName)) (argsL := [(.int (0 : Int32)), (.int v1), (.long v4)]) (rest := []) hown (hw _ (List.mem_of_getElem? (i := 21) rfl)) (hw _ (List.mem_of_getElem? (i := 22) rfl)) (hw _ (List.mem_of_getElem? (i := 23) rfl)) (hw _ (List.mem_of_getElem? (i := 24) rfl)) (by decide) (rm4 l Z a0 hw [] (0 : Int32) v1 v4 T11.heap n0 Z0) rfl (by rw [hml]; rfl) pd_4 rfl rfl i0_92 (by decide) 0 rfl (by decide) (by decide) (by decide) fun T12 v12 L12 X12 q12 => ?_
  obtain ⟨_, rfl, rfl, e12, N12⟩ := q12
  have N0 := Fr.app N0 N12
  show Gd p e below _ T12 (mkF m 95 #[.val (.int p0), .val (.long q1), .second, .val (.int p2), .val (.long q3), .second, .val (.int p4), .val (.long q5), .second, .val (.int v1), .val (.int v2), .val (.int v3), .val (.long v4), .second, .val (.long v5), .second, .val (.long v6), .second, .val (.ref b7), .unset, .unset, .unset, .unset, .unset, .unset, .unset, .unset, .unset, .unset, .unset, .unset, .unset, .unset, .unset, .unset, .unset] [(.long (own_at (0 : Int32) v1 v4))])
  refine g_iconst X12 hx hby i0_95 (z := (0 : Int32)) (by decide) ?_
  refine g_iload X12 hx hby i0_96 rfl ?_
  refine g_lload X12 hx hby i0_98 rfl ?_
  refine g_callS0 X12 hx hby hZ (y := (⟨"com/example/value_generalizer/valuegeneralizer/ColumnLevelsAddPinLaw", "at", "(IIJ)J"⟩ : MethodName)) (argsL := [(.int (0 : Int32)), (.int v2), (.long v5)]) (rest := [(.long (own_at (0 : Int32) v1 v4))]) hown (hw _ (List.mem_of_getElem? (i := 21) rfl)) (hw _ (List.mem_of_getElem? (i := 22) rfl)) (hw _ (List.mem_of_getElem? (i := 23) rfl)) (hw _ (List.mem_of_getElem? (i := 24) rfl)) (by decide) (rm4 l Z a0 hw [] (0 : Int32) v2 v5 T11.heap n0 Z0) e12 (by rw [hml]; rfl) pd_4 rfl rfl i0_100 (by decide) 2 rfl (by decide) (by decide) (by decide) fun T13 v13 L13 X13 q13 => ?_
  obtain ⟨_, rfl, rfl, e13, N13⟩ := q13
  have N0 := Fr.app N0 N13
  show Gd p e below _ T13 (mkF m 103 #[.val (.int p0), .val (.long q1), .second, .val (.int p2), .val (.long q3), .second, .val (.int p4), .val (.long q5), .second, .val (.int v1), .val (.int v2), .val (.int v3), .val (.long v4), .second, .val (.long v5), .second, .val (.long v6), .second, .val (.ref b7), .unset, .unset, .unset, .unset, .unset, .unset, .unset, .unset, .unset, .unset, .unset, .unset, .unset, .unset, .unset, .unset, .unset] [(.long (own_at (0 : Int32) v2 v5)), (.long (own_at (0 : Int32) v1 v4))])
  refine g_ladd X13 hx hby i0_103 ?_
  refine g_iconst X13 hx hby i0_104 (z := (0 : Int32)) (by decide) ?_
  refine g_iload X13 hx hby i0_105 rfl ?_
  refine g_lload X13 hx hby i0_107 rfl ?_
  refine g_callS0 X13 hx hby hZ (y := (⟨"com/example/value_generalizer/valuegeneralizer/ColumnLevelsAddPinLaw", "at", "(IIJ)J"⟩ : MethodName)) (argsL := [(.int (0 : Int32)), (.int v3), (.long v6)]) (rest := [(.long ((own_at (0 : Int32) v1 v4) + (own_at (0 : Int32) v2 v5)))]) hown (hw _ (List.mem_of_getElem? (i := 21) rfl)) (hw _ (List.mem_of_getElem? (i := 22) rfl)) (hw _ (List.mem_of_getElem? (i := 23) rfl)) (hw _ (List.mem_of_getElem? (i := 24) rfl)) (by decide) (rm4 l Z a0 hw [] (0 : Int32) v3 v6 T11.heap n0 Z0) e13 (by rw [hml]; rfl) pd_4 rfl rfl i0_109 (by decide) 2 rfl (by decide) (by decide) (by decide) fun T14 v14 L14 X14 q14 => ?_
  obtain ⟨_, rfl, rfl, e14, N14⟩ := q14
  have N0 := Fr.app N0 N14
  show Gd p e below _ T14 (mkF m 112 #[.val (.int p0), .val (.long q1), .second, .val (.int p2), .val (.long q3), .second, .val (.int p4), .val (.long q5), .second, .val (.int v1), .val (.int v2), .val (.int v3), .val (.long v4), .second, .val (.long v5), .second, .val (.long v6), .second, .val (.ref b7), .unset, .unset, .unset, .unset, .unset, .unset, .unset, .unset, .unset, .unset, .unset, .unset, .unset, .unset, .unset, .unset, .unset] [(.long (own_at (0 : Int32) v3 v6)), (.long ((own_at (0 : Int32) v1 v4) + (own_at (0 : Int32) v2 v5)))])
  refine g_ladd X14 hx hby i0_112 ?_
  refine g_lstoreW X14 hx hby i0_113 (l' := fun v15 => #[.val (.int p0), .val (.long q1), .second, .val (.int p2), .val (.long q3), .second, .val (.int p4), .val (.long q5), .second, .val (.int v1), .val (.int v2), .val (.int v3), .val (.long v4), .second, .val (.long v5), .second, .val (.long v6), .second, .val (.ref b7), .val (.long v15), .second, .unset, .unset, .unset, .unset, .unset, .unset, .unset, .unset, .unset, .unset, .unset, .unset, .unset, .unset, .unset]) (fun _ => rfl) fun v15 hv15 => ?_
  refine g_iconst X14 hx hby i0_115 (z := (1 : Int32)) (by decide) ?_
  refine g_iload X14 hx hby i0_116 rfl ?_
  refine g_lload X14 hx hby i0_118 rfl ?_
  refine g_callS0 X14 hx hby hZ (y := (⟨"com/example/value_generalizer/valuegeneralizer/ColumnLevelsAddPinLaw", "at", "(IIJ)J"⟩ : MethodName)) (argsL := [(.int (1 : Int32)), (.int v1), (.long v4)]) (rest := []) hown (hw _ (List.mem_of_getElem? (i := 21) rfl)) (hw _ (List.mem_of_getElem? (i := 22) rfl)) (hw _ (List.mem_of_getElem? (i := 23) rfl)) (hw _ (List.mem_of_getElem? (i := 24) rfl)) (by decide) (rm4 l Z a0 hw [] (1 : Int32) v1 v4 T11.heap n0 Z0) e14 (by rw [hml]; rfl) pd_4 rfl rfl i0_120 (by decide) 0 rfl (by decide) (by decide) (by decide) fun T16 v16 L16 X16 q16 => ?_
  obtain ⟨_, rfl, rfl, e16, N16⟩ := q16
  have N0 := Fr.app N0 N16
  show Gd p e below _ T16 (mkF m 123 #[.val (.int p0), .val (.long q1), .second, .val (.int p2), .val (.long q3), .second, .val (.int p4), .val (.long q5), .second, .val (.int v1), .val (.int v2), .val (.int v3), .val (.long v4), .second, .val (.long v5), .second, .val (.long v6), .second, .val (.ref b7), .val (.long v15), .second, .unset, .unset, .unset, .unset, .unset, .unset, .unset, .unset, .unset, .unset, .unset, .unset, .unset, .unset, .unset] [(.long (own_at (1 : Int32) v1 v4))])
  refine g_iconst X16 hx hby i0_123 (z := (1 : Int32)) (by decide) ?_
  refine g_iload X16 hx hby i0_124 rfl ?_
  refine g_lload X16 hx hby i0_126 rfl ?_
  refine g_callS0 X16 hx hby hZ (y := (⟨"com/example/value_generalizer/valuegeneralizer/ColumnLevelsAddPinLaw", "at", "(IIJ)J"⟩ : MethodName)) (argsL := [(.int (1 : Int32)), (.int v2), (.long v5)]) (rest := [(.long (own_at (1 : Int32) v1 v4))]) hown (hw _ (List.mem_of_getElem? (i := 21) rfl)) (hw _ (List.mem_of_getElem? (i := 22) rfl)) (hw _ (List.mem_of_getElem? (i := 23) rfl)) (hw _ (List.mem_of_getElem? (i := 24) rfl)) (by decide) (rm4 l Z a0 hw [] (1 : Int32) v2 v5 T11.heap n0 Z0) e16 (by rw [hml]; rfl) pd_4 rfl rfl i0_128 (by decide) 2 rfl (by decide) (by decide) (by decide) fun T17 v17 L17 X17 q17 => ?_
  obtain ⟨_, rfl, rfl, e17, N17⟩ := q17
  have N0 := Fr.app N0 N17
  show Gd p e below _ T17 (mkF m 131 #[.val (.int p0), .val (.long q1), .second, .val (.int p2), .val (.long q3), .second, .val (.int p4), .val (.long q5), .second, .val (.int v1), .val (.int v2), .val (.int v3), .val (.long v4), .second, .val (.long v5), .second, .val (.long v6), .second, .val (.ref b7), .val (.long v15), .second, .unset, .unset, .unset, .unset, .unset, .unset, .unset, .unset, .unset, .unset, .unset, .unset, .unset, .unset, .unset] [(.long (own_at (1 : Int32) v2 v5)), (.long (own_at (1 : Int32) v1 v4))])
  refine g_ladd X17 hx hby i0_131 ?_
  refine g_iconst X17 hx hby i0_132 (z := (1 : Int32)) (by decide) ?_
  refine g_iload X17 hx hby i0_133 rfl ?_
  refine g_lload X17 hx hby i0_135 rfl ?_
  refine g_callS0 X17 hx hby hZ (y := (⟨"com/example/value_generalizer/valuegeneralizer/ColumnLevelsAddPinLaw", "at", "(IIJ)J"⟩ : MethodName)) (argsL := [(.int (1 : Int32)), (.int v3), (.long v6)]) (rest := [(.long ((own_at (1 : Int32) v1 v4) + (own_at (1 : Int32) v2 v5)))]) hown (hw _ (List.mem_of_getElem? (i := 21) rfl)) (hw _ (List.mem_of_getElem? (i := 22) rfl)) (hw _ (List.mem_of_getElem? (i := 23) rfl)) (hw _ (List.mem_of_getElem? (i := 24) rfl)) (by decide) (rm4 l Z a0 hw [] (1 : Int32) v3 v6 T11.heap n0 Z0) e17 (by rw [hml]; rfl) pd_4 rfl rfl i0_137 (by decide) 2 rfl (by decide) (by decide) (by decide) fun T18 v18 L18 X18 q18 => ?_
  obtain ⟨_, rfl, rfl, e18, N18⟩ := q18
  have N0 := Fr.app N0 N18
  show Gd p e below _ T18 (mkF m 140 #[.val (.int p0), .val (.long q1), .second, .val (.int p2), .val (.long q3), .second, .val (.int p4), .val (.long q5), .second, .val (.int v1), .val (.int v2), .val (.int v3), .val (.long v4), .second, .val (.long v5), .second, .val (.long v6), .second, .val (.ref b7), .val (.long v15), .second, .unset, .unset, .unset, .unset, .unset, .unset, .unset, .unset, .unset, .unset, .unset, .unset, .unset, .unset, .unset] [(.long (own_at (1 : Int32) v3 v6)), (.long ((own_at (1 : Int32) v1 v4) + (own_at (1 : Int32) v2 v5)))])
  refine g_ladd X18 hx hby i0_140 ?_
  refine g_lstoreW X18 hx hby i0_141 (l' := fun v19 => #[.val (.int p0), .val (.long q1), .second, .val (.int p2), .val (.long q3), .second, .val (.int p4), .val (.long q5), .second, .val (.int v1), .val (.int v2), .val (.int v3), .val (.long v4), .second, .val (.long v5), .second, .val (.long v6), .second, .val (.ref b7), .val (.long v15), .second, .val (.long v19), .second, .unset, .unset, .unset, .unset, .unset, .unset, .unset, .unset, .unset, .unset, .unset, .unset, .unset]) (fun _ => rfl) fun v19 hv19 => ?_
  refine g_iconst X18 hx hby i0_143 (z := (2 : Int32)) (by decide) ?_
  refine g_iload X18 hx hby i0_144 rfl ?_
  refine g_lload X18 hx hby i0_146 rfl ?_
  refine g_callS0 X18 hx hby hZ (y := (⟨"com/example/value_generalizer/valuegeneralizer/ColumnLevelsAddPinLaw", "at", "(IIJ)J"⟩ : MethodName)) (argsL := [(.int (2 : Int32)), (.int v1), (.long v4)]) (rest := []) hown (hw _ (List.mem_of_getElem? (i := 21) rfl)) (hw _ (List.mem_of_getElem? (i := 22) rfl)) (hw _ (List.mem_of_getElem? (i := 23) rfl)) (hw _ (List.mem_of_getElem? (i := 24) rfl)) (by decide) (rm4 l Z a0 hw [] (2 : Int32) v1 v4 T11.heap n0 Z0) e18 (by rw [hml]; rfl) pd_4 rfl rfl i0_148 (by decide) 0 rfl (by decide) (by decide) (by decide) fun T20 v20 L20 X20 q20 => ?_
  obtain ⟨_, rfl, rfl, e20, N20⟩ := q20
  have N0 := Fr.app N0 N20
  show Gd p e below _ T20 (mkF m 151 #[.val (.int p0), .val (.long q1), .second, .val (.int p2), .val (.long q3), .second, .val (.int p4), .val (.long q5), .second, .val (.int v1), .val (.int v2), .val (.int v3), .val (.long v4), .second, .val (.long v5), .second, .val (.long v6), .second, .val (.ref b7), .val (.long v15), .second, .val (.long v19), .second, .unset, .unset, .unset, .unset, .unset, .unset, .unset, .unset, .unset, .unset, .unset, .unset, .unset] [(.long (own_at (2 : Int32) v1 v4))])
  refine g_iconst X20 hx hby i0_151 (z := (2 : Int32)) (by decide) ?_
  refine g_iload X20 hx hby i0_152 rfl ?_
  refine g_lload X20 hx hby i0_154 rfl ?_
  refine g_callS0 X20 hx hby hZ (y := (⟨"com/example/value_generalizer/valuegeneralizer/ColumnLevelsAddPinLaw", "at", "(IIJ)J"⟩ : MethodName)) (argsL := [(.int (2 : Int32)), (.int v2), (.long v5)]) (rest := [(.long (own_at (2 : Int32) v1 v4))]) hown (hw _ (List.mem_of_getElem? (i := 21) rfl)) (hw _ (List.mem_of_getElem? (i := 22) rfl)) (hw _ (List.mem_of_getElem? (i := 23) rfl)) (hw _ (List.mem_of_getElem? (i := 24) rfl)) (by decide) (rm4 l Z a0 hw [] (2 : Int32) v2 v5 T11.heap n0 Z0) e20 (by rw [hml]; rfl) pd_4 rfl rfl i0_156 (by decide) 2 rfl (by decide) (by decide) (by decide) fun T21 v21 L21 X21 q21 => ?_
  obtain ⟨_, rfl, rfl, e21, N21⟩ := q21
  have N0 := Fr.app N0 N21
  show Gd p e below _ T21 (mkF m 159 #[.val (.int p0), .val (.long q1), .second, .val (.int p2), .val (.long q3), .second, .val (.int p4), .val (.long q5), .second, .val (.int v1), .val (.int v2), .val (.int v3), .val (.long v4), .second, .val (.long v5), .second, .val (.long v6), .second, .val (.ref b7), .val (.long v15), .second, .val (.long v19), .second, .unset, .unset, .unset, .unset, .unset, .unset, .unset, .unset, .unset, .unset, .unset, .unset, .unset] [(.long (own_at (2 : Int32) v2 v5)), (.long (own_at (2 : Int32) v1 v4))])
  refine g_ladd X21 hx hby i0_159 ?_
  refine g_iconst X21 hx hby i0_160 (z := (2 : Int32)) (by decide) ?_
  refine g_iload X21 hx hby i0_161 rfl ?_
  refine g_lload X21 hx hby i0_163 rfl ?_
  refine g_callS0 X21 hx hby hZ (y := (⟨"com/example/value_generalizer/valuegeneralizer/ColumnLevelsAddPinLaw", "at", "(IIJ)J"⟩ : MethodName)) (argsL := [(.int (2 : Int32)), (.int v3), (.long v6)]) (rest := [(.long ((own_at (2 : Int32) v1 v4) + (own_at (2 : Int32) v2 v5)))]) hown (hw _ (List.mem_of_getElem? (i := 21) rfl)) (hw _ (List.mem_of_getElem? (i := 22) rfl)) (hw _ (List.mem_of_getElem? (i := 23) rfl)) (hw _ (List.mem_of_getElem? (i := 24) rfl)) (by decide) (rm4 l Z a0 hw [] (2 : Int32) v3 v6 T11.heap n0 Z0) e21 (by rw [hml]; rfl) pd_4 rfl rfl i0_165 (by decide) 2 rfl (by decide) (by decide) (by decide) fun T22 v22 L22 X22 q22 => ?_
  obtain ⟨_, rfl, rfl, e22, N22⟩ := q22
  have N0 := Fr.app N0 N22
  show Gd p e below _ T22 (mkF m 168 #[.val (.int p0), .val (.long q1), .second, .val (.int p2), .val (.long q3), .second, .val (.int p4), .val (.long q5), .second, .val (.int v1), .val (.int v2), .val (.int v3), .val (.long v4), .second, .val (.long v5), .second, .val (.long v6), .second, .val (.ref b7), .val (.long v15), .second, .val (.long v19), .second, .unset, .unset, .unset, .unset, .unset, .unset, .unset, .unset, .unset, .unset, .unset, .unset, .unset] [(.long (own_at (2 : Int32) v3 v6)), (.long ((own_at (2 : Int32) v1 v4) + (own_at (2 : Int32) v2 v5)))])
  refine g_ladd X22 hx hby i0_168 ?_
  refine g_lstoreW X22 hx hby i0_169 (l' := fun v23 => #[.val (.int p0), .val (.long q1), .second, .val (.int p2), .val (.long q3), .second, .val (.int p4), .val (.long q5), .second, .val (.int v1), .val (.int v2), .val (.int v3), .val (.long v4), .second, .val (.long v5), .second, .val (.long v6), .second, .val (.ref b7), .val (.long v15), .second, .val (.long v19), .second, .val (.long v23), .second, .unset, .unset, .unset, .unset, .unset, .unset, .unset, .unset, .unset, .unset, .unset]) (fun _ => rfl) fun v23 hv23 => ?_
  refine g_lload X22 hx hby i0_171 rfl ?_
  refine g_lload X22 hx hby i0_173 rfl ?_
  refine g_ladd X22 hx hby i0_175 ?_
  refine g_lload X22 hx hby i0_176 rfl ?_
  refine g_ladd X22 hx hby i0_178 ?_
  refine g_lstoreW X22 hx hby i0_179 (l' := fun v24 => #[.val (.int p0), .val (.long q1), .second, .val (.int p2), .val (.long q3), .second, .val (.int p4), .val (.long q5), .second, .val (.int v1), .val (.int v2), .val (.int v3), .val (.long v4), .second, .val (.long v5), .second, .val (.long v6), .second, .val (.ref b7), .val (.long v15), .second, .val (.long v19), .second, .val (.long v23), .second, .val (.long v24), .second, .unset, .unset, .unset, .unset, .unset, .unset, .unset, .unset, .unset]) (fun _ => rfl) fun v24 hv24 => ?_
  have er0 : (own_up v3 v6 0 (own_up v2 v5 0 (own_up v1 v4 0 (0 : Int64)))) = v15 := by rw [hv15]; exact own_sum _ _ _ _ _ _ _
  have er1 : (own_up v3 v6 1 (own_up v2 v5 1 (own_up v1 v4 1 (0 : Int64)))) = v19 := by rw [hv19]; exact own_sum _ _ _ _ _ _ _
  have er2 : (own_up v3 v6 2 (own_up v2 v5 2 (own_up v1 v4 2 (0 : Int64)))) = v23 := by rw [hv23]; exact own_sum _ _ _ _ _ _ _
  have et : ((((0 : Int64) + v4) + v5) + v6) = v24 := by rw [hv24, own_z0]
  rw [er0, er1, er2] at V
  rw [et] at F_t
  obtain ⟨hnz, ht, hr0, hr1, hr2⟩ := own_facts (own_mod3 hv1) hv4 hv5 hv6 hv15 hv19 hv23 hv24
  refine g_lload X22 hx hby i0_181 rfl ?_
  refine g_lconst X22 hx hby i0_183 (z := (0 : Int64)) (by decide) ?_
  refine g_lcmp_eq X22 hx hby i0_184 i0_185 (fun c184_25 => ?_) (fun c184_25 => ?_)
  · refine g_lload X22 hx hby i0_192 rfl ?_
    refine g_lconst X22 hx hby i0_194 (z := (0 : Int64)) (by decide) ?_
    refine g_lcmp_eq X22 hx hby i0_195 i0_196 (fun c195_26 => ?_) (fun c195_26 => ?_)
    · refine g_iconst X22 hx hby i0_203 (z := (2 : Int32)) (by decide) ?_
      refine g_istore X22 hx hby i0_204 (l' := #[.val (.int p0), .val (.long q1), .second, .val (.int p2), .val (.long q3), .second, .val (.int p4), .val (.long q5), .second, .val (.int v1), .val (.int v2), .val (.int v3), .val (.long v4), .second, .val (.long v5), .second, .val (.long v6), .second, .val (.ref b7), .val (.long v15), .second, .val (.long v19), .second, .val (.long v23), .second, .val (.long v24), .second, .val (.int (2 : Int32)), .unset, .unset, .unset, .unset, .unset, .unset, .unset, .unset]) rfl ?_
      refine g_iload X22 hx hby i0_206 rfl ?_
      refine g_if_ne X22 hx hby i0_208 (fun c208_27 => ?_) (fun c208_27 => False.elim (absurd c208_27 (by decide)))
      refine g_iload X22 hx hby i0_216 rfl ?_
      refine g_iconst X22 hx hby i0_218 (z := (1 : Int32)) (by decide) ?_
      refine g_icmp_ne X22 hx hby i0_219 (fun c219_28 => ?_) (fun c219_28 => False.elim (absurd c219_28 (by decide)))
      refine g_lload X22 hx hby i0_227 rfl ?_
      refine g_lstore X22 hx hby i0_229 (l' := #[.val (.int p0), .val (.long q1), .second, .val (.int p2), .val (.long q3), .second, .val (.int p4), .val (.long q5), .second, .val (.int v1), .val (.int v2), .val (.int v3), .val (.long v4), .second, .val (.long v5), .second, .val (.long v6), .second, .val (.ref b7), .val (.long v15), .second, .val (.long v19), .second, .val (.long v23), .second, .val (.long v24), .second, .val (.int (2 : Int32)), .val (.long v23), .second, .unset, .unset, .unset, .unset, .unset, .unset]) rfl ?_
      refine g_lload X22 hx hby i0_231 rfl ?_
      refine g_lload X22 hx hby i0_233 rfl ?_
      refine g_lload X22 hx hby i0_235 rfl ?_
      refine g_callS0 X22 hx hby hZ (y := (⟨"java/lang/Math", "max", "(JJ)J"⟩ : MethodName)) (argsL := [(.long v19), (.long v23)]) (rest := [(.long v15)]) hown (hw _ (List.mem_of_getElem? (i := 25) rfl)) (hw _ (List.mem_of_getElem? (i := 26) rfl)) (hw _ (List.mem_of_getElem? (i := 27) rfl)) (hw _ (List.mem_of_getElem? (i := 28) rfl)) (by decide) (rm5 l Z a0 hw [] v19 v23 T11.heap n0 Z0) e22 (by rw [hml]; rfl) pd_0 rfl rfl i0_237 (by decide) 2 rfl (by decide) (by decide) (by decide) fun T29 v29 L29 X29 q29 => ?_
      obtain ⟨_, rfl, rfl, e29, N29⟩ := q29
      have N0 := Fr.app N0 N29
      show Gd p e below _ T29 (mkF m 240 #[.val (.int p0), .val (.long q1), .second, .val (.int p2), .val (.long q3), .second, .val (.int p4), .val (.long q5), .second, .val (.int v1), .val (.int v2), .val (.int v3), .val (.long v4), .second, .val (.long v5), .second, .val (.long v6), .second, .val (.ref b7), .val (.long v15), .second, .val (.long v19), .second, .val (.long v23), .second, .val (.long v24), .second, .val (.int (2 : Int32)), .val (.long v23), .second, .unset, .unset, .unset, .unset, .unset, .unset] [(.long (own_max v19 v23)), (.long v15)])
      refine g_callS0 X29 hx hby hZ (y := (⟨"java/lang/Math", "max", "(JJ)J"⟩ : MethodName)) (argsL := [(.long v15), (.long (own_max v19 v23))]) (rest := []) hown (hw _ (List.mem_of_getElem? (i := 25) rfl)) (hw _ (List.mem_of_getElem? (i := 26) rfl)) (hw _ (List.mem_of_getElem? (i := 27) rfl)) (hw _ (List.mem_of_getElem? (i := 28) rfl)) (by decide) (rm5 l Z a0 hw [] v15 (own_max v19 v23) T11.heap n0 Z0) e29 (by rw [hml]; rfl) pd_0 rfl rfl i0_240 (by decide) 0 rfl (by decide) (by decide) (by decide) fun T30 v30 L30 X30 q30 => ?_
      obtain ⟨_, rfl, rfl, e30, N30⟩ := q30
      have N0 := Fr.app N0 N30
      show Gd p e below _ T30 (mkF m 243 #[.val (.int p0), .val (.long q1), .second, .val (.int p2), .val (.long q3), .second, .val (.int p4), .val (.long q5), .second, .val (.int v1), .val (.int v2), .val (.int v3), .val (.long v4), .second, .val (.long v5), .second, .val (.long v6), .second, .val (.ref b7), .val (.long v15), .second, .val (.long v19), .second, .val (.long v23), .second, .val (.long v24), .second, .val (.int (2 : Int32)), .val (.long v23), .second, .unset, .unset, .unset, .unset, .unset, .unset] [(.long (own_max v15 (own_max v19 v23)))])
      refine g_lstoreW X30 hx hby i0_243 (l' := fun v31 => #[.val (.int p0), .val (.long q1), .second, .val (.int p2), .val (.long q3), .second, .val (.int p4), .val (.long q5), .second, .val (.int v1), .val (.int v2), .val (.int v3), .val (.long v4), .second, .val (.long v5), .second, .val (.long v6), .second, .val (.ref b7), .val (.long v15), .second, .val (.long v19), .second, .val (.long v23), .second, .val (.long v24), .second, .val (.int (2 : Int32)), .val (.long v23), .second, .val (.long v31), .second, .unset, .unset, .unset, .unset]) (fun _ => rfl) fun v31 hv31 => ?_
      refine g_lload X30 hx hby i0_245 rfl ?_
      refine g_lload X30 hx hby i0_247 rfl ?_
      refine g_lsub X30 hx hby i0_249 ?_
      refine g_l2d X30 hx hby i0_250 ?_
      refine g_lload X30 hx hby i0_251 rfl ?_
      refine g_l2d X30 hx hby i0_253 ?_
      refine g_ddiv X30 hx hby i0_254 (own_nnL _ _ ht) ?_
      refine g_dstore X30 hx hby i0_255 (l' := #[.val (.int p0), .val (.long q1), .second, .val (.int p2), .val (.long q3), .second, .val (.int p4), .val (.long q5), .second, .val (.int v1), .val (.int v2), .val (.int v3), .val (.long v4), .second, .val (.long v5), .second, .val (.long v6), .second, .val (.ref b7), .val (.long v15), .second, .val (.long v19), .second, .val (.long v23), .second, .val (.long v24), .second, .val (.int (2 : Int32)), .val (.long v23), .second, .val (.long v31), .second, .val (.double (FP.ddiv (FP.l2d (v24 - v31)) (FP.l2d v24))), .second, .unset, .unset]) rfl ?_
      refine g_lload X30 hx hby i0_257 rfl ?_
      refine g_lload X30 hx hby i0_259 rfl ?_
      refine g_lsub X30 hx hby i0_261 ?_
      refine g_l2d X30 hx hby i0_262 ?_
      refine g_lload X30 hx hby i0_263 rfl ?_
      refine g_l2d X30 hx hby i0_265 ?_
      refine g_ddiv X30 hx hby i0_266 (own_nnL _ _ ht) ?_
      refine g_dstore X30 hx hby i0_267 (l' := #[.val (.int p0), .val (.long q1), .second, .val (.int p2), .val (.long q3), .second, .val (.int p4), .val (.long q5), .second, .val (.int v1), .val (.int v2), .val (.int v3), .val (.long v4), .second, .val (.long v5), .second, .val (.long v6), .second, .val (.ref b7), .val (.long v15), .second, .val (.long v19), .second, .val (.long v23), .second, .val (.long v24), .second, .val (.int (2 : Int32)), .val (.long v23), .second, .val (.long v31), .second, .val (.double (FP.ddiv (FP.l2d (v24 - v31)) (FP.l2d v24))), .second, .val (.double (FP.ddiv (FP.l2d (v24 - v23)) (FP.l2d v24))), .second]) rfl ?_
      refine g_aload X30 hx hby i0_269 rfl rfl ?_
      refine g_callV0 X30 hx hby hZ (y0 := (⟨"com/example/value_generalizer/valuegeneralizer/ColumnLevels", "lowest", "()I"⟩ : MethodName)) (y := (⟨"com/example/value_generalizer/valuegeneralizer/ColumnLevels", "lowest", "()I"⟩ : MethodName)) (argsL := []) (rest := []) hown (hw _ (List.mem_of_getElem? (i := 29) rfl)) (hw _ (List.mem_of_getElem? (i := 30) rfl)) (notFace_of_selects (args := #[]) (mvT hZ (hw _ (List.mem_of_getElem? (i := 32) rfl)))) (hw _ (List.mem_of_getElem? (i := 32) rfl)) (hw _ (List.mem_of_getElem? (i := 31) rfl)) (hw _ (List.mem_of_getElem? (i := 4) rfl)) (hw _ (List.mem_of_getElem? (i := 33) rfl)) (by decide) (a := b7) A7 (rm6 l Z a0 hw [] b7 b8 k8 v15 v19 v23 T11.heap n0 Z0 F_r V hnz) e30 (by rw [hml]; rfl) pd_1 rfl rfl i0_271 (by decide) 0 rfl (by decide) (by decide) (by decide) fun T32 v32 L32 X32 q32 => ?_
      obtain ⟨_, rfl, rfl, e32, N32⟩ := q32
      have N0 := Fr.app N0 N32
      show Gd p e below _ T32 (mkF m 274 #[.val (.int p0), .val (.long q1), .second, .val (.int p2), .val (.long q3), .second, .val (.int p4), .val (.long q5), .second, .val (.int v1), .val (.int v2), .val (.int v3), .val (.long v4), .second, .val (.long v5), .second, .val (.long v6), .second, .val (.ref b7), .val (.long v15), .second, .val (.long v19), .second, .val (.long v23), .second, .val (.long v24), .second, .val (.int (2 : Int32)), .val (.long v23), .second, .val (.long v31), .second, .val (.double (FP.ddiv (FP.l2d (v24 - v31)) (FP.l2d v24))), .second, .val (.double (FP.ddiv (FP.l2d (v24 - v23)) (FP.l2d v24))), .second] [(.int (own_low v15 v19 v23))])
      refine g_iload X32 hx hby i0_274 rfl ?_
      refine g_icmp_ne X32 hx hby i0_276 (fun c276_33 => False.elim (c276_33 (by simp [own_low, c184_25, c195_26]))) fun c276_33 => ?_
      refine g_aload X32 hx hby i0_279 rfl rfl ?_
      refine g_callV0 X32 hx hby hZ (y0 := (⟨"com/example/value_generalizer/valuegeneralizer/ColumnLevels", "inconsistency", "()D"⟩ : MethodName)) (y := (⟨"com/example/value_generalizer/valuegeneralizer/ColumnLevels", "inconsistency", "()D"⟩ : MethodName)) (argsL := []) (rest := []) hown (hw _ (List.mem_of_getElem? (i := 34) rfl)) (hw _ (List.mem_of_getElem? (i := 35) rfl)) (notFace_of_selects (args := #[]) (mvT hZ (hw _ (List.mem_of_getElem? (i := 37) rfl)))) (hw _ (List.mem_of_getElem? (i := 37) rfl)) (hw _ (List.mem_of_getElem? (i := 36) rfl)) (hw _ (List.mem_of_getElem? (i := 4) rfl)) (hw _ (List.mem_of_getElem? (i := 38) rfl)) (by decide) (a := b7) A7 (rm7 l Z a0 hw [] b7 b8 k8 v15 v19 v23 v24 T11.heap n0 Z0 F_r V F_t ht) e32 (by rw [hml]; rfl) pd_5 rfl rfl i0_281 (by decide) 0 rfl (by decide) (by decide) (by decide) fun T34 v34 L34 X34 q34 => ?_
      obtain ⟨_, rfl, rfl, e34, N34⟩ := q34
      have N0 := Fr.app N0 N34
      show Gd p e below _ T34 (mkF m 284 #[.val (.int p0), .val (.long q1), .second, .val (.int p2), .val (.long q3), .second, .val (.int p4), .val (.long q5), .second, .val (.int v1), .val (.int v2), .val (.int v3), .val (.long v4), .second, .val (.long v5), .second, .val (.long v6), .second, .val (.ref b7), .val (.long v15), .second, .val (.long v19), .second, .val (.long v23), .second, .val (.long v24), .second, .val (.int (2 : Int32)), .val (.long v23), .second, .val (.long v31), .second, .val (.double (FP.ddiv (FP.l2d (v24 - v31)) (FP.l2d v24))), .second, .val (.double (FP.ddiv (FP.l2d (v24 - v23)) (FP.l2d v24))), .second] [(.double (FP.ddiv (FP.l2d (v24 - own_max (own_max (own_max 0 v15) v19) v23)) (FP.l2d v24)))])
      refine g_dload X34 hx hby i0_284 rfl ?_
      refine g_dcmp X34 hx hby i0_286 ?_
      refine g_if_ne X34 hx hby i0_287 (fun c287_35 => False.elim (c287_35 (dcmpV_eq (by rw [hv31, own_mx hr0 hr1 hr2]) (own_nnL _ _ ht) .l))) fun c287_35 => ?_
      refine g_aload X34 hx hby i0_290 rfl rfl ?_
      refine g_callV0 X34 hx hby hZ (y0 := (⟨"com/example/value_generalizer/valuegeneralizer/ColumnLevels", "generalisationPortion", "()D"⟩ : MethodName)) (y := (⟨"com/example/value_generalizer/valuegeneralizer/ColumnLevels", "generalisationPortion", "()D"⟩ : MethodName)) (argsL := []) (rest := []) hown (hw _ (List.mem_of_getElem? (i := 40) rfl)) (hw _ (List.mem_of_getElem? (i := 41) rfl)) (notFace_of_selects (args := #[]) (mvT hZ (hw _ (List.mem_of_getElem? (i := 43) rfl)))) (hw _ (List.mem_of_getElem? (i := 43) rfl)) (hw _ (List.mem_of_getElem? (i := 42) rfl)) (hw _ (List.mem_of_getElem? (i := 4) rfl)) (hw _ (List.mem_of_getElem? (i := 44) rfl)) (by decide) (a := b7) A7 (rm8 l Z a0 hw [] b7 b8 k8 v15 v19 v23 v24 T11.heap n0 Z0 F_r V F_t ht A7 hnz) e34 (by rw [hml]; rfl) pd_5 rfl rfl i0_292 (by decide) 0 rfl (by decide) (by decide) (by decide) fun T36 v36 L36 X36 q36 => ?_
      obtain ⟨_, rfl, rfl, e36, N36⟩ := q36
      have N0 := Fr.app N0 N36
      show Gd p e below _ T36 (mkF m 295 #[.val (.int p0), .val (.long q1), .second, .val (.int p2), .val (.long q3), .second, .val (.int p4), .val (.long q5), .second, .val (.int v1), .val (.int v2), .val (.int v3), .val (.long v4), .second, .val (.long v5), .second, .val (.long v6), .second, .val (.ref b7), .val (.long v15), .second, .val (.long v19), .second, .val (.long v23), .second, .val (.long v24), .second, .val (.int (2 : Int32)), .val (.long v23), .second, .val (.long v31), .second, .val (.double (FP.ddiv (FP.l2d (v24 - v31)) (FP.l2d v24))), .second, .val (.double (FP.ddiv (FP.l2d (v24 - v23)) (FP.l2d v24))), .second] [(.double (FP.ddiv (FP.l2d (v24 - own_sel (own_low v15 v19 v23) v15 v19 v23)) (FP.l2d v24)))])
      refine g_dload X36 hx hby i0_295 rfl ?_
      refine g_dcmp X36 hx hby i0_297 ?_
      refine g_if_ne X36 hx hby i0_298 (fun c298_37 => False.elim (c298_37 (dcmpV_eq (by simp [own_low, own_sel, c184_25, c195_26]) (own_nnL _ _ ht) .l))) fun c298_37 => ?_
      refine g_iconst X36 hx hby i0_301 (z := (1 : Int32)) (by decide) ?_
      refine g_goto X36 hx hby i0_302 ?_
      refine g_ireturnN X36 hx hby (ty := .boolean) hret (by simp) hlk i0_306 (by decide) (by decide) ?_
      exact ⟨_, rfl, rfl, N0⟩
    · refine g_iconst X22 hx hby i0_199 (z := (1 : Int32)) (by decide) ?_
      refine g_goto X22 hx hby i0_200 ?_
      refine g_istore X22 hx hby i0_204 (l' := #[.val (.int p0), .val (.long q1), .second, .val (.int p2), .val (.long q3), .second, .val (.int p4), .val (.long q5), .second, .val (.int v1), .val (.int v2), .val (.int v3), .val (.long v4), .second, .val (.long v5), .second, .val (.long v6), .second, .val (.ref b7), .val (.long v15), .second, .val (.long v19), .second, .val (.long v23), .second, .val (.long v24), .second, .val (.int (1 : Int32)), .unset, .unset, .unset, .unset, .unset, .unset, .unset, .unset]) rfl ?_
      refine g_iload X22 hx hby i0_206 rfl ?_
      refine g_if_ne X22 hx hby i0_208 (fun c208_38 => ?_) (fun c208_38 => False.elim (absurd c208_38 (by decide)))
      refine g_iload X22 hx hby i0_216 rfl ?_
      refine g_iconst X22 hx hby i0_218 (z := (1 : Int32)) (by decide) ?_
      refine g_icmp_ne X22 hx hby i0_219 (fun c219_39 => False.elim (absurd c219_39 (by decide))) fun c219_39 => ?_
      refine g_lload X22 hx hby i0_222 rfl ?_
      refine g_goto X22 hx hby i0_224 ?_
      refine g_lstore X22 hx hby i0_229 (l' := #[.val (.int p0), .val (.long q1), .second, .val (.int p2), .val (.long q3), .second, .val (.int p4), .val (.long q5), .second, .val (.int v1), .val (.int v2), .val (.int v3), .val (.long v4), .second, .val (.long v5), .second, .val (.long v6), .second, .val (.ref b7), .val (.long v15), .second, .val (.long v19), .second, .val (.long v23), .second, .val (.long v24), .second, .val (.int (1 : Int32)), .val (.long v19), .second, .unset, .unset, .unset, .unset, .unset, .unset]) rfl ?_
      refine g_lload X22 hx hby i0_231 rfl ?_
      refine g_lload X22 hx hby i0_233 rfl ?_
      refine g_lload X22 hx hby i0_235 rfl ?_
      refine g_callS0 X22 hx hby hZ (y := (⟨"java/lang/Math", "max", "(JJ)J"⟩ : MethodName)) (argsL := [(.long v19), (.long v23)]) (rest := [(.long v15)]) hown (hw _ (List.mem_of_getElem? (i := 25) rfl)) (hw _ (List.mem_of_getElem? (i := 26) rfl)) (hw _ (List.mem_of_getElem? (i := 27) rfl)) (hw _ (List.mem_of_getElem? (i := 28) rfl)) (by decide) (rm5 l Z a0 hw [] v19 v23 T11.heap n0 Z0) e22 (by rw [hml]; rfl) pd_0 rfl rfl i0_237 (by decide) 2 rfl (by decide) (by decide) (by decide) fun T40 v40 L40 X40 q40 => ?_
      obtain ⟨_, rfl, rfl, e40, N40⟩ := q40
      have N0 := Fr.app N0 N40
      show Gd p e below _ T40 (mkF m 240 #[.val (.int p0), .val (.long q1), .second, .val (.int p2), .val (.long q3), .second, .val (.int p4), .val (.long q5), .second, .val (.int v1), .val (.int v2), .val (.int v3), .val (.long v4), .second, .val (.long v5), .second, .val (.long v6), .second, .val (.ref b7), .val (.long v15), .second, .val (.long v19), .second, .val (.long v23), .second, .val (.long v24), .second, .val (.int (1 : Int32)), .val (.long v19), .second, .unset, .unset, .unset, .unset, .unset, .unset] [(.long (own_max v19 v23)), (.long v15)])
      refine g_callS0 X40 hx hby hZ (y := (⟨"java/lang/Math", "max", "(JJ)J"⟩ : MethodName)) (argsL := [(.long v15), (.long (own_max v19 v23))]) (rest := []) hown (hw _ (List.mem_of_getElem? (i := 25) rfl)) (hw _ (List.mem_of_getElem? (i := 26) rfl)) (hw _ (List.mem_of_getElem? (i := 27) rfl)) (hw _ (List.mem_of_getElem? (i := 28) rfl)) (by decide) (rm5 l Z a0 hw [] v15 (own_max v19 v23) T11.heap n0 Z0) e40 (by rw [hml]; rfl) pd_0 rfl rfl i0_240 (by decide) 0 rfl (by decide) (by decide) (by decide) fun T41 v41 L41 X41 q41 => ?_
      obtain ⟨_, rfl, rfl, e41, N41⟩ := q41
      have N0 := Fr.app N0 N41
      show Gd p e below _ T41 (mkF m 243 #[.val (.int p0), .val (.long q1), .second, .val (.int p2), .val (.long q3), .second, .val (.int p4), .val (.long q5), .second, .val (.int v1), .val (.int v2), .val (.int v3), .val (.long v4), .second, .val (.long v5), .second, .val (.long v6), .second, .val (.ref b7), .val (.long v15), .second, .val (.long v19), .second, .val (.long v23), .second, .val (.long v24), .second, .val (.int (1 : Int32)), .val (.long v19), .second, .unset, .unset, .unset, .unset, .unset, .unset] [(.long (own_max v15 (own_max v19 v23)))])
      refine g_lstoreW X41 hx hby i0_243 (l' := fun v42 => #[.val (.int p0), .val (.long q1), .second, .val (.int p2), .val (.long q3), .second, .val (.int p4), .val (.long q5), .second, .val (.int v1), .val (.int v2), .val (.int v3), .val (.long v4), .second, .val (.long v5), .second, .val (.long v6), .second, .val (.ref b7), .val (.long v15), .second, .val (.long v19), .second, .val (.long v23), .second, .val (.long v24), .second, .val (.int (1 : Int32)), .val (.long v19), .second, .val (.long v42), .second, .unset, .unset, .unset, .unset]) (fun _ => rfl) fun v42 hv42 => ?_
      refine g_lload X41 hx hby i0_245 rfl ?_
      refine g_lload X41 hx hby i0_247 rfl ?_
      refine g_lsub X41 hx hby i0_249 ?_
      refine g_l2d X41 hx hby i0_250 ?_
      refine g_lload X41 hx hby i0_251 rfl ?_
      refine g_l2d X41 hx hby i0_253 ?_
      refine g_ddiv X41 hx hby i0_254 (own_nnL _ _ ht) ?_
      refine g_dstore X41 hx hby i0_255 (l' := #[.val (.int p0), .val (.long q1), .second, .val (.int p2), .val (.long q3), .second, .val (.int p4), .val (.long q5), .second, .val (.int v1), .val (.int v2), .val (.int v3), .val (.long v4), .second, .val (.long v5), .second, .val (.long v6), .second, .val (.ref b7), .val (.long v15), .second, .val (.long v19), .second, .val (.long v23), .second, .val (.long v24), .second, .val (.int (1 : Int32)), .val (.long v19), .second, .val (.long v42), .second, .val (.double (FP.ddiv (FP.l2d (v24 - v42)) (FP.l2d v24))), .second, .unset, .unset]) rfl ?_
      refine g_lload X41 hx hby i0_257 rfl ?_
      refine g_lload X41 hx hby i0_259 rfl ?_
      refine g_lsub X41 hx hby i0_261 ?_
      refine g_l2d X41 hx hby i0_262 ?_
      refine g_lload X41 hx hby i0_263 rfl ?_
      refine g_l2d X41 hx hby i0_265 ?_
      refine g_ddiv X41 hx hby i0_266 (own_nnL _ _ ht) ?_
      refine g_dstore X41 hx hby i0_267 (l' := #[.val (.int p0), .val (.long q1), .second, .val (.int p2), .val (.long q3), .second, .val (.int p4), .val (.long q5), .second, .val (.int v1), .val (.int v2), .val (.int v3), .val (.long v4), .second, .val (.long v5), .second, .val (.long v6), .second, .val (.ref b7), .val (.long v15), .second, .val (.long v19), .second, .val (.long v23), .second, .val (.long v24), .second, .val (.int (1 : Int32)), .val (.long v19), .second, .val (.long v42), .second, .val (.double (FP.ddiv (FP.l2d (v24 - v42)) (FP.l2d v24))), .second, .val (.double (FP.ddiv (FP.l2d (v24 - v19)) (FP.l2d v24))), .second]) rfl ?_
      refine g_aload X41 hx hby i0_269 rfl rfl ?_
      refine g_callV0 X41 hx hby hZ (y0 := (⟨"com/example/value_generalizer/valuegeneralizer/ColumnLevels", "lowest", "()I"⟩ : MethodName)) (y := (⟨"com/example/value_generalizer/valuegeneralizer/ColumnLevels", "lowest", "()I"⟩ : MethodName)) (argsL := []) (rest := []) hown (hw _ (List.mem_of_getElem? (i := 29) rfl)) (hw _ (List.mem_of_getElem? (i := 30) rfl)) (notFace_of_selects (args := #[]) (mvT hZ (hw _ (List.mem_of_getElem? (i := 32) rfl)))) (hw _ (List.mem_of_getElem? (i := 32) rfl)) (hw _ (List.mem_of_getElem? (i := 31) rfl)) (hw _ (List.mem_of_getElem? (i := 4) rfl)) (hw _ (List.mem_of_getElem? (i := 33) rfl)) (by decide) (a := b7) A7 (rm6 l Z a0 hw [] b7 b8 k8 v15 v19 v23 T11.heap n0 Z0 F_r V hnz) e41 (by rw [hml]; rfl) pd_1 rfl rfl i0_271 (by decide) 0 rfl (by decide) (by decide) (by decide) fun T43 v43 L43 X43 q43 => ?_
      obtain ⟨_, rfl, rfl, e43, N43⟩ := q43
      have N0 := Fr.app N0 N43
      show Gd p e below _ T43 (mkF m 274 #[.val (.int p0), .val (.long q1), .second, .val (.int p2), .val (.long q3), .second, .val (.int p4), .val (.long q5), .second, .val (.int v1), .val (.int v2), .val (.int v3), .val (.long v4), .second, .val (.long v5), .second, .val (.long v6), .second, .val (.ref b7), .val (.long v15), .second, .val (.long v19), .second, .val (.long v23), .second, .val (.long v24), .second, .val (.int (1 : Int32)), .val (.long v19), .second, .val (.long v42), .second, .val (.double (FP.ddiv (FP.l2d (v24 - v42)) (FP.l2d v24))), .second, .val (.double (FP.ddiv (FP.l2d (v24 - v19)) (FP.l2d v24))), .second] [(.int (own_low v15 v19 v23))])
      refine g_iload X43 hx hby i0_274 rfl ?_
      refine g_icmp_ne X43 hx hby i0_276 (fun c276_44 => False.elim (c276_44 (by simp [own_low, c184_25, c195_26]))) fun c276_44 => ?_
      refine g_aload X43 hx hby i0_279 rfl rfl ?_
      refine g_callV0 X43 hx hby hZ (y0 := (⟨"com/example/value_generalizer/valuegeneralizer/ColumnLevels", "inconsistency", "()D"⟩ : MethodName)) (y := (⟨"com/example/value_generalizer/valuegeneralizer/ColumnLevels", "inconsistency", "()D"⟩ : MethodName)) (argsL := []) (rest := []) hown (hw _ (List.mem_of_getElem? (i := 34) rfl)) (hw _ (List.mem_of_getElem? (i := 35) rfl)) (notFace_of_selects (args := #[]) (mvT hZ (hw _ (List.mem_of_getElem? (i := 37) rfl)))) (hw _ (List.mem_of_getElem? (i := 37) rfl)) (hw _ (List.mem_of_getElem? (i := 36) rfl)) (hw _ (List.mem_of_getElem? (i := 4) rfl)) (hw _ (List.mem_of_getElem? (i := 38) rfl)) (by decide) (a := b7) A7 (rm7 l Z a0 hw [] b7 b8 k8 v15 v19 v23 v24 T11.heap n0 Z0 F_r V F_t ht) e43 (by rw [hml]; rfl) pd_5 rfl rfl i0_281 (by decide) 0 rfl (by decide) (by decide) (by decide) fun T45 v45 L45 X45 q45 => ?_
      obtain ⟨_, rfl, rfl, e45, N45⟩ := q45
      have N0 := Fr.app N0 N45
      show Gd p e below _ T45 (mkF m 284 #[.val (.int p0), .val (.long q1), .second, .val (.int p2), .val (.long q3), .second, .val (.int p4), .val (.long q5), .second, .val (.int v1), .val (.int v2), .val (.int v3), .val (.long v4), .second, .val (.long v5), .second, .val (.long v6), .second, .val (.ref b7), .val (.long v15), .second, .val (.long v19), .second, .val (.long v23), .second, .val (.long v24), .second, .val (.int (1 : Int32)), .val (.long v19), .second, .val (.long v42), .second, .val (.double (FP.ddiv (FP.l2d (v24 - v42)) (FP.l2d v24))), .second, .val (.double (FP.ddiv (FP.l2d (v24 - v19)) (FP.l2d v24))), .second] [(.double (FP.ddiv (FP.l2d (v24 - own_max (own_max (own_max 0 v15) v19) v23)) (FP.l2d v24)))])
      refine g_dload X45 hx hby i0_284 rfl ?_
      refine g_dcmp X45 hx hby i0_286 ?_
      refine g_if_ne X45 hx hby i0_287 (fun c287_46 => False.elim (c287_46 (dcmpV_eq (by rw [hv42, own_mx hr0 hr1 hr2]) (own_nnL _ _ ht) .l))) fun c287_46 => ?_
      refine g_aload X45 hx hby i0_290 rfl rfl ?_
      refine g_callV0 X45 hx hby hZ (y0 := (⟨"com/example/value_generalizer/valuegeneralizer/ColumnLevels", "generalisationPortion", "()D"⟩ : MethodName)) (y := (⟨"com/example/value_generalizer/valuegeneralizer/ColumnLevels", "generalisationPortion", "()D"⟩ : MethodName)) (argsL := []) (rest := []) hown (hw _ (List.mem_of_getElem? (i := 40) rfl)) (hw _ (List.mem_of_getElem? (i := 41) rfl)) (notFace_of_selects (args := #[]) (mvT hZ (hw _ (List.mem_of_getElem? (i := 43) rfl)))) (hw _ (List.mem_of_getElem? (i := 43) rfl)) (hw _ (List.mem_of_getElem? (i := 42) rfl)) (hw _ (List.mem_of_getElem? (i := 4) rfl)) (hw _ (List.mem_of_getElem? (i := 44) rfl)) (by decide) (a := b7) A7 (rm8 l Z a0 hw [] b7 b8 k8 v15 v19 v23 v24 T11.heap n0 Z0 F_r V F_t ht A7 hnz) e45 (by rw [hml]; rfl) pd_5 rfl rfl i0_292 (by decide) 0 rfl (by decide) (by decide) (by decide) fun T47 v47 L47 X47 q47 => ?_
      obtain ⟨_, rfl, rfl, e47, N47⟩ := q47
      have N0 := Fr.app N0 N47
      show Gd p e below _ T47 (mkF m 295 #[.val (.int p0), .val (.long q1), .second, .val (.int p2), .val (.long q3), .second, .val (.int p4), .val (.long q5), .second, .val (.int v1), .val (.int v2), .val (.int v3), .val (.long v4), .second, .val (.long v5), .second, .val (.long v6), .second, .val (.ref b7), .val (.long v15), .second, .val (.long v19), .second, .val (.long v23), .second, .val (.long v24), .second, .val (.int (1 : Int32)), .val (.long v19), .second, .val (.long v42), .second, .val (.double (FP.ddiv (FP.l2d (v24 - v42)) (FP.l2d v24))), .second, .val (.double (FP.ddiv (FP.l2d (v24 - v19)) (FP.l2d v24))), .second] [(.double (FP.ddiv (FP.l2d (v24 - own_sel (own_low v15 v19 v23) v15 v19 v23)) (FP.l2d v24)))])
      refine g_dload X47 hx hby i0_295 rfl ?_
      refine g_dcmp X47 hx hby i0_297 ?_
      refine g_if_ne X47 hx hby i0_298 (fun c298_48 => False.elim (c298_48 (dcmpV_eq (by simp [own_low, own_sel, c184_25, c195_26]) (own_nnL _ _ ht) .l))) fun c298_48 => ?_
      refine g_iconst X47 hx hby i0_301 (z := (1 : Int32)) (by decide) ?_
      refine g_goto X47 hx hby i0_302 ?_
      refine g_ireturnN X47 hx hby (ty := .boolean) hret (by simp) hlk i0_306 (by decide) (by decide) ?_
      exact ⟨_, rfl, rfl, N0⟩
  · refine g_iconst X22 hx hby i0_188 (z := (0 : Int32)) (by decide) ?_
    refine g_goto X22 hx hby i0_189 ?_
    refine g_istore X22 hx hby i0_204 (l' := #[.val (.int p0), .val (.long q1), .second, .val (.int p2), .val (.long q3), .second, .val (.int p4), .val (.long q5), .second, .val (.int v1), .val (.int v2), .val (.int v3), .val (.long v4), .second, .val (.long v5), .second, .val (.long v6), .second, .val (.ref b7), .val (.long v15), .second, .val (.long v19), .second, .val (.long v23), .second, .val (.long v24), .second, .val (.int (0 : Int32)), .unset, .unset, .unset, .unset, .unset, .unset, .unset, .unset]) rfl ?_
    refine g_iload X22 hx hby i0_206 rfl ?_
    refine g_if_ne X22 hx hby i0_208 (fun c208_49 => False.elim (absurd c208_49 (by decide))) fun c208_49 => ?_
    refine g_lload X22 hx hby i0_211 rfl ?_
    refine g_goto X22 hx hby i0_213 ?_
    refine g_lstore X22 hx hby i0_229 (l' := #[.val (.int p0), .val (.long q1), .second, .val (.int p2), .val (.long q3), .second, .val (.int p4), .val (.long q5), .second, .val (.int v1), .val (.int v2), .val (.int v3), .val (.long v4), .second, .val (.long v5), .second, .val (.long v6), .second, .val (.ref b7), .val (.long v15), .second, .val (.long v19), .second, .val (.long v23), .second, .val (.long v24), .second, .val (.int (0 : Int32)), .val (.long v15), .second, .unset, .unset, .unset, .unset, .unset, .unset]) rfl ?_
    refine g_lload X22 hx hby i0_231 rfl ?_
    refine g_lload X22 hx hby i0_233 rfl ?_
    refine g_lload X22 hx hby i0_235 rfl ?_
    refine g_callS0 X22 hx hby hZ (y := (⟨"java/lang/Math", "max", "(JJ)J"⟩ : MethodName)) (argsL := [(.long v19), (.long v23)]) (rest := [(.long v15)]) hown (hw _ (List.mem_of_getElem? (i := 25) rfl)) (hw _ (List.mem_of_getElem? (i := 26) rfl)) (hw _ (List.mem_of_getElem? (i := 27) rfl)) (hw _ (List.mem_of_getElem? (i := 28) rfl)) (by decide) (rm5 l Z a0 hw [] v19 v23 T11.heap n0 Z0) e22 (by rw [hml]; rfl) pd_0 rfl rfl i0_237 (by decide) 2 rfl (by decide) (by decide) (by decide) fun T50 v50 L50 X50 q50 => ?_
    obtain ⟨_, rfl, rfl, e50, N50⟩ := q50
    have N0 := Fr.app N0 N50
    show Gd p e below _ T50 (mkF m 240 #[.val (.int p0), .val (.long q1), .second, .val (.int p2), .val (.long q3), .second, .val (.int p4), .val (.long q5), .second, .val (.int v1), .val (.int v2), .val (.int v3), .val (.long v4), .second, .val (.long v5), .second, .val (.long v6), .second, .val (.ref b7), .val (.long v15), .second, .val (.long v19), .second, .val (.long v23), .second, .val (.long v24), .second, .val (.int (0 : Int32)), .val (.long v15), .second, .unset, .unset, .unset, .unset, .unset, .unset] [(.long (own_max v19 v23)), (.long v15)])
    refine g_callS0 X50 hx hby hZ (y := (⟨"java/lang/Math", "max", "(JJ)J"⟩ : MethodName)) (argsL := [(.long v15), (.long (own_max v19 v23))]) (rest := []) hown (hw _ (List.mem_of_getElem? (i := 25) rfl)) (hw _ (List.mem_of_getElem? (i := 26) rfl)) (hw _ (List.mem_of_getElem? (i := 27) rfl)) (hw _ (List.mem_of_getElem? (i := 28) rfl)) (by decide) (rm5 l Z a0 hw [] v15 (own_max v19 v23) T11.heap n0 Z0) e50 (by rw [hml]; rfl) pd_0 rfl rfl i0_240 (by decide) 0 rfl (by decide) (by decide) (by decide) fun T51 v51 L51 X51 q51 => ?_
    obtain ⟨_, rfl, rfl, e51, N51⟩ := q51
    have N0 := Fr.app N0 N51
    show Gd p e below _ T51 (mkF m 243 #[.val (.int p0), .val (.long q1), .second, .val (.int p2), .val (.long q3), .second, .val (.int p4), .val (.long q5), .second, .val (.int v1), .val (.int v2), .val (.int v3), .val (.long v4), .second, .val (.long v5), .second, .val (.long v6), .second, .val (.ref b7), .val (.long v15), .second, .val (.long v19), .second, .val (.long v23), .second, .val (.long v24), .second, .val (.int (0 : Int32)), .val (.long v15), .second, .unset, .unset, .unset, .unset, .unset, .unset] [(.long (own_max v15 (own_max v19 v23)))])
    refine g_lstoreW X51 hx hby i0_243 (l' := fun v52 => #[.val (.int p0), .val (.long q1), .second, .val (.int p2), .val (.long q3), .second, .val (.int p4), .val (.long q5), .second, .val (.int v1), .val (.int v2), .val (.int v3), .val (.long v4), .second, .val (.long v5), .second, .val (.long v6), .second, .val (.ref b7), .val (.long v15), .second, .val (.long v19), .second, .val (.long v23), .second, .val (.long v24), .second, .val (.int (0 : Int32)), .val (.long v15), .second, .val (.long v52), .second, .unset, .unset, .unset, .unset]) (fun _ => rfl) fun v52 hv52 => ?_
    refine g_lload X51 hx hby i0_245 rfl ?_
    refine g_lload X51 hx hby i0_247 rfl ?_
    refine g_lsub X51 hx hby i0_249 ?_
    refine g_l2d X51 hx hby i0_250 ?_
    refine g_lload X51 hx hby i0_251 rfl ?_
    refine g_l2d X51 hx hby i0_253 ?_
    refine g_ddiv X51 hx hby i0_254 (own_nnL _ _ ht) ?_
    refine g_dstore X51 hx hby i0_255 (l' := #[.val (.int p0), .val (.long q1), .second, .val (.int p2), .val (.long q3), .second, .val (.int p4), .val (.long q5), .second, .val (.int v1), .val (.int v2), .val (.int v3), .val (.long v4), .second, .val (.long v5), .second, .val (.long v6), .second, .val (.ref b7), .val (.long v15), .second, .val (.long v19), .second, .val (.long v23), .second, .val (.long v24), .second, .val (.int (0 : Int32)), .val (.long v15), .second, .val (.long v52), .second, .val (.double (FP.ddiv (FP.l2d (v24 - v52)) (FP.l2d v24))), .second, .unset, .unset]) rfl ?_
    refine g_lload X51 hx hby i0_257 rfl ?_
    refine g_lload X51 hx hby i0_259 rfl ?_
    refine g_lsub X51 hx hby i0_261 ?_
    refine g_l2d X51 hx hby i0_262 ?_
    refine g_lload X51 hx hby i0_263 rfl ?_
    refine g_l2d X51 hx hby i0_265 ?_
    refine g_ddiv X51 hx hby i0_266 (own_nnL _ _ ht) ?_
    refine g_dstore X51 hx hby i0_267 (l' := #[.val (.int p0), .val (.long q1), .second, .val (.int p2), .val (.long q3), .second, .val (.int p4), .val (.long q5), .second, .val (.int v1), .val (.int v2), .val (.int v3), .val (.long v4), .second, .val (.long v5), .second, .val (.long v6), .second, .val (.ref b7), .val (.long v15), .second, .val (.long v19), .second, .val (.long v23), .second, .val (.long v24), .second, .val (.int (0 : Int32)), .val (.long v15), .second, .val (.long v52), .second, .val (.double (FP.ddiv (FP.l2d (v24 - v52)) (FP.l2d v24))), .second, .val (.double (FP.ddiv (FP.l2d (v24 - v15)) (FP.l2d v24))), .second]) rfl ?_
    refine g_aload X51 hx hby i0_269 rfl rfl ?_
    refine g_callV0 X51 hx hby hZ (y0 := (⟨"com/example/value_generalizer/valuegeneralizer/ColumnLevels", "lowest", "()I"⟩ : MethodName)) (y := (⟨"com/example/value_generalizer/valuegeneralizer/ColumnLevels", "lowest", "()I"⟩ : MethodName)) (argsL := []) (rest := []) hown (hw _ (List.mem_of_getElem? (i := 29) rfl)) (hw _ (List.mem_of_getElem? (i := 30) rfl)) (notFace_of_selects (args := #[]) (mvT hZ (hw _ (List.mem_of_getElem? (i := 32) rfl)))) (hw _ (List.mem_of_getElem? (i := 32) rfl)) (hw _ (List.mem_of_getElem? (i := 31) rfl)) (hw _ (List.mem_of_getElem? (i := 4) rfl)) (hw _ (List.mem_of_getElem? (i := 33) rfl)) (by decide) (a := b7) A7 (rm6 l Z a0 hw [] b7 b8 k8 v15 v19 v23 T11.heap n0 Z0 F_r V hnz) e51 (by rw [hml]; rfl) pd_1 rfl rfl i0_271 (by decide) 0 rfl (by decide) (by decide) (by decide) fun T53 v53 L53 X53 q53 => ?_
    obtain ⟨_, rfl, rfl, e53, N53⟩ := q53
    have N0 := Fr.app N0 N53
    show Gd p e below _ T53 (mkF m 274 #[.val (.int p0), .val (.long q1), .second, .val (.int p2), .val (.long q3), .second, .val (.int p4), .val (.long q5), .second, .val (.int v1), .val (.int v2), .val (.int v3), .val (.long v4), .second, .val (.long v5), .second, .val (.long v6), .second, .val (.ref b7), .val (.long v15), .second, .val (.long v19), .second, .val (.long v23), .second, .val (.long v24), .second, .val (.int (0 : Int32)), .val (.long v15), .second, .val (.long v52), .second, .val (.double (FP.ddiv (FP.l2d (v24 - v52)) (FP.l2d v24))), .second, .val (.double (FP.ddiv (FP.l2d (v24 - v15)) (FP.l2d v24))), .second] [(.int (own_low v15 v19 v23))])
    refine g_iload X53 hx hby i0_274 rfl ?_
    refine g_icmp_ne X53 hx hby i0_276 (fun c276_54 => False.elim (c276_54 (by simp [own_low, c184_25, c208_49]))) fun c276_54 => ?_
    refine g_aload X53 hx hby i0_279 rfl rfl ?_
    refine g_callV0 X53 hx hby hZ (y0 := (⟨"com/example/value_generalizer/valuegeneralizer/ColumnLevels", "inconsistency", "()D"⟩ : MethodName)) (y := (⟨"com/example/value_generalizer/valuegeneralizer/ColumnLevels", "inconsistency", "()D"⟩ : MethodName)) (argsL := []) (rest := []) hown (hw _ (List.mem_of_getElem? (i := 34) rfl)) (hw _ (List.mem_of_getElem? (i := 35) rfl)) (notFace_of_selects (args := #[]) (mvT hZ (hw _ (List.mem_of_getElem? (i := 37) rfl)))) (hw _ (List.mem_of_getElem? (i := 37) rfl)) (hw _ (List.mem_of_getElem? (i := 36) rfl)) (hw _ (List.mem_of_getElem? (i := 4) rfl)) (hw _ (List.mem_of_getElem? (i := 38) rfl)) (by decide) (a := b7) A7 (rm7 l Z a0 hw [] b7 b8 k8 v15 v19 v23 v24 T11.heap n0 Z0 F_r V F_t ht) e53 (by rw [hml]; rfl) pd_5 rfl rfl i0_281 (by decide) 0 rfl (by decide) (by decide) (by decide) fun T55 v55 L55 X55 q55 => ?_
    obtain ⟨_, rfl, rfl, e55, N55⟩ := q55
    have N0 := Fr.app N0 N55
    show Gd p e below _ T55 (mkF m 284 #[.val (.int p0), .val (.long q1), .second, .val (.int p2), .val (.long q3), .second, .val (.int p4), .val (.long q5), .second, .val (.int v1), .val (.int v2), .val (.int v3), .val (.long v4), .second, .val (.long v5), .second, .val (.long v6), .second, .val (.ref b7), .val (.long v15), .second, .val (.long v19), .second, .val (.long v23), .second, .val (.long v24), .second, .val (.int (0 : Int32)), .val (.long v15), .second, .val (.long v52), .second, .val (.double (FP.ddiv (FP.l2d (v24 - v52)) (FP.l2d v24))), .second, .val (.double (FP.ddiv (FP.l2d (v24 - v15)) (FP.l2d v24))), .second] [(.double (FP.ddiv (FP.l2d (v24 - own_max (own_max (own_max 0 v15) v19) v23)) (FP.l2d v24)))])
    refine g_dload X55 hx hby i0_284 rfl ?_
    refine g_dcmp X55 hx hby i0_286 ?_
    refine g_if_ne X55 hx hby i0_287 (fun c287_56 => False.elim (c287_56 (dcmpV_eq (by rw [hv52, own_mx hr0 hr1 hr2]) (own_nnL _ _ ht) .l))) fun c287_56 => ?_
    refine g_aload X55 hx hby i0_290 rfl rfl ?_
    refine g_callV0 X55 hx hby hZ (y0 := (⟨"com/example/value_generalizer/valuegeneralizer/ColumnLevels", "generalisationPortion", "()D"⟩ : MethodName)) (y := (⟨"com/example/value_generalizer/valuegeneralizer/ColumnLevels", "generalisationPortion", "()D"⟩ : MethodName)) (argsL := []) (rest := []) hown (hw _ (List.mem_of_getElem? (i := 40) rfl)) (hw _ (List.mem_of_getElem? (i := 41) rfl)) (notFace_of_selects (args := #[]) (mvT hZ (hw _ (List.mem_of_getElem? (i := 43) rfl)))) (hw _ (List.mem_of_getElem? (i := 43) rfl)) (hw _ (List.mem_of_getElem? (i := 42) rfl)) (hw _ (List.mem_of_getElem? (i := 4) rfl)) (hw _ (List.mem_of_getElem? (i := 44) rfl)) (by decide) (a := b7) A7 (rm8 l Z a0 hw [] b7 b8 k8 v15 v19 v23 v24 T11.heap n0 Z0 F_r V F_t ht A7 hnz) e55 (by rw [hml]; rfl) pd_5 rfl rfl i0_292 (by decide) 0 rfl (by decide) (by decide) (by decide) fun T57 v57 L57 X57 q57 => ?_
    obtain ⟨_, rfl, rfl, e57, N57⟩ := q57
    have N0 := Fr.app N0 N57
    show Gd p e below _ T57 (mkF m 295 #[.val (.int p0), .val (.long q1), .second, .val (.int p2), .val (.long q3), .second, .val (.int p4), .val (.long q5), .second, .val (.int v1), .val (.int v2), .val (.int v3), .val (.long v4), .second, .val (.long v5), .second, .val (.long v6), .second, .val (.ref b7), .val (.long v15), .second, .val (.long v19), .second, .val (.long v23), .second, .val (.long v24), .second, .val (.int (0 : Int32)), .val (.long v15), .second, .val (.long v52), .second, .val (.double (FP.ddiv (FP.l2d (v24 - v52)) (FP.l2d v24))), .second, .val (.double (FP.ddiv (FP.l2d (v24 - v15)) (FP.l2d v24))), .second] [(.double (FP.ddiv (FP.l2d (v24 - own_sel (own_low v15 v19 v23) v15 v19 v23)) (FP.l2d v24)))])
    refine g_dload X57 hx hby i0_295 rfl ?_
    refine g_dcmp X57 hx hby i0_297 ?_
    refine g_if_ne X57 hx hby i0_298 (fun c298_58 => False.elim (c298_58 (dcmpV_eq (by simp [own_low, own_sel, c184_25, c208_49]) (own_nnL _ _ ht) .l))) fun c298_58 => ?_
    refine g_iconst X57 hx hby i0_301 (z := (1 : Int32)) (by decide) ?_
    refine g_goto X57 hx hby i0_302 ?_
    refine g_ireturnN X57 hx hby (ty := .boolean) hret (by simp) hlk i0_306 (by decide) (by decide) ?_
    exact ⟨_, rfl, rfl, N0⟩
set_option maxRecDepth 65536 in
set_option maxHeartbeats 40000000 in
theorem comes_1 {Post : Tables → Env → Array Value → State → Outcome → State → Prop} (hpost : ∀ tb e args s v u, (limb_1_1.after args s (.returned v) u = true ∧ limb_1_2.after args s (.returned v) u = true ∧ True) → FrameEnd s (.returned v) u (Jvm.fieldLocs frame_1_writes args s ++ Jvm.arrayLocs frame_1_arrays args s ++ Jvm.staticLocs frame_1_statics s) 16 128 → Post tb e args s (.returned v) u) :
    ArmFor flags0 classFile x code maxLocals ret World_1 tables_1 room_1 Calls_1 rest_1 Pre_1 Post := by
  intro l hfl _ _ p e ha hc hk s m args below hf hA hF happ hP
  obtain ⟨hcalls, hrest, hpre⟩ := hP
  obtain ⟨-, -, -, hnamed, -, -, -, hat⟩ := (Spec.applies_iff hf).mp happ
  obtain ⟨hg, hn⟩ := and_e (Cond.before_iff.mp (show (Jvm.Cond.and given_1 narrow_1).before args s = true from hpre))
  obtain ⟨hcount, g0⟩ := and_e hg
  obtain ⟨a0, g1⟩ := and_e g0
  obtain ⟨a1, g2⟩ := and_e g1
  obtain ⟨a2, g3⟩ := and_e g2
  obtain ⟨a3, g4⟩ := and_e g3
  obtain ⟨a4, g5⟩ := and_e g4
  obtain ⟨w0, w1, w2, w3, w4, w5, rfl⟩ : ∃ w0 w1 w2 w3 w4 w5 : Value, args = #[w0, w1, w2, w3, w4, w5] := by
    have hs : args.size = 6 := by simpa [Cond.value, given_1] using hcount
    obtain ⟨L⟩ := args
    match L, hs with
    | [w0, w1, w2, w3, w4, w5], _ => exact ⟨w0, w1, w2, w3, w4, w5, rfl⟩
  have hw := fun d (hd : d ∈ tables_1) => atoms_spec (ws := Jvm.Cond.code x code maxLocals ret :: tables_1) hat d (List.mem_cons_of_mem _ hd)
  have hfit : Fit s := fun {y c} hc i hi => by
    obtain ⟨ha, rfl⟩ := Array.getElem?_eq_some_iff.mp hc
    have q := List.all_eq_true.mp ((Array.all_eq_true_iff_forall_mem.mp hF) _ (Array.getElem_mem ha)) i (List.mem_range.mpr hi)
    simpa [Array.getElem?_eq_getElem hi] using q
  obtain ⟨i0, ei0⟩ := is_v a0
  obtain rfl : w0 = (.int i0) := Option.some.inj ei0
  obtain ⟨i1, ei1⟩ := isL_v a1
  obtain rfl : w1 = (.long i1) := Option.some.inj ei1
  obtain ⟨i2, ei2⟩ := is_v a2
  obtain rfl : w2 = (.int i2) := Option.some.inj ei2
  obtain ⟨i3, ei3⟩ := isL_v a3
  obtain rfl : w3 = (.long i3) := Option.some.inj ei3
  obtain ⟨i4, ei4⟩ := is_v a4
  obtain rfl : w4 = (.int i4) := Option.some.inj ei4
  obtain ⟨i5, ei5⟩ := isL_v g5
  obtain rfl : w5 = (.long i5) := Option.some.inj ei5
  obtain ⟨n, o, h1, h2, h3, _, L, rfl, ⟨_, rfl, rfl, N⟩, hq⟩ := rm0 l s _ hw tables_1 i0 i1 i2 i3 i4 i5 s.heap s.heap.size (Nat.le_refl _)  p e ha hc hk s m _ below hf ((Spec.applies_iff_loose hf).mp happ).1 ⟨rfl, State.Warmed39.refl s, rfl⟩ trivial
  refine ⟨n, _, h1, h2, h3, hpost _ _ _ _ _ _ ⟨Cond.after_iff.mpr rfl, Cond.after_iff.mpr (eq_i res_at (Term.int_eval (1)) rfl), trivial⟩ ⟨hq.1, hq.2.1, (hq.2.2.sift fun y hy => Or.inr (N y hy)).mono (by decide) (by decide)⟩⟩
theorem main_1_1 : Claimed_1_1 := comes_1 fun _ _ _ _ _ _ h hF => ⟨h.1, hF⟩
theorem main_1_2 : Claimed_1_2 := comes_1 fun _ _ _ _ _ _ h hF => ⟨h.2.1, hF⟩
end Jvm.Pilot.@@N@@
namespace Jvm.Pilot.@@N@@
open Jvm Jvm.ClassFile Sem Op Lib Jvm.Free Jvm.Stand Jvm.Pilot.@@N@@.Jvm.D
/-! MADE BY PROGRAM (witnessworld.py) out of the Statement's table words and the real class files: 12 classes; the members and pool entries that the words name. The judged class is class 1, her method 1. -/
namespace start1
open Jvm.ClassFile
def u (s : String) : CpInfo := .utf8 (stringToUtf16 s)
/-- a pool by its gaps: so many unusable entries, then the entry; so many at the end -/
def gap : Nat → List CpInfo → List CpInfo
  | 0, r => r
  | n + 1, r => .unusable :: gap n r
def poolList (es : List (Nat × CpInfo)) (last : Nat) : List CpInfo := es.foldr (fun e r => gap e.1 (e.2 :: r)) (gap last [])
def pool (es : List (Nat × CpInfo)) (last : Nat) : Array CpInfo := ⟨poolList es last⟩
def fileOf (pool : Array CpInfo) (this : Nat) (attrs : Array Attribute := #[]) (ms : Array MethodInfo := #[]) (fl : Nat := 33) (sup : Nat := 0) (ifs : Array Nat := #[]) (fds : Array FieldInfo := #[]) : ClassFile where
  minorVersion := 0
  majorVersion := 65
  constantPool := pool
  accessFlags := fl
  thisClass := this
  superClass := sup
  interfaces := ifs
  fields := fds
  methods := ms
  attributes := attrs
def plain (name : String) (sup : Option ClassId) : Class where
  name := name
  kind := .ordinary
  loader := none
  accessFlags := 33
  super := sup
  interfaces := #[]
  cf := none
  fields := #[]
  methods := #[]
  instanceTypes := #[]
  staticTypes := #[]
  resolved := #[]
  callSites := []
  init := .initialized
  statics := none
  mirror := none

def pool0 : Array CpInfo := pool [(5, u "<init>"), (0, u "()V"), (1, .class_ 10), (1, u "java/lang/Object")] 113

def k0c0 : Code := { maxStack := 0, maxLocals := 1, code := object_method_1_code, exceptionTable := #[], attributes := #[] }
def k0m0 : Method := { name := "<init>", desc := "()V", sig := { parameters := [], returnType := none }, accessFlags := 1, code := some k0c0 }
/-- java/lang/Object -/
def k0 : Class := { plain "java/lang/Object" none with
  accessFlags := 33
  interfaces := #[]
  cf := some (fileOf pool0 8 #[] #[{ accessFlags := 1, nameIndex := 5, descriptorIndex := 6, attributes := #[] }] 33 0 #[] #[])
  fields := #[]
  methods := #[k0m0]
  instanceTypes := #[]
  staticTypes := #[]
  resolved := Array.replicate 124 none
  statics := none }

def pool1 : Array CpInfo := pool [(2, .class_ 4), (1, u "java/lang/Object"), (0, u "<init>"), (0, u "()V"), (0, .integer 2147483647), (0, .long 1099511627775), (1, .class_ 11), (0, u "com/example/value_generalizer/valuegeneralizer/ColumnLevels"), (0, .methodref 10 13), (0, .nameAndType 5 14), (0, u "(I)V"), (0, .methodref 10 16), (0, .nameAndType 17 18), (0, u "add"), (0, u "(IJ)V"), (0, .methodref 20 21), (0, .class_ 22), (0, .nameAndType 23 24), (0, u "com/example/value_generalizer/valuegeneralizer/ColumnLevelsAddPinLaw"), (0, u "at"), (0, u "(IIJ)J"), (0, .methodref 26 27), (0, .class_ 28), (0, .nameAndType 29 30), (0, u "java/lang/Math"), (0, u "max"), (0, u "(JJ)J"), (0, .methodref 10 32), (0, .nameAndType 33 34), (0, u "lowest"), (0, u "()I"), (0, .methodref 10 36), (0, .nameAndType 37 38), (0, u "inconsistency"), (0, u "()D"), (0, .methodref 10 40), (0, .nameAndType 41 38), (0, u "generalisationPortion"), (2, u "law"), (0, u "(IJIJIJ)Z")] 3

def k1m0 : Method := { name := "<init>", desc := "()V", sig := { parameters := [], returnType := none }, accessFlags := 1, code := none }
def k1c1 : Code := { maxStack := 6, maxLocals := 36, code := code, exceptionTable := #[], attributes := #[] }
def k1m1 : Method := { name := "law", desc := "(IJIJIJ)Z", sig := { parameters := [.int, .long, .int, .long, .int, .long], returnType := some .boolean }, accessFlags := 9, code := some k1c1 }
def k1c2 : Code := { maxStack := 2, maxLocals := 4, code := method_3_code, exceptionTable := #[], attributes := #[] }
def k1m2 : Method := { name := "at", desc := "(IIJ)J", sig := { parameters := [.int, .int, .long], returnType := some .long }, accessFlags := 10, code := some k1c2 }
/-- com/example/value_generalizer/valuegeneralizer/ColumnLevelsAddPinLaw -/
def k1 : Class := { plain "com/example/value_generalizer/valuegeneralizer/ColumnLevelsAddPinLaw" (some 0) with
  accessFlags := 49
  interfaces := #[]
  cf := some (fileOf pool1 20 #[] #[{ accessFlags := 1, nameIndex := 5, descriptorIndex := 6, attributes := #[] }, { accessFlags := 9, nameIndex := 44, descriptorIndex := 45, attributes := #[] }, { accessFlags := 10, nameIndex := 23, descriptorIndex := 24, attributes := #[] }] 49 2 #[] #[])
  fields := #[]
  methods := #[k1m0, k1m1, k1m2]
  instanceTypes := #[]
  staticTypes := #[]
  resolved := Array.replicate 49 none
  statics := none }

def pool2 : Array CpInfo := pool [(1, .methodref 2 3), (0, .class_ 4), (0, .nameAndType 5 6), (0, u "java/lang/Object"), (0, u "<init>"), (0, u "()V"), (0, .fieldref 8 9), (0, .class_ 10), (0, .nameAndType 11 12), (0, u "com/example/value_generalizer/valuegeneralizer/ColumnLevels"), (0, u "records"), (0, u "[J"), (0, .fieldref 8 14), (0, .nameAndType 15 16), (0, u "total"), (0, u "J"), (0, .methodref 18 19), (0, .class_ 20), (0, .nameAndType 21 22), (0, u "java/lang/Math"), (0, u "max"), (0, u "(JJ)J"), (0, .methodref 8 24), (0, .nameAndType 25 26), (0, u "lowest"), (0, u "()I"), (0, u "(I)V"), (2, u "add"), (0, u "(IJ)V"), (1, u "inconsistency"), (0, u "()D"), (1, u "generalisationPortion")] 2

def k2c0 : Code := { maxStack := 3, maxLocals := 2, code := prog_3_method_1_code, exceptionTable := #[], attributes := #[] }
def k2m0 : Method := { name := "<init>", desc := "(I)V", sig := { parameters := [.int], returnType := none }, accessFlags := 0, code := some k2c0 }
def k2c1 : Code := { maxStack := 6, maxLocals := 4, code := prog_3_method_2_code, exceptionTable := #[], attributes := #[] }
def k2m1 : Method := { name := "add", desc := "(IJ)V", sig := { parameters := [.int, .long], returnType := none }, accessFlags := 0, code := some k2c1 }
def k2c2 : Code := { maxStack := 4, maxLocals := 2, code := prog_3_method_3_code, exceptionTable := #[], attributes := #[] }
def k2m2 : Method := { name := "lowest", desc := "()I", sig := { parameters := [], returnType := some .int }, accessFlags := 0, code := some k2c2 }
def k2c3 : Code := { maxStack := 4, maxLocals := 8, code := prog_3_method_4_code, exceptionTable := #[], attributes := #[] }
def k2m3 : Method := { name := "inconsistency", desc := "()D", sig := { parameters := [], returnType := some .double }, accessFlags := 0, code := some k2c3 }
def k2c4 : Code := { maxStack := 4, maxLocals := 1, code := prog_3_method_5_code, exceptionTable := #[], attributes := #[] }
def k2m4 : Method := { name := "generalisationPortion", desc := "()D", sig := { parameters := [], returnType := some .double }, accessFlags := 0, code := some k2c4 }
/-- com/example/value_generalizer/valuegeneralizer/ColumnLevels -/
def k2 : Class := { plain "com/example/value_generalizer/valuegeneralizer/ColumnLevels" (some 0) with
  accessFlags := 48
  interfaces := #[]
  cf := some (fileOf pool2 8 #[] #[{ accessFlags := 0, nameIndex := 5, descriptorIndex := 27, attributes := #[] }, { accessFlags := 0, nameIndex := 30, descriptorIndex := 31, attributes := #[] }, { accessFlags := 0, nameIndex := 25, descriptorIndex := 26, attributes := #[] }, { accessFlags := 0, nameIndex := 33, descriptorIndex := 34, attributes := #[] }, { accessFlags := 0, nameIndex := 36, descriptorIndex := 34, attributes := #[] }] 48 2 #[] #[{ accessFlags := 18, nameIndex := 11, descriptorIndex := 12, attributes := #[] }, { accessFlags := 2, nameIndex := 15, descriptorIndex := 16, attributes := #[] }])
  fields := #[{ name := "records", type := (.array .long), accessFlags := 18, slot := 0, constantValue := 0 }, { name := "total", type := .long, accessFlags := 2, slot := 1, constantValue := 0 }]
  methods := #[k2m0, k2m1, k2m2, k2m3, k2m4]
  instanceTypes := #[(.array .long), .long]
  staticTypes := #[]
  resolved := Array.replicate 39 none
  statics := none }

def pool3 : Array CpInfo := pool [(1, .class_ 2), (0, u "java/lang/Math"), (1, .class_ 6), (1, u "java/lang/Object"), (0, u "<init>"), (0, u "()V"), (89, .class_ 100), (1, u "java/lang/Math$RandomNumberGeneratorHolder"), (20, u "(JJ)J"), (50, u "negativeZeroFloatBits"), (0, u "J"), (2, u "negativeZeroDoubleBits"), (21, u "max"), (46, u "$assertionsDisabled"), (0, u "Z"), (91, u "twoToTheDoubleScaleDown"), (0, u "D"), (4, u "twoToTheDoubleScaleUp"), (9, u "E"), (3, u "PI"), (2, u "TAU"), (2, u "DEGREES_TO_RADIANS"), (0, u "RADIANS_TO_DEGREES")] 94

def k3m0 : Method := { name := "<init>", desc := "()V", sig := { parameters := [], returnType := none }, accessFlags := 2, code := none }
def k3c1 : Code := { maxStack := 4, maxLocals := 4, code := jdk_29_method_66_code, exceptionTable := #[], attributes := #[] }
def k3m1 : Method := { name := "max", desc := "(JJ)J", sig := { parameters := [.long, .long], returnType := some .long }, accessFlags := 9, code := some k3c1 }
/-- java/lang/Math -/
def k3 : Class := { plain "java/lang/Math" (some 0) with
  accessFlags := 49
  interfaces := #[]
  cf := some (fileOf pool3 1 #[.nestMembers #[98]] #[{ accessFlags := 2, nameIndex := 7, descriptorIndex := 8, attributes := #[] }, { accessFlags := 9, nameIndex := 198, descriptorIndex := 121, attributes := #[] }] 49 4 #[] #[{ accessFlags := 25, nameIndex := 354, descriptorIndex := 339, attributes := #[] }, { accessFlags := 25, nameIndex := 358, descriptorIndex := 339, attributes := #[] }, { accessFlags := 25, nameIndex := 361, descriptorIndex := 339, attributes := #[] }, { accessFlags := 26, nameIndex := 364, descriptorIndex := 339, attributes := #[] }, { accessFlags := 26, nameIndex := 365, descriptorIndex := 339, attributes := #[] }, { accessFlags := 26, nameIndex := 172, descriptorIndex := 173, attributes := #[] }, { accessFlags := 26, nameIndex := 176, descriptorIndex := 173, attributes := #[] }, { accessFlags := 8, nameIndex := 344, descriptorIndex := 339, attributes := #[] }, { accessFlags := 8, nameIndex := 338, descriptorIndex := 339, attributes := #[] }, { accessFlags := 4120, nameIndex := 245, descriptorIndex := 246, attributes := #[] }])
  fields := #[{ name := "E", type := .double, accessFlags := 25, slot := 0, constantValue := 0 }, { name := "PI", type := .double, accessFlags := 25, slot := 1, constantValue := 0 }, { name := "TAU", type := .double, accessFlags := 25, slot := 2, constantValue := 0 }, { name := "DEGREES_TO_RADIANS", type := .double, accessFlags := 26, slot := 3, constantValue := 0 }, { name := "RADIANS_TO_DEGREES", type := .double, accessFlags := 26, slot := 4, constantValue := 0 }, { name := "negativeZeroFloatBits", type := .long, accessFlags := 26, slot := 5, constantValue := 0 }, { name := "negativeZeroDoubleBits", type := .long, accessFlags := 26, slot := 6, constantValue := 0 }, { name := "twoToTheDoubleScaleUp", type := .double, accessFlags := 8, slot := 7, constantValue := 0 }, { name := "twoToTheDoubleScaleDown", type := .double, accessFlags := 8, slot := 8, constantValue := 0 }, { name := "$assertionsDisabled", type := .boolean, accessFlags := 4120, slot := 9, constantValue := 0 }]
  methods := #[k3m0, k3m1]
  instanceTypes := #[]
  staticTypes := #[.double, .double, .double, .double, .double, .long, .long, .double, .double, .boolean]
  resolved := Array.replicate 460 none
  statics := none }

def pool4 : Array CpInfo := pool [(1, u "java/lang/Cloneable"), (0, .class_ 1), (0, u "java/lang/Object"), (0, .class_ 3)] 3

/-- java/lang/Cloneable -/
def k4 : Class := { plain "java/lang/Cloneable" (some 0) with
  accessFlags := 1537
  interfaces := #[]
  cf := some (fileOf pool4 2 #[] #[] 1537 4 #[] #[])
  fields := #[]
  methods := #[]
  instanceTypes := #[]
  staticTypes := #[]
  resolved := Array.replicate 8 none
  statics := none }

def pool5 : Array CpInfo := pool [(1, u "java/io/Serializable"), (0, .class_ 1), (0, u "java/lang/Object"), (0, .class_ 3)] 3

/-- java/io/Serializable -/
def k5 : Class := { plain "java/io/Serializable" (some 0) with
  accessFlags := 1537
  interfaces := #[]
  cf := some (fileOf pool5 2 #[] #[] 1537 4 #[] #[])
  fields := #[]
  methods := #[]
  instanceTypes := #[]
  staticTypes := #[]
  resolved := Array.replicate 8 none
  statics := none }

/-- the primitive byte -/
def k6 : Class := { plain "byte" none with kind := .primitive 'B', accessFlags := 0x411 }
/-- [B -/
def k7 : Class := { plain "[B" (some 0) with kind := .array 6 .byte, interfaces := #[4, 5], accessFlags := 1041 }

/-- the primitive int -/
def k8 : Class := { plain "int" none with kind := .primitive 'I', accessFlags := 0x411 }
/-- [I -/
def k9 : Class := { plain "[I" (some 0) with kind := .array 8 .int, interfaces := #[4, 5], accessFlags := 1041 }

/-- the primitive long -/
def k10 : Class := { plain "long" none with kind := .primitive 'J', accessFlags := 0x411 }
/-- [J -/
def k11 : Class := { plain "[J" (some 0) with kind := .array 10 .long, interfaces := #[4, 5], accessFlags := 1041 }

def heap : Heap := #[]
def classes : Array Class := #[k0, k1, k2, k3, k4, k5, k6, k7, k8, k9, k10, k11]
def interned : List (Array UInt16 × Addr) := []
def slotsUsed : Nat := 0
def theMethod : MethodId := ⟨1, 1⟩
def args0 : Array Value := #[.int 5, .long 7, .int 5, .long 7, .int 5, .long 7]
def aboutOver (below : List Frame) : State where
  vm := { classes := classes, interned := interned.toArray }
  heap := heap
  slotsUsed := slotsUsed
  threads := #[{ frames := .invoking theMethod args0 :: below }]
def below0 : List Frame := [.native { method := ⟨0, 0⟩, args := #[] }]
def about1 : State := aboutOver below0
def p0 : Program := .bare "" "" ""
def e0 : Env := launch0.env 0 0 0
theorem w_frames : about1.frames = Frame.invoking theMethod args0 :: below0 := rfl
set_option maxRecDepth 65536 in
theorem w_args : argsFit about1.vm theMethod args0 = true := by decide +kernel
set_option maxRecDepth 65536 in
theorem w_heap : heapFits about1 = true := by decide +kernel
set_option maxRecDepth 65536 in
theorem w_runnable : about1.curStatus? = some .runnable := by decide +kernel
set_option maxRecDepth 65536 in
theorem w_alone : about1.alone = true := by decide +kernel
set_option maxRecDepth 65536 in
theorem w_named : about1.methodNamed? x = some theMethod := by decide +kernel
set_option maxRecDepth 65536 in
theorem w_hears : about1.hears theMethod below0 = true := by decide +kernel
set_option maxRecDepth 65536 in
theorem w_ripe : about1.ripe theMethod args0 below0 = true := by decide +kernel
theorem w_running : about1.status = .running := rfl
set_option maxRecDepth 65536 in
theorem w_room : about1.hasRoom e0.platform room_1 = true :=
  launch0.hasRoom_least _ room_1 (by decide +kernel) (by decide +kernel) (by decide +kernel) (by decide +kernel) (by decide +kernel) (by decide +kernel)
theorem allAtoms_all (ts : List Jvm.Cond) (a : Array Jvm.Value) (st : Jvm.State) : (allAtoms ts).before a st = ts.all (fun c => c.before a st) := by
  induction ts with
  | nil => rfl
  | cons c t ih =>
    show (Jvm.Cond.and c (allAtoms t)).before a st = _
    rw [Jvm.Cond.before_and, ih, List.all_cons]
def words1 : List Jvm.Cond := Jvm.Cond.code x code maxLocals ret :: tables_1
/-- a 'code' word, met by the world's own term for the bytes: nothing is compared byte by byte -/
theorem code_word {y : MethodName} {bytes : ByteArray} {mx : Nat} {rt : Option FieldType} {a : Array Value} {s : State} {m : MethodId} {meth : Method} {c : Code} (h1 : s.methodNamed? y = some m) (h2 : s.vm.method? m = some meth) (h3 : meth.code = some c) (h4 : c.code = bytes)
    (h5 : (c.maxLocals == mx && c.exceptionTable.isEmpty && decide (c.maxStack ≤ mostOperands) && decide (meth.sig.returnType = rt) && !meth.locks && decide (parseMethodDescriptor y.desc = some meth.sig)) = true) : (Jvm.Cond.code y bytes mx rt).before a s = true := by
  simp only [Bool.and_eq_true, beq_iff_eq, Bool.not_eq_true', decide_eq_true_eq] at h5
  obtain ⟨⟨⟨⟨⟨g1, g2⟩, g3⟩, g4⟩, g5⟩, g6⟩ := h5
  simp [Cond.before, Cond.holds, Cond.value, h1, h2, h3, h4, g1, g2, g3, g4, g5, g6]
def isCode : Jvm.Cond → Bool
  | .code _ _ _ _ => true
  | _ => false
theorem all_split {L : List Jvm.Cond} {P : Jvm.Cond → Bool} (h1 : L.all (fun c => isCode c || P c) = true) (h2 : ∀ c ∈ L.filter isCode, P c = true) : L.all P = true := by
  refine List.all_eq_true.mpr fun c hc => ?_
  have h := List.all_eq_true.mp h1 c hc
  rcases Bool.eq_false_or_eq_true (isCode c) with hi | hi
  · exact h2 c (List.mem_filter.mpr ⟨hc, hi⟩)
  · simpa [hi] using h
set_option maxRecDepth 65536 in
theorem w_c0 : (Jvm.Cond.code x code maxLocals ret).before args0 about1 = true := code_word (m := ⟨1, 1⟩) (meth := k1m1) (c := k1c1) (by decide +kernel) rfl rfl rfl (by decide +kernel)
set_option maxRecDepth 65536 in
theorem w_c1 : (Jvm.Cond.code ({ cls := "com/example/value_generalizer/valuegeneralizer/ColumnLevels", name := "<init>", desc := "(I)V" } : Jvm.MethodName) prog_3_method_1_code (2 : Nat) (Option.none : Option Jvm.ClassFile.FieldType)).before args0 about1 = true := code_word (m := ⟨2, 0⟩) (meth := k2m0) (c := k2c0) (by decide +kernel) rfl rfl rfl (by decide +kernel)
set_option maxRecDepth 65536 in
theorem w_c2 : (Jvm.Cond.code ({ cls := "java/lang/Object", name := "<init>", desc := "()V" } : Jvm.MethodName) object_method_1_code (1 : Nat) (Option.none : Option Jvm.ClassFile.FieldType)).before args0 about1 = true := code_word (m := ⟨0, 0⟩) (meth := k0m0) (c := k0c0) (by decide +kernel) rfl rfl rfl (by decide +kernel)
set_option maxRecDepth 65536 in
theorem w_c3 : (Jvm.Cond.code ({ cls := "com/example/value_generalizer/valuegeneralizer/ColumnLevels", name := "add", desc := "(IJ)V" } : Jvm.MethodName) prog_3_method_2_code (4 : Nat) (Option.none : Option Jvm.ClassFile.FieldType)).before args0 about1 = true := code_word (m := ⟨2, 1⟩) (meth := k2m1) (c := k2c1) (by decide +kernel) rfl rfl rfl (by decide +kernel)
set_option maxRecDepth 65536 in
theorem w_c4 : (Jvm.Cond.code ({ cls := "com/example/value_generalizer/valuegeneralizer/ColumnLevelsAddPinLaw", name := "at", desc := "(IIJ)J" } : Jvm.MethodName) method_3_code (4 : Nat) (Option.some Jvm.ClassFile.FieldType.long)).before args0 about1 = true := code_word (m := ⟨1, 2⟩) (meth := k1m2) (c := k1c2) (by decide +kernel) rfl rfl rfl (by decide +kernel)
set_option maxRecDepth 65536 in
theorem w_c5 : (Jvm.Cond.code ({ cls := "java/lang/Math", name := "max", desc := "(JJ)J" } : Jvm.MethodName) jdk_29_method_66_code (4 : Nat) (Option.some Jvm.ClassFile.FieldType.long)).before args0 about1 = true := code_word (m := ⟨3, 1⟩) (meth := k3m1) (c := k3c1) (by decide +kernel) rfl rfl rfl (by decide +kernel)
set_option maxRecDepth 65536 in
theorem w_c6 : (Jvm.Cond.code ({ cls := "com/example/value_generalizer/valuegeneralizer/ColumnLevels", name := "lowest", desc := "()I" } : Jvm.MethodName) prog_3_method_3_code (2 : Nat) (Option.some Jvm.ClassFile.FieldType.int)).before args0 about1 = true := code_word (m := ⟨2, 2⟩) (meth := k2m2) (c := k2c2) (by decide +kernel) rfl rfl rfl (by decide +kernel)
set_option maxRecDepth 65536 in
theorem w_c7 : (Jvm.Cond.code ({ cls := "com/example/value_generalizer/valuegeneralizer/ColumnLevels", name := "inconsistency", desc := "()D" } : Jvm.MethodName) prog_3_method_4_code (8 : Nat) (Option.some Jvm.ClassFile.FieldType.double)).before args0 about1 = true := code_word (m := ⟨2, 3⟩) (meth := k2m3) (c := k2c3) (by decide +kernel) rfl rfl rfl (by decide +kernel)
set_option maxRecDepth 65536 in
theorem w_c8 : (Jvm.Cond.code ({ cls := "com/example/value_generalizer/valuegeneralizer/ColumnLevels", name := "generalisationPortion", desc := "()D" } : Jvm.MethodName) prog_3_method_5_code (1 : Nat) (Option.some Jvm.ClassFile.FieldType.double)).before args0 about1 = true := code_word (m := ⟨2, 4⟩) (meth := k2m4) (c := k2c4) (by decide +kernel) rfl rfl rfl (by decide +kernel)
def codes1 : List Jvm.Cond := [Jvm.Cond.code x code maxLocals ret, Jvm.Cond.code ({ cls := "com/example/value_generalizer/valuegeneralizer/ColumnLevels", name := "<init>", desc := "(I)V" } : Jvm.MethodName) prog_3_method_1_code (2 : Nat) (Option.none : Option Jvm.ClassFile.FieldType), Jvm.Cond.code ({ cls := "java/lang/Object", name := "<init>", desc := "()V" } : Jvm.MethodName) object_method_1_code (1 : Nat) (Option.none : Option Jvm.ClassFile.FieldType), Jvm.Cond.code ({ cls := "com/example/value_generalizer/valuegeneralizer/ColumnLevels", name := "add", desc := "(IJ)V" } : Jvm.MethodName) prog_3_method_2_code (4 : Nat) (Option.none : Option Jvm.ClassFile.FieldType), Jvm.Cond.code ({ cls := "com/example/value_generalizer/valuegeneralizer/ColumnLevelsAddPinLaw", name := "at", desc := "(IIJ)J" } : Jvm.MethodName) method_3_code (4 : Nat) (Option.some Jvm.ClassFile.FieldType.long), Jvm.Cond.code ({ cls := "java/lang/Math", name := "max", desc := "(JJ)J" } : Jvm.MethodName) jdk_29_method_66_code (4 : Nat) (Option.some Jvm.ClassFile.FieldType.long), Jvm.Cond.code ({ cls := "com/example/value_generalizer/valuegeneralizer/ColumnLevels", name := "lowest", desc := "()I" } : Jvm.MethodName) prog_3_method_3_code (2 : Nat) (Option.some Jvm.ClassFile.FieldType.int), Jvm.Cond.code ({ cls := "com/example/value_generalizer/valuegeneralizer/ColumnLevels", name := "inconsistency", desc := "()D" } : Jvm.MethodName) prog_3_method_4_code (8 : Nat) (Option.some Jvm.ClassFile.FieldType.double), Jvm.Cond.code ({ cls := "com/example/value_generalizer/valuegeneralizer/ColumnLevels", name := "generalisationPortion", desc := "()D" } : Jvm.MethodName) prog_3_method_5_code (1 : Nat) (Option.some Jvm.ClassFile.FieldType.double)]
set_option maxRecDepth 65536 in
theorem codes_eq : words1.filter isCode = codes1 := rfl
theorem w_codes : ∀ c ∈ words1.filter isCode, c.before args0 about1 = true := by
  rw [codes_eq]
  intro c hc
  simp only [codes1, List.mem_cons, List.not_mem_nil, or_false] at hc
  rcases hc with rfl | rfl | rfl | rfl | rfl | rfl | rfl | rfl | rfl
  · exact w_c0
  · exact w_c1
  · exact w_c2
  · exact w_c3
  · exact w_c4
  · exact w_c5
  · exact w_c6
  · exact w_c7
  · exact w_c8
set_option maxRecDepth 65536 in
theorem w_t1 : (words1.take 24).all (fun c => isCode c || c.before args0 about1) = true := by decide +kernel
set_option maxRecDepth 65536 in
theorem w_t2 : (words1.drop 24).all (fun c => isCode c || c.before args0 about1) = true := by decide +kernel
theorem w_tables : (allAtoms (Jvm.Cond.code x code maxLocals ret :: tables_1)).before args0 about1 = true := by
  rw [allAtoms_all]
  show words1.all (fun c => c.before args0 about1) = true
  refine all_split ?_ w_codes
  rw [← List.take_append_drop 24 words1, List.all_append, w_t1, w_t2]
  rfl
set_option maxRecDepth 65536 in
theorem w_case : (Jvm.Cond.and given_1 narrow_1).before args0 about1 = true := by decide +kernel
theorem w_applies : (headSpec (Jvm.Cond.code x code maxLocals ret :: tables_1) room_1).applies x e0.platform about1 = true :=
  (Spec.applies_iff w_frames).mpr ⟨w_running, w_runnable, w_alone, w_named, w_hears, w_ripe, w_room, w_tables⟩
theorem atStart : AtStart classFile x code maxLocals ret World_1 tables_1 room_1 Calls_1 rest_1 Pre_1 launch0 p0 e0 about1 theMethod args0 below0 :=
  ⟨lists_1, trivial, launch0.admits_env _ _ _, launch0.least_env, fairChoices_fair.cas, fairChoices_fair.clock, w_frames, w_args, w_heap, w_applies, trivial, trivial, w_case⟩
end start1
theorem witness_1 : WitnessClaimed_1 := ⟨start1.p0, start1.e0, start1.about1, start1.theMethod, start1.args0, start1.below0, start1.atStart⟩
end Jvm.Pilot.@@N@@

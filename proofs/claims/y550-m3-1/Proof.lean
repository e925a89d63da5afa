import JvmDerived
import JvmDerived.Pilot.@@N@@Statement
import JvmDerived.Pilot.@@N@@Code
set_option linter.unusedVariables false
set_option linter.unusedSimpArgs false
namespace Jvm.OwnG
open Sem ClassFile Op Lib Jvm.Stand Jvm.Free Jvm.LawKit Jvm.RoadKit
/-- from here the run comes to an end at which P holds -/
def Gd (p : Program) (e : Env) (below : List Frame) (P : State → Prop) (T : State) (g : JFrame) : Prop := ∃ t, Steps p.tables e below (T.setTop g) t ∧ P t
/-- an instruction of the code, and the pc behind it -/
def Ins1 (code : ByteArray) (pc : Nat) (i : Instr) (n pn : Nat) : Prop := decode code pc = .ok (i, n) ∧ pc + n = pn
/-- a branch: the pc behind it, the pc it goes to -/
def InsB (code : ByteArray) (pc : Nat) (i : Instr) (o : Int) (pn pt : Nat) : Prop := decode code pc = .ok (i, 3) ∧ pc + 3 = pn ∧ 0 ≤ (pc : Int) + o ∧ ((pc : Int) + o).toNat = pt
/-- what the end of a walk says -/
def Fin1 (s : State) (below : List Frame) (cells slots : Nat) (Q : Option Value → Heap → List Loc → Prop) (t : State) : Prop := ∃ o, t.status = .running ∧ Ended t below o ∧ ∃ v L, o = .returned v ∧ Q v t.heap L ∧ FrameEnd s o t L cells slots
/-- a method's contract at the arguments as', the heap h -/
def Met1 (l : Launch) (y : MethodName) (bytes : ByteArray) (maxL : Nat) (ret : Option FieldType) (ws : List Jvm.Cond) (rm : Room) (as' : Array Value) (Z : State) (h : Heap) (Q : Option Value → Heap → List Loc → Prop) : Prop :=
  MetFree l y (head1 (Jvm.Cond.code y bytes maxL ret :: ws) rm) (fun a U => a = as' ∧ Z.Warmed39 U.vm ∧ U.heap = h) (fun _ _ _ _ _ => True) (fun _ U o U' => ∃ v L, o = .returned v ∧ Q v U'.heap L ∧ FrameEnd U o U' L rm.cells rm.slots)
def RV (Q : Value → Heap → List Loc → Prop) (v : Option Value) (h : Heap) (L : List Loc) : Prop := ∃ z, v = some z ∧ Q z h L
def RN (Q : Heap → List Loc → Prop) (v : Option Value) (h : Heap) (L : List Loc) : Prop := v = none ∧ Q h L
section K
variable {p : Program} {l : Launch} {e : Env} {R : Room} {s : State} {m : MethodId} {args : Array Value} {below : List Frame} {meth : Method} {c : Code} {T : State} {locs : List Loc} {cells slots : Nat} {Z : State} {a0 : Array Value} {h : Heap} {P : State → Prop} {code : ByteArray} {pc pn pt : Nat} {Ls : Array Slot} {st : List Value}
theorem Gd.of {T' : State} {g g' : JFrame} (k : ∀ t, Steps p.tables e below (T'.setTop g') t → Steps p.tables e below (T.setTop g) t) (q : Gd p e below P T' g') : Gd p e below P T g := q.imp fun t r => ⟨k t r.1, r.2⟩
theorem Gd.cast {g g' : JFrame} (q : g = g') (k : Gd p e below P T g') : Gd p e below P T g := q ▸ k
theorem met_of {y : MethodName} {maxL : Nat} {ret : Option FieldType} {ws : List Jvm.Cond} {rm : Room} {as' : Array Value} {Q : Option Value → Heap → List Loc → Prop} (hp : plainFor y = true)
    (body : ∀ (p : Program) (e : Env) (s : State) (m : MethodId) (below : List Frame) (meth : Method) (c : Code) (T : State), Stand p l e rm s m as' below meth c T [] 0 0 → p.tables.exec = Jvm.exec → c.code = code → c.maxLocals = maxL → Z.Warmed39 s.vm → s.vm.findClass y.cls = some m.cls → meth.name = y.name → meth.sig.returnType = ret → meth.locks = false → T.heap = h → s.heap = h →
      Gd p e below (Fin1 s below rm.cells rm.slots Q) T (entryFrame m as' maxL)) : Met1 l y code maxL ret ws rm as' Z h Q := by
  refine MetFree.of_bodySF hp hisR ?_
  intro p e s m args below meth c s₁ Bd hml0 hP hK
  obtain ⟨rfl, hZ, hh⟩ := hP
  obtain ⟨t, h1, o, h2, h3, h4⟩ := body p e s m below meth c s₁ (Stand.of_body Bd) Bd.exec Bd.bytes hml0 hZ (findClass_of_methodNamed Bd.named) (name_of_methodNamed Bd.named Bd.method).1 Bd.returns Bd.notSynchronized (by rw [← hh, Bd.state]; rfl) hh
  exact ⟨t, o, h1, h2, h3, h4⟩
theorem g_iloadN (X : Stand p l e R s m args below meth c T locs cells slots) (hx : p.tables.exec = Jvm.exec) (hby : c.code = code) {k : Fin 4} {v : Int32} (hd : Ins1 code pc (.iload_n k) 1 pn) (hl : Ls[k.val]? = some (.val (.int v))) (k : Gd p e below P T (mkF m pn Ls (.int v :: st))) : Gd p e below P T (mkF m pc Ls (st)) := by
  obtain ⟨hd, rfl⟩ := hd
  exact k.imp fun t q => ⟨XS.iloadN X.here hx rfl (hb hby hd) hl q.1, q.2⟩
theorem g_iload (X : Stand p l e R s m args below meth c T locs cells slots) (hx : p.tables.exec = Jvm.exec) (hby : c.code = code) {k : Nat} {v : Int32} (hd : Ins1 code pc (.iload k) 2 pn) (hl : Ls[k]? = some (.val (.int v))) (k : Gd p e below P T (mkF m pn Ls (.int v :: st))) : Gd p e below P T (mkF m pc Ls (st)) := by
  obtain ⟨hd, rfl⟩ := hd
  exact k.imp fun t q => ⟨XS.iload X.here hx rfl (hb hby hd) hl q.1, q.2⟩
theorem g_istoreN (X : Stand p l e R s m args below meth c T locs cells slots) (hx : p.tables.exec = Jvm.exec) (hby : c.code = code) {k : Fin 4} {v : Int32} {l' : Array Slot} (hd : Ins1 code pc (.istore_n k) 1 pn) (hl : storeLocals Ls k.val (.int v) = some l') (k : Gd p e below P T (mkF m pn l' (st))) : Gd p e below P T (mkF m pc Ls (.int v :: st)) := by
  obtain ⟨hd, rfl⟩ := hd
  exact k.imp fun t q => ⟨XS.istoreN X.here hx rfl (hb hby hd) rfl hl q.1, q.2⟩
theorem g_istore (X : Stand p l e R s m args below meth c T locs cells slots) (hx : p.tables.exec = Jvm.exec) (hby : c.code = code) {k : Nat} {v : Int32} {l' : Array Slot} (hd : Ins1 code pc (.istore k) 2 pn) (hl : storeLocals Ls k (.int v) = some l') (k : Gd p e below P T (mkF m pn l' (st))) : Gd p e below P T (mkF m pc Ls (.int v :: st)) := by
  obtain ⟨hd, rfl⟩ := hd
  exact k.imp fun t q => ⟨XS.istore X.here hx rfl (hb hby hd) rfl hl q.1, q.2⟩
theorem g_lloadN (X : Stand p l e R s m args below meth c T locs cells slots) (hx : p.tables.exec = Jvm.exec) (hby : c.code = code) {k : Fin 4} {v : Int64} (hd : Ins1 code pc (.lload_n k) 1 pn) (hl : Ls[k.val]? = some (.val (.long v))) (k : Gd p e below P T (mkF m pn Ls (.long v :: st))) : Gd p e below P T (mkF m pc Ls (st)) := by
  obtain ⟨hd, rfl⟩ := hd
  exact k.imp fun t q => ⟨XS.lloadN X.here hx rfl (hb hby hd) hl q.1, q.2⟩
theorem g_lload (X : Stand p l e R s m args below meth c T locs cells slots) (hx : p.tables.exec = Jvm.exec) (hby : c.code = code) {k : Nat} {v : Int64} (hd : Ins1 code pc (.lload k) 2 pn) (hl : Ls[k]? = some (.val (.long v))) (k : Gd p e below P T (mkF m pn Ls (.long v :: st))) : Gd p e below P T (mkF m pc Ls (st)) := by
  obtain ⟨hd, rfl⟩ := hd
  exact k.imp fun t q => ⟨XS.lload X.here hx rfl (hb hby hd) hl q.1, q.2⟩
theorem g_lstoreN (X : Stand p l e R s m args below meth c T locs cells slots) (hx : p.tables.exec = Jvm.exec) (hby : c.code = code) {k : Fin 4} {v : Int64} {l' : Array Slot} (hd : Ins1 code pc (.lstore_n k) 1 pn) (hl : storeLocals Ls k.val (.long v) = some l') (k : Gd p e below P T (mkF m pn l' (st))) : Gd p e below P T (mkF m pc Ls (.long v :: st)) := by
  obtain ⟨hd, rfl⟩ := hd
  exact k.imp fun t q => ⟨XS.lstoreN X.here hx rfl (hb hby hd) rfl hl q.1, q.2⟩
theorem g_lstore (X : Stand p l e R s m args below meth c T locs cells slots) (hx : p.tables.exec = Jvm.exec) (hby : c.code = code) {k : Nat} {v : Int64} {l' : Array Slot} (hd : Ins1 code pc (.lstore k) 2 pn) (hl : storeLocals Ls k (.long v) = some l') (k : Gd p e below P T (mkF m pn l' (st))) : Gd p e below P T (mkF m pc Ls (.long v :: st)) := by
  obtain ⟨hd, rfl⟩ := hd
  exact k.imp fun t q => ⟨XS.lstore X.here hx rfl (hb hby hd) rfl hl q.1, q.2⟩
theorem g_dloadN (X : Stand p l e R s m args below meth c T locs cells slots) (hx : p.tables.exec = Jvm.exec) (hby : c.code = code) {k : Fin 4} {v : UInt64} (hd : Ins1 code pc (.dload_n k) 1 pn) (hl : Ls[k.val]? = some (.val (.double v))) (k : Gd p e below P T (mkF m pn Ls (.double v :: st))) : Gd p e below P T (mkF m pc Ls (st)) := by
  obtain ⟨hd, rfl⟩ := hd
  exact k.imp fun t q => ⟨XS.dloadN X.here hx rfl (hb hby hd) hl q.1, q.2⟩
theorem g_dload (X : Stand p l e R s m args below meth c T locs cells slots) (hx : p.tables.exec = Jvm.exec) (hby : c.code = code) {k : Nat} {v : UInt64} (hd : Ins1 code pc (.dload k) 2 pn) (hl : Ls[k]? = some (.val (.double v))) (k : Gd p e below P T (mkF m pn Ls (.double v :: st))) : Gd p e below P T (mkF m pc Ls (st)) := by
  obtain ⟨hd, rfl⟩ := hd
  exact k.imp fun t q => ⟨XS.dload X.here hx rfl (hb hby hd) hl q.1, q.2⟩
theorem g_dstoreN (X : Stand p l e R s m args below meth c T locs cells slots) (hx : p.tables.exec = Jvm.exec) (hby : c.code = code) {k : Fin 4} {v : UInt64} {l' : Array Slot} (hd : Ins1 code pc (.dstore_n k) 1 pn) (hl : storeLocals Ls k.val (.double v) = some l') (k : Gd p e below P T (mkF m pn l' (st))) : Gd p e below P T (mkF m pc Ls (.double v :: st)) := by
  obtain ⟨hd, rfl⟩ := hd
  exact k.imp fun t q => ⟨XS.dstoreN X.here hx rfl (hb hby hd) rfl hl q.1, q.2⟩
theorem g_dstore (X : Stand p l e R s m args below meth c T locs cells slots) (hx : p.tables.exec = Jvm.exec) (hby : c.code = code) {k : Nat} {v : UInt64} {l' : Array Slot} (hd : Ins1 code pc (.dstore k) 2 pn) (hl : storeLocals Ls k (.double v) = some l') (k : Gd p e below P T (mkF m pn l' (st))) : Gd p e below P T (mkF m pc Ls (.double v :: st)) := by
  obtain ⟨hd, rfl⟩ := hd
  exact k.imp fun t q => ⟨XS.dstore X.here hx rfl (hb hby hd) rfl hl q.1, q.2⟩
theorem g_aloadN (X : Stand p l e R s m args below meth c T locs cells slots) (hx : p.tables.exec = Jvm.exec) (hby : c.code = code) {k : Fin 4} {v : Value} (hd : Ins1 code pc (.aload_n k) 1 pn) (hl : Ls[k.val]? = some (.val v)) (hv : v.isRef = true) (k : Gd p e below P T (mkF m pn Ls (v :: st))) : Gd p e below P T (mkF m pc Ls (st)) := by
  obtain ⟨hd, rfl⟩ := hd
  exact k.imp fun t q => ⟨XS.aloadN X.here hx rfl (hb hby hd) hl hv q.1, q.2⟩
theorem g_aload (X : Stand p l e R s m args below meth c T locs cells slots) (hx : p.tables.exec = Jvm.exec) (hby : c.code = code) {k : Nat} {v : Value} (hd : Ins1 code pc (.aload k) 2 pn) (hl : Ls[k]? = some (.val v)) (hv : v.isRef = true) (k : Gd p e below P T (mkF m pn Ls (v :: st))) : Gd p e below P T (mkF m pc Ls (st)) := by
  obtain ⟨hd, rfl⟩ := hd
  exact k.imp fun t q => ⟨XS.aload X.here hx rfl (hb hby hd) hl hv q.1, q.2⟩
theorem g_astoreN (X : Stand p l e R s m args below meth c T locs cells slots) (hx : p.tables.exec = Jvm.exec) (hby : c.code = code) {k : Fin 4} {v : Value} {l' : Array Slot} (hd : Ins1 code pc (.astore_n k) 1 pn) (hv : v.isRef = true) (hl : storeLocals Ls k.val v = some l') (k : Gd p e below P T (mkF m pn l' (st))) : Gd p e below P T (mkF m pc Ls (v :: st)) := by
  obtain ⟨hd, rfl⟩ := hd
  exact k.imp fun t q => ⟨XS.astoreN X.here hx rfl (hb hby hd) rfl hv hl q.1, q.2⟩
theorem g_astore (X : Stand p l e R s m args below meth c T locs cells slots) (hx : p.tables.exec = Jvm.exec) (hby : c.code = code) {k : Nat} {v : Value} {l' : Array Slot} (hd : Ins1 code pc (.astore k) 2 pn) (hv : v.isRef = true) (hl : storeLocals Ls k v = some l') (k : Gd p e below P T (mkF m pn l' (st))) : Gd p e below P T (mkF m pc Ls (v :: st)) := by
  obtain ⟨hd, rfl⟩ := hd
  exact k.imp fun t q => ⟨XS.astore X.here hx rfl (hb hby hd) rfl hv hl q.1, q.2⟩
theorem g_istoreNW (X : Stand p l e R s m args below meth c T locs cells slots) (hx : p.tables.exec = Jvm.exec) (hby : c.code = code) {k : Fin 4} {v : Int32} {l' : Int32 → Array Slot} (hd : Ins1 code pc (.istore_n k) 1 pn) (hl : ∀ w, storeLocals Ls k.val (.int w) = some (l' w)) (k : ∀ w, w = v → Gd p e below P T (mkF m pn (l' w) st)) : Gd p e below P T (mkF m pc Ls (.int v :: st)) := g_istoreN X hx hby hd (hl v) (k v rfl)
theorem g_istoreW (X : Stand p l e R s m args below meth c T locs cells slots) (hx : p.tables.exec = Jvm.exec) (hby : c.code = code) {k : Nat} {v : Int32} {l' : Int32 → Array Slot} (hd : Ins1 code pc (.istore k) 2 pn) (hl : ∀ w, storeLocals Ls k (.int w) = some (l' w)) (k : ∀ w, w = v → Gd p e below P T (mkF m pn (l' w) st)) : Gd p e below P T (mkF m pc Ls (.int v :: st)) := g_istore X hx hby hd (hl v) (k v rfl)
theorem g_lstoreNW (X : Stand p l e R s m args below meth c T locs cells slots) (hx : p.tables.exec = Jvm.exec) (hby : c.code = code) {k : Fin 4} {v : Int64} {l' : Int64 → Array Slot} (hd : Ins1 code pc (.lstore_n k) 1 pn) (hl : ∀ w, storeLocals Ls k.val (.long w) = some (l' w)) (k : ∀ w, w = v → Gd p e below P T (mkF m pn (l' w) st)) : Gd p e below P T (mkF m pc Ls (.long v :: st)) := g_lstoreN X hx hby hd (hl v) (k v rfl)
theorem g_lstoreW (X : Stand p l e R s m args below meth c T locs cells slots) (hx : p.tables.exec = Jvm.exec) (hby : c.code = code) {k : Nat} {v : Int64} {l' : Int64 → Array Slot} (hd : Ins1 code pc (.lstore k) 2 pn) (hl : ∀ w, storeLocals Ls k (.long w) = some (l' w)) (k : ∀ w, w = v → Gd p e below P T (mkF m pn (l' w) st)) : Gd p e below P T (mkF m pc Ls (.long v :: st)) := g_lstore X hx hby hd (hl v) (k v rfl)
theorem g_iconst (X : Stand p l e R s m args below meth c T locs cells slots) (hx : p.tables.exec = Jvm.exec) (hby : c.code = code) {i : Int} {z : Int32} (hd : Ins1 code pc (.iconst i) 1 pn) (hz : Int32.ofInt i = z) (k : Gd p e below P T (mkF m pn Ls (.int z :: st))) : Gd p e below P T (mkF m pc Ls st) := by
  obtain ⟨hd, rfl⟩ := hd
  subst hz
  exact k.imp fun t q => ⟨XS.iconst X.here hx rfl (hb hby hd) q.1, q.2⟩
theorem g_bipush (X : Stand p l e R s m args below meth c T locs cells slots) (hx : p.tables.exec = Jvm.exec) (hby : c.code = code) {i : Int} {z : Int32} (hd : Ins1 code pc (.bipush i) 2 pn) (hz : (Int8.ofInt i).toInt32 = z) (k : Gd p e below P T (mkF m pn Ls (.int z :: st))) : Gd p e below P T (mkF m pc Ls st) := by
  obtain ⟨hd, rfl⟩ := hd
  subst hz
  exact k.imp fun t q => ⟨XS.bipush X.here hx rfl (hb hby hd) q.1, q.2⟩
theorem g_sipush (X : Stand p l e R s m args below meth c T locs cells slots) (hx : p.tables.exec = Jvm.exec) (hby : c.code = code) {i : Int} {z : Int32} (hd : Ins1 code pc (.sipush i) 3 pn) (hz : (Int16.ofInt i).toInt32 = z) (k : Gd p e below P T (mkF m pn Ls (.int z :: st))) : Gd p e below P T (mkF m pc Ls st) := by
  obtain ⟨hd, rfl⟩ := hd
  subst hz
  exact k.imp fun t q => ⟨XS.sipush X.here hx rfl (hb hby hd) q.1, q.2⟩
theorem g_lconst (X : Stand p l e R s m args below meth c T locs cells slots) (hx : p.tables.exec = Jvm.exec) (hby : c.code = code) {i : Fin 2} {z : Int64} (hd : Ins1 code pc (.lconst i) 1 pn) (hz : Int64.ofNat i = z) (k : Gd p e below P T (mkF m pn Ls (.long z :: st))) : Gd p e below P T (mkF m pc Ls st) := by
  obtain ⟨hd, rfl⟩ := hd
  subst hz
  exact k.imp fun t q => ⟨XS.lconst X.here hx rfl (hb hby hd) q.1, q.2⟩
theorem g_aconst_null (X : Stand p l e R s m args below meth c T locs cells slots) (hx : p.tables.exec = Jvm.exec) (hby : c.code = code)  (hd : Ins1 code pc (.aconst_null) 1 pn) (k : Gd p e below P T (mkF m pn Ls (.null :: st))) : Gd p e below P T (mkF m pc Ls (st)) := by
  obtain ⟨hd, rfl⟩ := hd
  exact k.imp fun t q => ⟨XS.aconstNull X.here hx rfl (hb hby hd)  q.1, q.2⟩
theorem g_iadd (X : Stand p l e R s m args below meth c T locs cells slots) (hx : p.tables.exec = Jvm.exec) (hby : c.code = code) {x y : Int32} (hd : Ins1 code pc (.iadd) 1 pn) (k : Gd p e below P T (mkF m pn Ls (.int (x + y) :: st))) : Gd p e below P T (mkF m pc Ls (.int y :: .int x :: st)) := by
  obtain ⟨hd, rfl⟩ := hd
  exact k.imp fun t q => ⟨XS.iadd X.here hx rfl (hb hby hd) rfl q.1, q.2⟩
theorem g_isub (X : Stand p l e R s m args below meth c T locs cells slots) (hx : p.tables.exec = Jvm.exec) (hby : c.code = code) {x y : Int32} (hd : Ins1 code pc (.isub) 1 pn) (k : Gd p e below P T (mkF m pn Ls (.int (x - y) :: st))) : Gd p e below P T (mkF m pc Ls (.int y :: .int x :: st)) := by
  obtain ⟨hd, rfl⟩ := hd
  exact k.imp fun t q => ⟨XS.isub X.here hx rfl (hb hby hd) rfl q.1, q.2⟩
theorem g_imul (X : Stand p l e R s m args below meth c T locs cells slots) (hx : p.tables.exec = Jvm.exec) (hby : c.code = code) {x y : Int32} (hd : Ins1 code pc (.imul) 1 pn) (k : Gd p e below P T (mkF m pn Ls (.int (x * y) :: st))) : Gd p e below P T (mkF m pc Ls (.int y :: .int x :: st)) := by
  obtain ⟨hd, rfl⟩ := hd
  exact k.imp fun t q => ⟨XS.imul X.here hx rfl (hb hby hd) rfl q.1, q.2⟩
theorem g_iand (X : Stand p l e R s m args below meth c T locs cells slots) (hx : p.tables.exec = Jvm.exec) (hby : c.code = code) {x y : Int32} (hd : Ins1 code pc (.iand) 1 pn) (k : Gd p e below P T (mkF m pn Ls (.int (x &&& y) :: st))) : Gd p e below P T (mkF m pc Ls (.int y :: .int x :: st)) := by
  obtain ⟨hd, rfl⟩ := hd
  exact k.imp fun t q => ⟨XS.iand X.here hx rfl (hb hby hd) rfl q.1, q.2⟩
theorem g_ior (X : Stand p l e R s m args below meth c T locs cells slots) (hx : p.tables.exec = Jvm.exec) (hby : c.code = code) {x y : Int32} (hd : Ins1 code pc (.ior) 1 pn) (k : Gd p e below P T (mkF m pn Ls (.int (x ||| y) :: st))) : Gd p e below P T (mkF m pc Ls (.int y :: .int x :: st)) := by
  obtain ⟨hd, rfl⟩ := hd
  exact k.imp fun t q => ⟨XS.ior X.here hx rfl (hb hby hd) rfl q.1, q.2⟩
theorem g_ixor (X : Stand p l e R s m args below meth c T locs cells slots) (hx : p.tables.exec = Jvm.exec) (hby : c.code = code) {x y : Int32} (hd : Ins1 code pc (.ixor) 1 pn) (k : Gd p e below P T (mkF m pn Ls (.int (x ^^^ y) :: st))) : Gd p e below P T (mkF m pc Ls (.int y :: .int x :: st)) := by
  obtain ⟨hd, rfl⟩ := hd
  exact k.imp fun t q => ⟨XS.ixor X.here hx rfl (hb hby hd) rfl q.1, q.2⟩
theorem g_ladd (X : Stand p l e R s m args below meth c T locs cells slots) (hx : p.tables.exec = Jvm.exec) (hby : c.code = code) {x y : Int64} (hd : Ins1 code pc (.ladd) 1 pn) (k : Gd p e below P T (mkF m pn Ls (.long (x + y) :: st))) : Gd p e below P T (mkF m pc Ls (.long y :: .long x :: st)) := by
  obtain ⟨hd, rfl⟩ := hd
  exact k.imp fun t q => ⟨XS.ladd X.here hx rfl (hb hby hd) rfl q.1, q.2⟩
theorem g_lsub (X : Stand p l e R s m args below meth c T locs cells slots) (hx : p.tables.exec = Jvm.exec) (hby : c.code = code) {x y : Int64} (hd : Ins1 code pc (.lsub) 1 pn) (k : Gd p e below P T (mkF m pn Ls (.long (x - y) :: st))) : Gd p e below P T (mkF m pc Ls (.long y :: .long x :: st)) := by
  obtain ⟨hd, rfl⟩ := hd
  exact k.imp fun t q => ⟨XS.lsub X.here hx rfl (hb hby hd) rfl q.1, q.2⟩
theorem g_lmul (X : Stand p l e R s m args below meth c T locs cells slots) (hx : p.tables.exec = Jvm.exec) (hby : c.code = code) {x y : Int64} (hd : Ins1 code pc (.lmul) 1 pn) (k : Gd p e below P T (mkF m pn Ls (.long (x * y) :: st))) : Gd p e below P T (mkF m pc Ls (.long y :: .long x :: st)) := by
  obtain ⟨hd, rfl⟩ := hd
  exact k.imp fun t q => ⟨XS.lmul X.here hx rfl (hb hby hd) rfl q.1, q.2⟩
theorem g_land (X : Stand p l e R s m args below meth c T locs cells slots) (hx : p.tables.exec = Jvm.exec) (hby : c.code = code) {x y : Int64} (hd : Ins1 code pc (.land) 1 pn) (k : Gd p e below P T (mkF m pn Ls (.long (x &&& y) :: st))) : Gd p e below P T (mkF m pc Ls (.long y :: .long x :: st)) := by
  obtain ⟨hd, rfl⟩ := hd
  exact k.imp fun t q => ⟨XS.land X.here hx rfl (hb hby hd) rfl q.1, q.2⟩
theorem g_lor (X : Stand p l e R s m args below meth c T locs cells slots) (hx : p.tables.exec = Jvm.exec) (hby : c.code = code) {x y : Int64} (hd : Ins1 code pc (.lor) 1 pn) (k : Gd p e below P T (mkF m pn Ls (.long (x ||| y) :: st))) : Gd p e below P T (mkF m pc Ls (.long y :: .long x :: st)) := by
  obtain ⟨hd, rfl⟩ := hd
  exact k.imp fun t q => ⟨XS.lor X.here hx rfl (hb hby hd) rfl q.1, q.2⟩
theorem g_lxor (X : Stand p l e R s m args below meth c T locs cells slots) (hx : p.tables.exec = Jvm.exec) (hby : c.code = code) {x y : Int64} (hd : Ins1 code pc (.lxor) 1 pn) (k : Gd p e below P T (mkF m pn Ls (.long (x ^^^ y) :: st))) : Gd p e below P T (mkF m pc Ls (.long y :: .long x :: st)) := by
  obtain ⟨hd, rfl⟩ := hd
  exact k.imp fun t q => ⟨XS.lxor X.here hx rfl (hb hby hd) rfl q.1, q.2⟩
theorem g_ishl (X : Stand p l e R s m args below meth c T locs cells slots) (hx : p.tables.exec = Jvm.exec) (hby : c.code = code) {x : Int32} {y : Int32} (hd : Ins1 code pc (.ishl) 1 pn) (k : Gd p e below P T (mkF m pn Ls (.int (x <<< (y &&& 31)) :: st))) : Gd p e below P T (mkF m pc Ls (.int y :: .int x :: st)) := by
  obtain ⟨hd, rfl⟩ := hd
  exact k.imp fun t q => ⟨XS.ishl X.here hx rfl (hb hby hd) rfl q.1, q.2⟩
theorem g_ishr (X : Stand p l e R s m args below meth c T locs cells slots) (hx : p.tables.exec = Jvm.exec) (hby : c.code = code) {x : Int32} {y : Int32} (hd : Ins1 code pc (.ishr) 1 pn) (k : Gd p e below P T (mkF m pn Ls (.int (x >>> (y &&& 31)) :: st))) : Gd p e below P T (mkF m pc Ls (.int y :: .int x :: st)) := by
  obtain ⟨hd, rfl⟩ := hd
  exact k.imp fun t q => ⟨XS.ishr X.here hx rfl (hb hby hd) rfl q.1, q.2⟩
theorem g_iushr (X : Stand p l e R s m args below meth c T locs cells slots) (hx : p.tables.exec = Jvm.exec) (hby : c.code = code) {x : Int32} {y : Int32} (hd : Ins1 code pc (.iushr) 1 pn) (k : Gd p e below P T (mkF m pn Ls (.int ((x.toUInt32 >>> (y &&& 31).toUInt32).toInt32) :: st))) : Gd p e below P T (mkF m pc Ls (.int y :: .int x :: st)) := by
  obtain ⟨hd, rfl⟩ := hd
  exact k.imp fun t q => ⟨XS.iushr X.here hx rfl (hb hby hd) rfl q.1, q.2⟩
theorem g_lshl (X : Stand p l e R s m args below meth c T locs cells slots) (hx : p.tables.exec = Jvm.exec) (hby : c.code = code) {x : Int64} {y : Int32} (hd : Ins1 code pc (.lshl) 1 pn) (k : Gd p e below P T (mkF m pn Ls (.long (x <<< (y &&& 0x3f).toInt64) :: st))) : Gd p e below P T (mkF m pc Ls (.int y :: .long x :: st)) := by
  obtain ⟨hd, rfl⟩ := hd
  exact k.imp fun t q => ⟨XS.lshl X.here hx rfl (hb hby hd) rfl q.1, q.2⟩
theorem g_lshr (X : Stand p l e R s m args below meth c T locs cells slots) (hx : p.tables.exec = Jvm.exec) (hby : c.code = code) {x : Int64} {y : Int32} (hd : Ins1 code pc (.lshr) 1 pn) (k : Gd p e below P T (mkF m pn Ls (.long (x >>> (y &&& 0x3f).toInt64) :: st))) : Gd p e below P T (mkF m pc Ls (.int y :: .long x :: st)) := by
  obtain ⟨hd, rfl⟩ := hd
  exact k.imp fun t q => ⟨XS.lshr X.here hx rfl (hb hby hd) rfl q.1, q.2⟩
theorem g_lushr (X : Stand p l e R s m args below meth c T locs cells slots) (hx : p.tables.exec = Jvm.exec) (hby : c.code = code) {x : Int64} {y : Int32} (hd : Ins1 code pc (.lushr) 1 pn) (k : Gd p e below P T (mkF m pn Ls (.long ((x.toUInt64 >>> (y &&& 0x3f).toInt64.toUInt64).toInt64) :: st))) : Gd p e below P T (mkF m pc Ls (.int y :: .long x :: st)) := by
  obtain ⟨hd, rfl⟩ := hd
  exact k.imp fun t q => ⟨XS.lushr X.here hx rfl (hb hby hd) rfl q.1, q.2⟩
theorem g_ineg (X : Stand p l e R s m args below meth c T locs cells slots) (hx : p.tables.exec = Jvm.exec) (hby : c.code = code) {x : Int32} (hd : Ins1 code pc (.ineg) 1 pn) (k : Gd p e below P T (mkF m pn Ls (.int (-x) :: st))) : Gd p e below P T (mkF m pc Ls (.int x :: st)) := by
  obtain ⟨hd, rfl⟩ := hd
  exact k.imp fun t q => ⟨XS.ineg X.here hx rfl (hb hby hd) rfl q.1, q.2⟩
theorem g_lneg (X : Stand p l e R s m args below meth c T locs cells slots) (hx : p.tables.exec = Jvm.exec) (hby : c.code = code) {x : Int64} (hd : Ins1 code pc (.lneg) 1 pn) (k : Gd p e below P T (mkF m pn Ls (.long (-x) :: st))) : Gd p e below P T (mkF m pc Ls (.long x :: st)) := by
  obtain ⟨hd, rfl⟩ := hd
  exact k.imp fun t q => ⟨XS.lneg X.here hx rfl (hb hby hd) rfl q.1, q.2⟩
theorem g_i2l (X : Stand p l e R s m args below meth c T locs cells slots) (hx : p.tables.exec = Jvm.exec) (hby : c.code = code) {x : Int32} (hd : Ins1 code pc (.i2l) 1 pn) (k : Gd p e below P T (mkF m pn Ls (.long x.toInt64 :: st))) : Gd p e below P T (mkF m pc Ls (.int x :: st)) := by
  obtain ⟨hd, rfl⟩ := hd
  exact k.imp fun t q => ⟨XS.i2l X.here hx rfl (hb hby hd) rfl q.1, q.2⟩
theorem g_l2i (X : Stand p l e R s m args below meth c T locs cells slots) (hx : p.tables.exec = Jvm.exec) (hby : c.code = code) {x : Int64} (hd : Ins1 code pc (.l2i) 1 pn) (k : Gd p e below P T (mkF m pn Ls (.int x.toInt32 :: st))) : Gd p e below P T (mkF m pc Ls (.long x :: st)) := by
  obtain ⟨hd, rfl⟩ := hd
  exact k.imp fun t q => ⟨XS.l2i X.here hx rfl (hb hby hd) rfl q.1, q.2⟩
theorem g_i2b (X : Stand p l e R s m args below meth c T locs cells slots) (hx : p.tables.exec = Jvm.exec) (hby : c.code = code) {x : Int32} (hd : Ins1 code pc (.i2b) 1 pn) (k : Gd p e below P T (mkF m pn Ls (.int x.toInt8.toInt32 :: st))) : Gd p e below P T (mkF m pc Ls (.int x :: st)) := by
  obtain ⟨hd, rfl⟩ := hd
  exact k.imp fun t q => ⟨XS.i2b X.here hx rfl (hb hby hd) rfl q.1, q.2⟩
theorem g_i2s (X : Stand p l e R s m args below meth c T locs cells slots) (hx : p.tables.exec = Jvm.exec) (hby : c.code = code) {x : Int32} (hd : Ins1 code pc (.i2s) 1 pn) (k : Gd p e below P T (mkF m pn Ls (.int x.toInt16.toInt32 :: st))) : Gd p e below P T (mkF m pc Ls (.int x :: st)) := by
  obtain ⟨hd, rfl⟩ := hd
  exact k.imp fun t q => ⟨XS.i2s X.here hx rfl (hb hby hd) rfl q.1, q.2⟩
theorem g_i2c (X : Stand p l e R s m args below meth c T locs cells slots) (hx : p.tables.exec = Jvm.exec) (hby : c.code = code) {x : Int32} (hd : Ins1 code pc (.i2c) 1 pn) (k : Gd p e below P T (mkF m pn Ls (.int x.toUInt32.toUInt16.toUInt32.toInt32 :: st))) : Gd p e below P T (mkF m pc Ls (.int x :: st)) := by
  obtain ⟨hd, rfl⟩ := hd
  exact k.imp fun t q => ⟨XS.i2c X.here hx rfl (hb hby hd) rfl q.1, q.2⟩
theorem g_idiv (X : Stand p l e R s m args below meth c T locs cells slots) (hx : p.tables.exec = Jvm.exec) (hby : c.code = code) {x y : Int32} (hd : Ins1 code pc (.idiv) 1 pn) (hy : y ≠ 0) (k : Gd p e below P T (mkF m pn Ls (.int (x / y) :: st))) : Gd p e below P T (mkF m pc Ls (.int y :: .int x :: st)) := by
  obtain ⟨hd, rfl⟩ := hd
  exact k.imp fun t q => ⟨XS.idiv X.here hx rfl (hb hby hd) rfl hy q.1, q.2⟩
theorem g_ldiv (X : Stand p l e R s m args below meth c T locs cells slots) (hx : p.tables.exec = Jvm.exec) (hby : c.code = code) {x y : Int64} (hd : Ins1 code pc (.ldiv) 1 pn) (hy : y ≠ 0) (k : Gd p e below P T (mkF m pn Ls (.long (x / y) :: st))) : Gd p e below P T (mkF m pc Ls (.long y :: .long x :: st)) := by
  obtain ⟨hd, rfl⟩ := hd
  exact k.imp fun t q => ⟨XS.ldiv X.here hx rfl (hb hby hd) rfl hy q.1, q.2⟩
theorem g_lrem (X : Stand p l e R s m args below meth c T locs cells slots) (hx : p.tables.exec = Jvm.exec) (hby : c.code = code) {x y : Int64} (hd : Ins1 code pc (.lrem) 1 pn) (hy : y ≠ 0) (k : Gd p e below P T (mkF m pn Ls (.long (x - (x / y) * y) :: st))) : Gd p e below P T (mkF m pc Ls (.long y :: .long x :: st)) := by
  obtain ⟨hd, rfl⟩ := hd
  exact k.imp fun t q => ⟨XS.lrem X.here hx rfl (hb hby hd) rfl hy q.1, q.2⟩
theorem g_irem (X : Stand p l e R s m args below meth c T locs cells slots) (hx : p.tables.exec = Jvm.exec) (hby : c.code = code) {x y : Int32} (hd : Ins1 code pc .irem 1 pn) (hy : y ≠ 0) (k : Gd p e below P T (mkF m pn Ls (.int (x % y) :: st))) : Gd p e below P T (mkF m pc Ls (.int y :: .int x :: st)) := by
  obtain ⟨hd, rfl⟩ := hd
  exact k.imp fun t q => ⟨iremM X hx rfl (hb hby hd) rfl hy q.1, q.2⟩
theorem g_iinc (X : Stand p l e R s m args below meth c T locs cells slots) (hx : p.tables.exec = Jvm.exec) (hby : c.code = code) {j : Nat} {i : Int} {x z : Int32} {l' : Array Slot} (hd : Ins1 code pc (.iinc j i) 3 pn) (hl : Ls[j]? = some (.val (.int x))) (hz : x + Int32.ofInt i = z) (hs : storeLocals Ls j (.int z) = some l') (k : Gd p e below P T (mkF m pn l' st)) : Gd p e below P T (mkF m pc Ls st) := by
  obtain ⟨hd, rfl⟩ := hd
  subst hz
  exact k.imp fun t q => ⟨XS.iinc X.here hx rfl (hb hby hd) hl hs q.1, q.2⟩
theorem g_dup (X : Stand p l e R s m args below meth c T locs cells slots) (hx : p.tables.exec = Jvm.exec) (hby : c.code = code) {x : Value} (hd : Ins1 code pc (.dup) 1 pn) (hc : x.category = 1) (k : Gd p e below P T (mkF m pn Ls (x :: x :: st))) : Gd p e below P T (mkF m pc Ls (x :: st)) := by
  obtain ⟨hd, rfl⟩ := hd
  exact k.imp fun t q => ⟨XS.dup X.here hx rfl (hb hby hd) rfl hc q.1, q.2⟩
theorem g_dup2 (X : Stand p l e R s m args below meth c T locs cells slots) (hx : p.tables.exec = Jvm.exec) (hby : c.code = code) {x y : Value} (hd : Ins1 code pc (.dup2) 1 pn) (hc : x.category = 1) (hc2 : y.category = 1) (k : Gd p e below P T (mkF m pn Ls (x :: y :: x :: y :: st))) : Gd p e below P T (mkF m pc Ls (x :: y :: st)) := by
  obtain ⟨hd, rfl⟩ := hd
  exact k.imp fun t q => ⟨XT.dup2 X.here hx rfl (hb hby hd) rfl hc hc2 q.1, q.2⟩
theorem g_dup2L (X : Stand p l e R s m args below meth c T locs cells slots) (hx : p.tables.exec = Jvm.exec) (hby : c.code = code) {x : Int64} (hd : Ins1 code pc (.dup2) 1 pn) (k : Gd p e below P T (mkF m pn Ls (.long x :: .long x :: st))) : Gd p e below P T (mkF m pc Ls (.long x :: st)) := by
  obtain ⟨hd, rfl⟩ := hd
  exact k.imp fun t q => ⟨XT.dup2L X.here hx rfl (hb hby hd) rfl q.1, q.2⟩
theorem g_pop (X : Stand p l e R s m args below meth c T locs cells slots) (hx : p.tables.exec = Jvm.exec) (hby : c.code = code) {x : Value} (hd : Ins1 code pc (.pop) 1 pn) (hc : x.category = 1) (k : Gd p e below P T (mkF m pn Ls (st))) : Gd p e below P T (mkF m pc Ls (x :: st)) := by
  obtain ⟨hd, rfl⟩ := hd
  exact k.imp fun t q => ⟨XS.pop X.here hx rfl (hb hby hd) rfl hc q.1, q.2⟩
theorem g_dup_x1 (X : Stand p l e R s m args below meth c T locs cells slots) (hx : p.tables.exec = Jvm.exec) (hby : c.code = code) {x y : Value} (hd : Ins1 code pc (.dup_x1) 1 pn) (hc : x.category = 1) (hc2 : y.category = 1) (k : Gd p e below P T (mkF m pn Ls (x :: y :: x :: st))) : Gd p e below P T (mkF m pc Ls (x :: y :: st)) := by
  obtain ⟨hd, rfl⟩ := hd
  exact k.imp fun t q => ⟨XS.dupX1 X.here hx rfl (hb hby hd) rfl hc hc2 q.1, q.2⟩
theorem g_i2d (X : Stand p l e R s m args below meth c T locs cells slots) (hx : p.tables.exec = Jvm.exec) (hby : c.code = code) {x : Int32} (hd : Ins1 code pc (.i2d) 1 pn) (k : Gd p e below P T (mkF m pn Ls (.double (FP.i2d x) :: st))) : Gd p e below P T (mkF m pc Ls (.int x :: st)) := by
  obtain ⟨hd, rfl⟩ := hd
  exact k.imp fun t q => ⟨XS.i2dS X.here hx rfl (hb hby hd) rfl rfl q.1, q.2⟩
theorem g_l2d (X : Stand p l e R s m args below meth c T locs cells slots) (hx : p.tables.exec = Jvm.exec) (hby : c.code = code) {x : Int64} (hd : Ins1 code pc (.l2d) 1 pn) (k : Gd p e below P T (mkF m pn Ls (.double (FP.l2d x) :: st))) : Gd p e below P T (mkF m pc Ls (.long x :: st)) := by
  obtain ⟨hd, rfl⟩ := hd
  exact k.imp fun t q => ⟨XS.l2dS X.here hx rfl (hb hby hd) rfl rfl q.1, q.2⟩
theorem g_ddiv (X : Stand p l e R s m args below meth c T locs cells slots) (hx : p.tables.exec = Jvm.exec) (hby : c.code = code) {x y : UInt64} (hd : Ins1 code pc (.ddiv) 1 pn) (hn : Jvm.Free.Fl.NoNaN64 (FP.ddiv x y)) (k : Gd p e below P T (mkF m pn Ls (.double (FP.ddiv x y) :: st))) : Gd p e below P T (mkF m pc Ls (.double y :: .double x :: st)) := by
  obtain ⟨hd, rfl⟩ := hd
  exact k.imp fun t q => ⟨XS.ddivS X.here hx rfl (hb hby hd) rfl hn rfl q.1, q.2⟩
theorem g_dcmp (X : Stand p l e R s m args below meth c T locs cells slots) (hx : p.tables.exec = Jvm.exec) (hby : c.code = code) {x y : UInt64} {o : CmpOp} (hd : Ins1 code pc (.dcmp o) 1 pn) (k : Gd p e below P T (mkF m pn Ls (.int (cmpValue (FP.dcmp x y) o) :: st))) : Gd p e below P T (mkF m pc Ls (.double y :: .double x :: st)) := by
  obtain ⟨hd, rfl⟩ := hd
  exact k.imp fun t q => ⟨XS.dcmpS X.here hx rfl (hb hby hd) rfl rfl q.1, q.2⟩
theorem g_dconst0 (X : Stand p l e R s m args below meth c T locs cells slots) (hx : p.tables.exec = Jvm.exec) (hby : c.code = code)  (hd : Ins1 code pc (.dconst 0) 1 pn) (k : Gd p e below P T (mkF m pn Ls (.double FP.dconst0 :: st))) : Gd p e below P T (mkF m pc Ls (st)) := by
  obtain ⟨hd, rfl⟩ := hd
  exact k.imp fun t q => ⟨XS.dconst0 X.here hx rfl (hb hby hd) rfl q.1, q.2⟩
theorem g_dconst1 (X : Stand p l e R s m args below meth c T locs cells slots) (hx : p.tables.exec = Jvm.exec) (hby : c.code = code)  (hd : Ins1 code pc (.dconst 1) 1 pn) (k : Gd p e below P T (mkF m pn Ls (.double FP.dconst1 :: st))) : Gd p e below P T (mkF m pc Ls (st)) := by
  obtain ⟨hd, rfl⟩ := hd
  exact k.imp fun t q => ⟨XS.dconst1 X.here hx rfl (hb hby hd) rfl q.1, q.2⟩
theorem g_lcmp (X : Stand p l e R s m args below meth c T locs cells slots) (hx : p.tables.exec = Jvm.exec) (hby : c.code = code) {x y : Int64} (hd : Ins1 code pc (.lcmp) 1 pn) (k : Gd p e below P T (mkF m pn Ls (.int (lcmpW x y) :: st))) : Gd p e below P T (mkF m pc Ls (.long y :: .long x :: st)) := by
  obtain ⟨hd, rfl⟩ := hd
  exact k.imp fun t q => ⟨XS.lcmp X.here hx rfl (hb hby hd) rfl q.1, q.2⟩
theorem g_goto (X : Stand p l e R s m args below meth c T locs cells slots) (hx : p.tables.exec = Jvm.exec) (hby : c.code = code) {o : Int} (hd : InsB code pc (.goto o) o pn pt) (k : Gd p e below P T (mkF m pt Ls st)) : Gd p e below P T (mkF m pc Ls st) := by
  obtain ⟨hd, -, ho, hp⟩ := hd
  exact k.imp fun t q => ⟨XS.goto X.here hx rfl rfl (hb hby hd) ho hp q.1, q.2⟩
theorem g_icmp_lt (X : Stand p l e R s m args below meth c T locs cells slots) (hx : p.tables.exec = Jvm.exec) (hby : c.code = code) {x y : Int32} {o : Int} (hd : InsB code pc (.if_icmp .lt o) o pn pt) (ky : x < y → Gd p e below P T (mkF m pt Ls st)) (kn : ¬ x < y → Gd p e below P T (mkF m pn Ls st)) : Gd p e below P T (mkF m pc Ls (.int y :: .int x :: st)) := by
  obtain ⟨hd, rfl, ho, hp⟩ := hd
  by_cases w : x < y
  · exact (ky w).imp fun t q => ⟨XS.icmpYes X.here hx rfl rfl (hb hby hd) rfl (tlt w).1 ho hp q.1, q.2⟩
  · exact (kn w).imp fun t q => ⟨XS.icmpNo X.here hx rfl (hb hby hd) rfl (flt w).1 q.1, q.2⟩
theorem g_if_lt (X : Stand p l e R s m args below meth c T locs cells slots) (hx : p.tables.exec = Jvm.exec) (hby : c.code = code) {x : Int32} {o : Int} (hd : InsB code pc (.ifCond .lt o) o pn pt) (ky : x < 0 → Gd p e below P T (mkF m pt Ls st)) (kn : ¬ x < 0 → Gd p e below P T (mkF m pn Ls st)) : Gd p e below P T (mkF m pc Ls (.int x :: st)) := by
  obtain ⟨hd, rfl, ho, hp⟩ := hd
  by_cases w : x < 0
  · exact (ky w).imp fun t q => ⟨XS.ifYes X.here hx rfl rfl (hb hby hd) rfl ((if0 _ _).trans (tlt w).1) ho hp q.1, q.2⟩
  · exact (kn w).imp fun t q => ⟨XS.ifNo X.here hx rfl (hb hby hd) rfl ((if0 _ _).trans (flt w).1) q.1, q.2⟩
theorem g_lcmp_lt (X : Stand p l e R s m args below meth c T locs cells slots) (hx : p.tables.exec = Jvm.exec) (hby : c.code = code) {x y : Int64} {o : Int} {pc1 : Nat} (hc : Ins1 code pc .lcmp 1 pc1) (hd : InsB code pc1 (.ifCond .lt o) o pn pt) (ky : x < y → Gd p e below P T (mkF m pt Ls st)) (kn : ¬ x < y → Gd p e below P T (mkF m pn Ls st)) : Gd p e below P T (mkF m pc Ls (.long y :: .long x :: st)) :=
  g_lcmp X hx hby hc (g_if_lt X hx hby hd (fun w => ky ((lw_lt x y).mp w)) (fun w => kn (fun q => w ((lw_lt x y).mpr q))))
theorem g_icmp_ge (X : Stand p l e R s m args below meth c T locs cells slots) (hx : p.tables.exec = Jvm.exec) (hby : c.code = code) {x y : Int32} {o : Int} (hd : InsB code pc (.if_icmp .ge o) o pn pt) (ky : ¬ x < y → Gd p e below P T (mkF m pt Ls st)) (kn : x < y → Gd p e below P T (mkF m pn Ls st)) : Gd p e below P T (mkF m pc Ls (.int y :: .int x :: st)) := by
  obtain ⟨hd, rfl, ho, hp⟩ := hd
  by_cases w : x < y
  · exact (kn w).imp fun t q => ⟨XS.icmpNo X.here hx rfl (hb hby hd) rfl (tlt w).2.1 q.1, q.2⟩
  · exact (ky w).imp fun t q => ⟨XS.icmpYes X.here hx rfl rfl (hb hby hd) rfl (flt w).2.1 ho hp q.1, q.2⟩
theorem g_if_ge (X : Stand p l e R s m args below meth c T locs cells slots) (hx : p.tables.exec = Jvm.exec) (hby : c.code = code) {x : Int32} {o : Int} (hd : InsB code pc (.ifCond .ge o) o pn pt) (ky : ¬ x < 0 → Gd p e below P T (mkF m pt Ls st)) (kn : x < 0 → Gd p e below P T (mkF m pn Ls st)) : Gd p e below P T (mkF m pc Ls (.int x :: st)) := by
  obtain ⟨hd, rfl, ho, hp⟩ := hd
  by_cases w : x < 0
  · exact (kn w).imp fun t q => ⟨XS.ifNo X.here hx rfl (hb hby hd) rfl ((if0 _ _).trans (tlt w).2.1) q.1, q.2⟩
  · exact (ky w).imp fun t q => ⟨XS.ifYes X.here hx rfl rfl (hb hby hd) rfl ((if0 _ _).trans (flt w).2.1) ho hp q.1, q.2⟩
theorem g_lcmp_ge (X : Stand p l e R s m args below meth c T locs cells slots) (hx : p.tables.exec = Jvm.exec) (hby : c.code = code) {x y : Int64} {o : Int} {pc1 : Nat} (hc : Ins1 code pc .lcmp 1 pc1) (hd : InsB code pc1 (.ifCond .ge o) o pn pt) (ky : ¬ x < y → Gd p e below P T (mkF m pt Ls st)) (kn : x < y → Gd p e below P T (mkF m pn Ls st)) : Gd p e below P T (mkF m pc Ls (.long y :: .long x :: st)) :=
  g_lcmp X hx hby hc (g_if_ge X hx hby hd (fun w => ky (fun q => w ((lw_lt x y).mpr q))) (fun w => kn ((lw_lt x y).mp w)))
theorem g_icmp_gt (X : Stand p l e R s m args below meth c T locs cells slots) (hx : p.tables.exec = Jvm.exec) (hby : c.code = code) {x y : Int32} {o : Int} (hd : InsB code pc (.if_icmp .gt o) o pn pt) (ky : y < x → Gd p e below P T (mkF m pt Ls st)) (kn : ¬ y < x → Gd p e below P T (mkF m pn Ls st)) : Gd p e below P T (mkF m pc Ls (.int y :: .int x :: st)) := by
  obtain ⟨hd, rfl, ho, hp⟩ := hd
  by_cases w : y < x
  · exact (ky w).imp fun t q => ⟨XS.icmpYes X.here hx rfl rfl (hb hby hd) rfl (tlt w).2.2.1 ho hp q.1, q.2⟩
  · exact (kn w).imp fun t q => ⟨XS.icmpNo X.here hx rfl (hb hby hd) rfl (flt w).2.2.1 q.1, q.2⟩
theorem g_if_gt (X : Stand p l e R s m args below meth c T locs cells slots) (hx : p.tables.exec = Jvm.exec) (hby : c.code = code) {x : Int32} {o : Int} (hd : InsB code pc (.ifCond .gt o) o pn pt) (ky : 0 < x → Gd p e below P T (mkF m pt Ls st)) (kn : ¬ 0 < x → Gd p e below P T (mkF m pn Ls st)) : Gd p e below P T (mkF m pc Ls (.int x :: st)) := by
  obtain ⟨hd, rfl, ho, hp⟩ := hd
  by_cases w : 0 < x
  · exact (ky w).imp fun t q => ⟨XS.ifYes X.here hx rfl rfl (hb hby hd) rfl ((if0 _ _).trans (tlt w).2.2.1) ho hp q.1, q.2⟩
  · exact (kn w).imp fun t q => ⟨XS.ifNo X.here hx rfl (hb hby hd) rfl ((if0 _ _).trans (flt w).2.2.1) q.1, q.2⟩
theorem g_lcmp_gt (X : Stand p l e R s m args below meth c T locs cells slots) (hx : p.tables.exec = Jvm.exec) (hby : c.code = code) {x y : Int64} {o : Int} {pc1 : Nat} (hc : Ins1 code pc .lcmp 1 pc1) (hd : InsB code pc1 (.ifCond .gt o) o pn pt) (ky : y < x → Gd p e below P T (mkF m pt Ls st)) (kn : ¬ y < x → Gd p e below P T (mkF m pn Ls st)) : Gd p e below P T (mkF m pc Ls (.long y :: .long x :: st)) :=
  g_lcmp X hx hby hc (g_if_gt X hx hby hd (fun w => ky ((lw_gt x y).mp w)) (fun w => kn (fun q => w ((lw_gt x y).mpr q))))
theorem g_icmp_le (X : Stand p l e R s m args below meth c T locs cells slots) (hx : p.tables.exec = Jvm.exec) (hby : c.code = code) {x y : Int32} {o : Int} (hd : InsB code pc (.if_icmp .le o) o pn pt) (ky : ¬ y < x → Gd p e below P T (mkF m pt Ls st)) (kn : y < x → Gd p e below P T (mkF m pn Ls st)) : Gd p e below P T (mkF m pc Ls (.int y :: .int x :: st)) := by
  obtain ⟨hd, rfl, ho, hp⟩ := hd
  by_cases w : y < x
  · exact (kn w).imp fun t q => ⟨XS.icmpNo X.here hx rfl (hb hby hd) rfl (tlt w).2.2.2 q.1, q.2⟩
  · exact (ky w).imp fun t q => ⟨XS.icmpYes X.here hx rfl rfl (hb hby hd) rfl (flt w).2.2.2 ho hp q.1, q.2⟩
theorem g_if_le (X : Stand p l e R s m args below meth c T locs cells slots) (hx : p.tables.exec = Jvm.exec) (hby : c.code = code) {x : Int32} {o : Int} (hd : InsB code pc (.ifCond .le o) o pn pt) (ky : ¬ 0 < x → Gd p e below P T (mkF m pt Ls st)) (kn : 0 < x → Gd p e below P T (mkF m pn Ls st)) : Gd p e below P T (mkF m pc Ls (.int x :: st)) := by
  obtain ⟨hd, rfl, ho, hp⟩ := hd
  by_cases w : 0 < x
  · exact (kn w).imp fun t q => ⟨XS.ifNo X.here hx rfl (hb hby hd) rfl ((if0 _ _).trans (tlt w).2.2.2) q.1, q.2⟩
  · exact (ky w).imp fun t q => ⟨XS.ifYes X.here hx rfl rfl (hb hby hd) rfl ((if0 _ _).trans (flt w).2.2.2) ho hp q.1, q.2⟩
theorem g_lcmp_le (X : Stand p l e R s m args below meth c T locs cells slots) (hx : p.tables.exec = Jvm.exec) (hby : c.code = code) {x y : Int64} {o : Int} {pc1 : Nat} (hc : Ins1 code pc .lcmp 1 pc1) (hd : InsB code pc1 (.ifCond .le o) o pn pt) (ky : ¬ y < x → Gd p e below P T (mkF m pt Ls st)) (kn : y < x → Gd p e below P T (mkF m pn Ls st)) : Gd p e below P T (mkF m pc Ls (.long y :: .long x :: st)) :=
  g_lcmp X hx hby hc (g_if_le X hx hby hd (fun w => ky (fun q => w ((lw_gt x y).mpr q))) (fun w => kn ((lw_gt x y).mp w)))
theorem g_icmp_eq (X : Stand p l e R s m args below meth c T locs cells slots) (hx : p.tables.exec = Jvm.exec) (hby : c.code = code) {x y : Int32} {o : Int} (hd : InsB code pc (.if_icmp .eq o) o pn pt) (ky : x = y → Gd p e below P T (mkF m pt Ls st)) (kn : ¬ x = y → Gd p e below P T (mkF m pn Ls st)) : Gd p e below P T (mkF m pc Ls (.int y :: .int x :: st)) := by
  obtain ⟨hd, rfl, ho, hp⟩ := hd
  by_cases w : x = y
  · exact (ky w).imp fun t q => ⟨XS.icmpYes X.here hx rfl rfl (hb hby hd) rfl (teq w).1 ho hp q.1, q.2⟩
  · exact (kn w).imp fun t q => ⟨XS.icmpNo X.here hx rfl (hb hby hd) rfl (feq w).1 q.1, q.2⟩
theorem g_if_eq (X : Stand p l e R s m args below meth c T locs cells slots) (hx : p.tables.exec = Jvm.exec) (hby : c.code = code) {x : Int32} {o : Int} (hd : InsB code pc (.ifCond .eq o) o pn pt) (ky : x = 0 → Gd p e below P T (mkF m pt Ls st)) (kn : ¬ x = 0 → Gd p e below P T (mkF m pn Ls st)) : Gd p e below P T (mkF m pc Ls (.int x :: st)) := by
  obtain ⟨hd, rfl, ho, hp⟩ := hd
  by_cases w : x = 0
  · exact (ky w).imp fun t q => ⟨XS.ifYes X.here hx rfl rfl (hb hby hd) rfl ((if0 _ _).trans (teq w).1) ho hp q.1, q.2⟩
  · exact (kn w).imp fun t q => ⟨XS.ifNo X.here hx rfl (hb hby hd) rfl ((if0 _ _).trans (feq w).1) q.1, q.2⟩
theorem g_lcmp_eq (X : Stand p l e R s m args below meth c T locs cells slots) (hx : p.tables.exec = Jvm.exec) (hby : c.code = code) {x y : Int64} {o : Int} {pc1 : Nat} (hc : Ins1 code pc .lcmp 1 pc1) (hd : InsB code pc1 (.ifCond .eq o) o pn pt) (ky : x = y → Gd p e below P T (mkF m pt Ls st)) (kn : ¬ x = y → Gd p e below P T (mkF m pn Ls st)) : Gd p e below P T (mkF m pc Ls (.long y :: .long x :: st)) :=
  g_lcmp X hx hby hc (g_if_eq X hx hby hd (fun w => ky ((lw_eq x y).mp w)) (fun w => kn (fun q => w ((lw_eq x y).mpr q))))
theorem g_icmp_ne (X : Stand p l e R s m args below meth c T locs cells slots) (hx : p.tables.exec = Jvm.exec) (hby : c.code = code) {x y : Int32} {o : Int} (hd : InsB code pc (.if_icmp .ne o) o pn pt) (ky : ¬ x = y → Gd p e below P T (mkF m pt Ls st)) (kn : x = y → Gd p e below P T (mkF m pn Ls st)) : Gd p e below P T (mkF m pc Ls (.int y :: .int x :: st)) := by
  obtain ⟨hd, rfl, ho, hp⟩ := hd
  by_cases w : x = y
  · exact (kn w).imp fun t q => ⟨XS.icmpNo X.here hx rfl (hb hby hd) rfl (teq w).2 q.1, q.2⟩
  · exact (ky w).imp fun t q => ⟨XS.icmpYes X.here hx rfl rfl (hb hby hd) rfl (feq w).2 ho hp q.1, q.2⟩
theorem g_if_ne (X : Stand p l e R s m args below meth c T locs cells slots) (hx : p.tables.exec = Jvm.exec) (hby : c.code = code) {x : Int32} {o : Int} (hd : InsB code pc (.ifCond .ne o) o pn pt) (ky : ¬ x = 0 → Gd p e below P T (mkF m pt Ls st)) (kn : x = 0 → Gd p e below P T (mkF m pn Ls st)) : Gd p e below P T (mkF m pc Ls (.int x :: st)) := by
  obtain ⟨hd, rfl, ho, hp⟩ := hd
  by_cases w : x = 0
  · exact (kn w).imp fun t q => ⟨XS.ifNo X.here hx rfl (hb hby hd) rfl ((if0 _ _).trans (teq w).2) q.1, q.2⟩
  · exact (ky w).imp fun t q => ⟨XS.ifYes X.here hx rfl rfl (hb hby hd) rfl ((if0 _ _).trans (feq w).2) ho hp q.1, q.2⟩
theorem g_lcmp_ne (X : Stand p l e R s m args below meth c T locs cells slots) (hx : p.tables.exec = Jvm.exec) (hby : c.code = code) {x y : Int64} {o : Int} {pc1 : Nat} (hc : Ins1 code pc .lcmp 1 pc1) (hd : InsB code pc1 (.ifCond .ne o) o pn pt) (ky : ¬ x = y → Gd p e below P T (mkF m pt Ls st)) (kn : x = y → Gd p e below P T (mkF m pn Ls st)) : Gd p e below P T (mkF m pc Ls (.long y :: .long x :: st)) :=
  g_lcmp X hx hby hc (g_if_ne X hx hby hd (fun w => ky (fun q => w ((lw_eq x y).mpr q))) (fun w => kn ((lw_eq x y).mp w)))
theorem g_ifnull_y (X : Stand p l e R s m args below meth c T locs cells slots) (hx : p.tables.exec = Jvm.exec) (hby : c.code = code) {o : Int} (hd : InsB code pc (.ifnull o) o pn pt) (k : Gd p e below P T (mkF m pt Ls st)) : Gd p e below P T (mkF m pc Ls (.null :: st)) := by
  obtain ⟨hd, -, ho, hp⟩ := hd
  exact k.imp fun t q => ⟨XS.ifnullYes X.here hx rfl rfl (hb hby hd) rfl ho hp q.1, q.2⟩
theorem g_ifnull_n (X : Stand p l e R s m args below meth c T locs cells slots) (hx : p.tables.exec = Jvm.exec) (hby : c.code = code) {o : Int} {b : Addr} (hd : InsB code pc (.ifnull o) o pn pt) (k : Gd p e below P T (mkF m pn Ls st)) : Gd p e below P T (mkF m pc Ls (.ref b :: st)) := by
  obtain ⟨hd, rfl, ho, hp⟩ := hd
  exact k.imp fun t q => ⟨XS.ifnullNo X.here hx rfl (hb hby hd) rfl q.1, q.2⟩
theorem g_ifnonnull_n (X : Stand p l e R s m args below meth c T locs cells slots) (hx : p.tables.exec = Jvm.exec) (hby : c.code = code) {o : Int} (hd : InsB code pc (.ifnonnull o) o pn pt) (k : Gd p e below P T (mkF m pn Ls st)) : Gd p e below P T (mkF m pc Ls (.null :: st)) := by
  obtain ⟨hd, rfl, ho, hp⟩ := hd
  exact k.imp fun t q => ⟨XS.ifnonnullNo X.here hx rfl (hb hby hd) rfl q.1, q.2⟩
theorem g_ifnonnull_y (X : Stand p l e R s m args below meth c T locs cells slots) (hx : p.tables.exec = Jvm.exec) (hby : c.code = code) {o : Int} {b : Addr} (hd : InsB code pc (.ifnonnull o) o pn pt) (k : Gd p e below P T (mkF m pt Ls st)) : Gd p e below P T (mkF m pc Ls (.ref b :: st)) := by
  obtain ⟨hd, -, ho, hp⟩ := hd
  exact k.imp fun t q => ⟨XS.ifnonnullYes X.here hx rfl rfl (hb hby hd) rfl ho hp q.1, q.2⟩
theorem g_acmp_eq (X : Stand p l e R s m args below meth c T locs cells slots) (hx : p.tables.exec = Jvm.exec) (hby : c.code = code) {o : Int} {x y : Value} (hd : InsB code pc (.if_acmp .eq o) o pn pt) (h1 : x.isRef = true) (h2 : y.isRef = true) (ky : x = y → Gd p e below P T (mkF m pt Ls st)) (kn : ¬ x = y → Gd p e below P T (mkF m pn Ls st)) : Gd p e below P T (mkF m pc Ls (y :: x :: st)) := by
  obtain ⟨hd, hn, ho, hp⟩ := hd
  by_cases w : x = y
  · exact (ky w).imp fun t q => ⟨Jvm.RoadKit.acmp (g := mkF m pc Ls (y :: x :: st)) X hx rfl h1 h2 rfl (hb hby hd) rfl (same := true) (decide_eq_true w) ho (by show _ = ((pc : Int) + o).toNat; exact hp.symm) q.1, q.2⟩
  · exact (kn w).imp fun t q => ⟨Jvm.RoadKit.acmp (g := mkF m pc Ls (y :: x :: st)) X hx rfl h1 h2 rfl (hb hby hd) rfl (same := false) (decide_eq_false w) ho (by show _ = pc + 3; exact hn.symm) q.1, q.2⟩
theorem g_acmp_ne (X : Stand p l e R s m args below meth c T locs cells slots) (hx : p.tables.exec = Jvm.exec) (hby : c.code = code) {o : Int} {x y : Value} (hd : InsB code pc (.if_acmp .ne o) o pn pt) (h1 : x.isRef = true) (h2 : y.isRef = true) (ky : ¬ x = y → Gd p e below P T (mkF m pt Ls st)) (kn : x = y → Gd p e below P T (mkF m pn Ls st)) : Gd p e below P T (mkF m pc Ls (y :: x :: st)) := by
  obtain ⟨hd, hn, ho, hp⟩ := hd
  by_cases w : x = y
  · exact (kn w).imp fun t q => ⟨Jvm.RoadKit.acmp (g := mkF m pc Ls (y :: x :: st)) X hx rfl h1 h2 rfl (hb hby hd) rfl (same := true) (decide_eq_true w) ho (by show _ = pc + 3; exact hn.symm) q.1, q.2⟩
  · exact (ky w).imp fun t q => ⟨Jvm.RoadKit.acmp (g := mkF m pc Ls (y :: x :: st)) X hx rfl h1 h2 rfl (hb hby hd) rfl (same := false) (decide_eq_false w) ho (by show _ = ((pc : Int) + o).toNat; exact hp.symm) q.1, q.2⟩
theorem g_ldcInt (X : Stand p l e R s m args below meth c T locs cells slots) (hx : p.tables.exec = Jvm.exec) (hby : c.code = code) (hZ : Z.Warmed39 s.vm) {own : String} (hown : s.vm.findClass own = some m.cls) {i : Nat} {v : Int32} (w : (Jvm.Cond.constant own i v).before a0 Z = true) (hd : Ins1 code pc (.ldc i) 2 pn) (k : Gd p e below P T (mkF m pn Ls (.int v :: st))) : Gd p e below P T (mkF m pc Ls st) := by
  obtain ⟨hd, rfl⟩ := hd
  exact k.imp fun t q => ⟨X.ldcInt hx hown (mvT hZ w) (g := mkF m pc Ls st) rfl (hb hby hd) _ q.1, q.2⟩
theorem g_ldc2Long (X : Stand p l e R s m args below meth c T locs cells slots) (hx : p.tables.exec = Jvm.exec) (hby : c.code = code) (hZ : Z.Warmed39 s.vm) {own : String} (hown : s.vm.findClass own = some m.cls) {i : Nat} {v : Int64} (w : (Jvm.Cond.constantLong own i v).before a0 Z = true) (hd : Ins1 code pc (.ldc2_w i) 3 pn) (k : Gd p e below P T (mkF m pn Ls (.long v :: st))) : Gd p e below P T (mkF m pc Ls st) := by
  obtain ⟨hd, rfl⟩ := hd
  exact k.imp fun t q => ⟨X.ldc2Long hx hown (mvT hZ w) (g := mkF m pc Ls st) rfl (hb hby hd) _ q.1, q.2⟩
theorem g_getfield (X : Stand p l e R s m args below meth c T locs cells slots) (hx : p.tables.exec = Jvm.exec) (hby : c.code = code) (hZ : Z.Warmed39 s.vm) {own R0 O n d host : String} {index : Nat} (hown : s.vm.findClass own = some m.cls) (w : (Jvm.Cond.fieldLink own index R0 n d).before a0 Z = true ∨ (Jvm.Cond.fieldLinkNest own index R0 n d host).before a0 Z = true) (via : Via Z R0 O n d) (eT : T.heap = h) {a : Addr} {v : Value} (F : Fld Z h a O n d v) (hd : Ins1 code pc (.getfield index) 3 pn)
    (k : ∀ T', Stand p l e R s m args below meth c T' locs cells slots → T'.heap = h → Gd p e below P T' (mkF m pn Ls (v :: st))) : Gd p e below P T (mkF m pc Ls (.ref a :: st)) := by
  obtain ⟨hd, rfl⟩ := hd
  obtain ⟨T', X', e', stp⟩ := getF X hx hZ hown w via eT F (g := mkF m pc Ls (.ref a :: st)) rfl rfl (hb hby hd)
  exact (k T' X' e').of stp
theorem g_getstatic (X : Stand p l e R s m args below meth c T locs cells slots) (hx : p.tables.exec = Jvm.exec) (hby : c.code = code) (hZ : Z.Warmed39 s.vm) {own R0 O n d host : String} {index : Nat} (hown : s.vm.findClass own = some m.cls) (w : (Jvm.Cond.fieldLink own index R0 n d).before a0 Z = true ∨ (Jvm.Cond.fieldLinkNest own index R0 n d host).before a0 Z = true) (via : Via Z R0 O n d) (eT : T.heap = h) {v : Value} (F : Sta Z h O n d v) (hd : Ins1 code pc (.getstatic index) 3 pn)
    (k : ∀ T', Stand p l e R s m args below meth c T' locs cells slots → T'.heap = h → Gd p e below P T' (mkF m pn Ls (v :: st))) : Gd p e below P T (mkF m pc Ls st) := by
  obtain ⟨hd, rfl⟩ := hd
  obtain ⟨T', X', e', stp⟩ := getS2 X hx hZ hown w via eT F (g := mkF m pc Ls st) rfl (hb hby hd)
  exact (k T' X' e').of stp
theorem g_putfield (X : Stand p l e R s m args below meth c T locs cells slots) (hx : p.tables.exec = Jvm.exec) (hby : c.code = code) (hZ : Z.Warmed39 s.vm) {own R0 O n d host C : String} {index kk : Nat} {ty : FieldType} (hown : s.vm.findClass own = some m.cls) (w : (Jvm.Cond.fieldLink own index R0 n d).before a0 Z = true ∨ (Jvm.Cond.fieldLinkNest own index R0 n d host).before a0 Z = true) (via : Via Z R0 O n d) (eT : T.heap = h) {a : Addr} {v old : Value} (F : Fld Z h a O n d old) (E : Exa Z h a C)
    (L : (Jvm.Cond.lays C O n d).before a0 Z = true ∨ ((Jvm.Cond.laysFinal C O n d).before a0 Z = true ∧ own = O ∧ meth.name = "<init>")) (wi : (Jvm.Cond.instantiable C kk).before a0 Z = true) (hty : parseFieldDescriptor d = some ty) (hn : narrow ty v = v) (hf : fits ty v = true) (hd : Ins1 code pc (.putfield index) 3 pn)
    (k : ∀ T' h', Stand p l e R s m args below meth c T' (locs ++ [⟨a, Jvm.RoadKit.slotOf Z O n d⟩]) cells slots → T'.heap = h' → Wr h h' a (Jvm.RoadKit.slotOf Z O n d) v → Gd p e below P T' (mkF m pn Ls st)) : Gd p e below P T (mkF m pc Ls (v :: .ref a :: st)) := by
  obtain ⟨hd, rfl⟩ := hd
  obtain ⟨T', h', X', e', W, stp⟩ := putF X hx hZ hown w via eT F E L wi hty hn hf (g := mkF m pc Ls (v :: .ref a :: st)) rfl rfl (hb hby hd)
  exact (k T' h' X' e' W).of stp
theorem g_putfieldN (X : Stand p l e R s m args below meth c T locs cells slots) (hx : p.tables.exec = Jvm.exec) (hby : c.code = code) (hZ : Z.Warmed39 s.vm) {own R0 O n d C : String} {index kk : Nat} {ty : FieldType} (hown : s.vm.findClass own = some m.cls) (w : (Jvm.Cond.fieldLink own index R0 n d).before a0 Z = true) (via : Via Z R0 O n d) (eT : T.heap = h) {a : Addr} {v v' old : Value} (F : Fld Z h a O n d old) (E : Exa Z h a C)
    (L : (Jvm.Cond.lays C O n d).before a0 Z = true ∨ ((Jvm.Cond.laysFinal C O n d).before a0 Z = true ∧ own = O ∧ meth.name = "<init>")) (wi : (Jvm.Cond.instantiable C kk).before a0 Z = true) (hty : parseFieldDescriptor d = some ty) (hn : narrow ty v = v') (hf : fits ty v' = true) (hd : Ins1 code pc (.putfield index) 3 pn)
    (k : ∀ T' h', Stand p l e R s m args below meth c T' (locs ++ [⟨a, Jvm.RoadKit.slotOf Z O n d⟩]) cells slots → T'.heap = h' → Wr h h' a (Jvm.RoadKit.slotOf Z O n d) v' → Gd p e below P T' (mkF m pn Ls st)) : Gd p e below P T (mkF m pc Ls (v :: .ref a :: st)) := by
  obtain ⟨hd, rfl⟩ := hd
  obtain ⟨T', h', X', e', W, stp⟩ := putFN X hx hZ hown w via eT F E L wi hty hn hf (g := mkF m pc Ls (v :: .ref a :: st)) rfl rfl (hb hby hd)
  exact (k T' h' X' e' W).of stp
theorem g_new (X : Stand p l e R s m args below meth c T locs cells slots) (hx : p.tables.exec = Jvm.exec) (hby : c.code = code) (hZ : Z.Warmed39 s.vm) {own C : String} {index n : Nat} (hown : s.vm.findClass own = some m.cls) (w : (Jvm.Cond.classLink own index C).before a0 Z = true) (wi : (Jvm.Cond.instantiable C n).before a0 Z = true) (wz : (Jvm.Cond.initialized C).before a0 Z = true) (eT : T.heap = h) (hd : Ins1 code pc (.new index) 3 pn) (hc : cells + 1 ≤ R.cells) (hl : slots + n ≤ R.slots)
    (k : ∀ T' h' b, Stand p l e R s m args below meth c T' locs (cells + 1) (slots + n) → T'.heap = h' → Ext h h' → b = h.size → Exa Z h' b C → (∀ {O nm d : String} {ty : FieldType}, Laid Z a0 C O nm d → parseFieldDescriptor d = some ty → Fld Z h' b O nm d (defaultValue ty)) → Gd p e below P T' (mkF m pn Ls (.ref b :: st))) : Gd p e below P T (mkF m pc Ls st) := by
  obtain ⟨hd, rfl⟩ := hd
  obtain ⟨T', h', X', e', E, A, D, -, stp⟩ := newO X hx hZ hown w wi wz eT (g := mkF m pc Ls st) rfl (hb hby hd) hc hl
  exact (k T' h' _ X' e' E rfl A D).of stp
theorem g_newarray (X : Stand p l e R s m args below meth c T locs cells slots) (hx : p.tables.exec = Jvm.exec) (hby : c.code = code) (hZ : Z.Warmed39 s.vm) {aty : ArrayType} {n : Int32} {ty : FieldType} (hty : newarray.typeOf aty = ty) (w : (Jvm.Cond.arrayClass ty).before a0 Z = true) (eT : T.heap = h) (hd : Ins1 code pc (.newarray aty) 2 pn) (hn : ¬ n < 0) (cap : Nat) (hcap : n.toNatClampNeg ≤ cap) (hb' : cap * 8 ≤ 536870912) (hc : cells + 1 ≤ R.cells) (hl : slots + cap ≤ R.slots)
    (k : ∀ T' h' b cA, Stand p l e R s m args below meth c T' locs (cells + 1) (slots + cap) → T'.heap = h' → Ext h h' → b = h.size → Arv Z h' b cA ty n [] (defaultValue ty) → Gd p e below P T' (mkF m pn Ls (.ref b :: st))) : Gd p e below P T (mkF m pc Ls (.int n :: st)) := by
  obtain ⟨hd, rfl⟩ := hd
  subst hty
  obtain ⟨T', h', cA, X', e', E, A, stp⟩ := newP X hx hZ w eT (g := mkF m pc Ls (.int n :: st)) rfl (hb hby hd) rfl hn hcap hb' hc hl
  exact (k T' h' _ cA X' e' E rfl (Arv.new A hn)).of stp
theorem g_iastore (X : Stand p l e R s m args below meth c T locs cells slots) (hx : p.tables.exec = Jvm.exec) (hby : c.code = code) (hZ : Z.Warmed39 s.vm) (eT : T.heap = h) {a : Addr} {kc : ClassId} {z j : Int32} {vs : List Value} {dv : Value} {x : Int32} (A : Arv Z h a kc .int z vs dv) {i : Nat} (hj0 : ¬ j < 0) (hj : j < z) (hji : j.toNatClampNeg = i) (hil : i < vs.length) (hd : Ins1 code pc .iastore 1 pn)
    (k : ∀ T' h', Stand p l e R s m args below meth c T' (locs ++ [⟨a, i⟩]) cells slots → T'.heap = h' → Wr h h' a i (.int x) → Arv Z h' a kc .int z (vs.set i (.int x)) dv → Gd p e below P T' (mkF m pn Ls st)) : Gd p e below P T (mkF m pc Ls (.int x :: .int j :: .ref a :: st)) := by
  obtain ⟨hd, rfl⟩ := hd
  obtain ⟨cl, Ar, q1, S, N, H, G⟩ := A
  obtain ⟨T', h', X', e', W, stp⟩ := stI X hx hZ eT Ar (j := j) (inb_of S ⟨hj0, hj⟩) (g := mkF m pc Ls (.int x :: .int j :: .ref a :: st)) rfl rfl (hb hby hd)
  have V := Arv.set Ar q1 S N H G rfl W i hji hil
  rw [hji] at X' W
  exact (k T' h' X' e' W V).of stp
theorem g_lastore (X : Stand p l e R s m args below meth c T locs cells slots) (hx : p.tables.exec = Jvm.exec) (hby : c.code = code) (hZ : Z.Warmed39 s.vm) (eT : T.heap = h) {a : Addr} {kc : ClassId} {z j : Int32} {vs : List Value} {dv : Value} {x : Int64} (A : Arv Z h a kc .long z vs dv) {i : Nat} (hj0 : ¬ j < 0) (hj : j < z) (hji : j.toNatClampNeg = i) (hil : i < vs.length) (hd : Ins1 code pc .lastore 1 pn)
    (k : ∀ T' h', Stand p l e R s m args below meth c T' (locs ++ [⟨a, i⟩]) cells slots → T'.heap = h' → Wr h h' a i (.long x) → Arv Z h' a kc .long z (vs.set i (.long x)) dv → Gd p e below P T' (mkF m pn Ls st)) : Gd p e below P T (mkF m pc Ls (.long x :: .int j :: .ref a :: st)) := by
  obtain ⟨hd, rfl⟩ := hd
  obtain ⟨cl, Ar, q1, S, N, H, G⟩ := A
  obtain ⟨T', h', X', e', W, stp⟩ := stJ X hx hZ eT Ar (j := j) (inb_of S ⟨hj0, hj⟩) (g := mkF m pc Ls (.long x :: .int j :: .ref a :: st)) rfl rfl (hb hby hd)
  have V := Arv.set Ar q1 S N H G rfl W i hji hil
  rw [hji] at X' W
  exact (k T' h' X' e' W V).of stp
theorem g_castore (X : Stand p l e R s m args below meth c T locs cells slots) (hx : p.tables.exec = Jvm.exec) (hby : c.code = code) (hZ : Z.Warmed39 s.vm) (eT : T.heap = h) {a : Addr} {kc : ClassId} {z j : Int32} {vs : List Value} {dv : Value} {x : Int32} (A : Arv Z h a kc .char z vs dv) {i : Nat} (hj0 : ¬ j < 0) (hj : j < z) (hji : j.toNatClampNeg = i) (hil : i < vs.length) (hd : Ins1 code pc .castore 1 pn)
    (k : ∀ T' h', Stand p l e R s m args below meth c T' (locs ++ [⟨a, i⟩]) cells slots → T'.heap = h' → Wr h h' a i (.int (nar .char x)) → Arv Z h' a kc .char z (vs.set i (.int (nar .char x))) dv → Gd p e below P T' (mkF m pn Ls st)) : Gd p e below P T (mkF m pc Ls (.int x :: .int j :: .ref a :: st)) := by
  obtain ⟨hd, rfl⟩ := hd
  obtain ⟨cl, Ar, q1, S, N, H, G⟩ := A
  obtain ⟨T', h', X', e', W, stp⟩ := stC X hx hZ eT Ar (j := j) (inb_of S ⟨hj0, hj⟩) (g := mkF m pc Ls (.int x :: .int j :: .ref a :: st)) rfl rfl (hb hby hd)
  have V := Arv.set Ar q1 S N H G (fits_nar_char x) W i hji hil
  rw [hji] at X' W
  exact (k T' h' X' e' W V).of stp
theorem g_sastore (X : Stand p l e R s m args below meth c T locs cells slots) (hx : p.tables.exec = Jvm.exec) (hby : c.code = code) (hZ : Z.Warmed39 s.vm) (eT : T.heap = h) {a : Addr} {kc : ClassId} {z j : Int32} {vs : List Value} {dv : Value} {x : Int32} (A : Arv Z h a kc .short z vs dv) {i : Nat} (hj0 : ¬ j < 0) (hj : j < z) (hji : j.toNatClampNeg = i) (hil : i < vs.length) (hd : Ins1 code pc .sastore 1 pn)
    (k : ∀ T' h', Stand p l e R s m args below meth c T' (locs ++ [⟨a, i⟩]) cells slots → T'.heap = h' → Wr h h' a i (.int (nar .short x)) → Arv Z h' a kc .short z (vs.set i (.int (nar .short x))) dv → Gd p e below P T' (mkF m pn Ls st)) : Gd p e below P T (mkF m pc Ls (.int x :: .int j :: .ref a :: st)) := by
  obtain ⟨hd, rfl⟩ := hd
  obtain ⟨cl, Ar, q1, S, N, H, G⟩ := A
  obtain ⟨T', h', X', e', W, stp⟩ := stS X hx hZ eT Ar (j := j) (inb_of S ⟨hj0, hj⟩) (g := mkF m pc Ls (.int x :: .int j :: .ref a :: st)) rfl rfl (hb hby hd)
  have V := Arv.set Ar q1 S N H G (fits_nar_short x) W i hji hil
  rw [hji] at X' W
  exact (k T' h' X' e' W V).of stp
theorem g_bastore (X : Stand p l e R s m args below meth c T locs cells slots) (hx : p.tables.exec = Jvm.exec) (hby : c.code = code) (hZ : Z.Warmed39 s.vm) (eT : T.heap = h) {a : Addr} {kc : ClassId} {z j : Int32} {vs : List Value} {dv : Value} {x : Int32} (A : Arv Z h a kc .byte z vs dv) {i : Nat} (hj0 : ¬ j < 0) (hj : j < z) (hji : j.toNatClampNeg = i) (hil : i < vs.length) (hd : Ins1 code pc .bastore 1 pn)
    (k : ∀ T' h', Stand p l e R s m args below meth c T' (locs ++ [⟨a, i⟩]) cells slots → T'.heap = h' → Wr h h' a i (.int (nar .byte x)) → Arv Z h' a kc .byte z (vs.set i (.int (nar .byte x))) dv → Gd p e below P T' (mkF m pn Ls st)) : Gd p e below P T (mkF m pc Ls (.int x :: .int j :: .ref a :: st)) := by
  obtain ⟨hd, rfl⟩ := hd
  obtain ⟨cl, Ar, q1, S, N, H, G⟩ := A
  obtain ⟨T', h', X', e', W, stp⟩ := stB X hx hZ eT Ar (j := j) (inb_of S ⟨hj0, hj⟩) (g := mkF m pc Ls (.int x :: .int j :: .ref a :: st)) rfl rfl (hb hby hd)
  have V := Arv.set Ar q1 S N H G (fits_nar_byte x) W i hji hil
  rw [hji] at X' W
  exact (k T' h' X' e' W V).of stp
theorem g_iaload (X : Stand p l e R s m args below meth c T locs cells slots) (hx : p.tables.exec = Jvm.exec) (hby : c.code = code) (hZ : Z.Warmed39 s.vm) (eT : T.heap = h) {a : Addr} {kc : ClassId} {z j : Int32} {vs : List Value} {dv v : Value} (A : Arv Z h a kc .int z vs dv) {i : Nat} (hj0 : ¬ j < 0) (hj : j < z) (hji : j.toNatClampNeg = i) (hv : vs.getD i dv = v) (hd : Ins1 code pc .iaload 1 pn)
    (k : Gd p e below P T (mkF m pn Ls (v :: st))) : Gd p e below P T (mkF m pc Ls (.int j :: .ref a :: st)) := by
  obtain ⟨hd, rfl⟩ := hd
  obtain ⟨cl, Ar, q1, S, N, H, G⟩ := A
  have hin := inb_of S ⟨hj0, hj⟩
  exact k.imp fun t q => ⟨X.iaload hx (j := j) (v := v) (by rw [eT]; exact Ar.1) (State.isArrayOf_alike hZ.alike Ar.2.1) Ar.2.2 hin (H.at hin (by rw [hji]; exact hv)) (g := mkF m pc Ls (.int j :: .ref a :: st)) rfl rfl (hb hby hd) _ q.1, q.2⟩
theorem g_laload (X : Stand p l e R s m args below meth c T locs cells slots) (hx : p.tables.exec = Jvm.exec) (hby : c.code = code) (hZ : Z.Warmed39 s.vm) (eT : T.heap = h) {a : Addr} {kc : ClassId} {z j : Int32} {vs : List Value} {dv v : Value} (A : Arv Z h a kc .long z vs dv) {i : Nat} (hj0 : ¬ j < 0) (hj : j < z) (hji : j.toNatClampNeg = i) (hv : vs.getD i dv = v) (hd : Ins1 code pc .laload 1 pn)
    (k : Gd p e below P T (mkF m pn Ls (v :: st))) : Gd p e below P T (mkF m pc Ls (.int j :: .ref a :: st)) := by
  obtain ⟨hd, rfl⟩ := hd
  obtain ⟨cl, Ar, q1, S, N, H, G⟩ := A
  have hin := inb_of S ⟨hj0, hj⟩
  exact k.imp fun t q => ⟨X.laload hx (j := j) (v := v) (by rw [eT]; exact Ar.1) (State.isArrayOf_alike hZ.alike Ar.2.1) Ar.2.2 hin (H.at hin (by rw [hji]; exact hv)) (g := mkF m pc Ls (.int j :: .ref a :: st)) rfl rfl (hb hby hd) _ q.1, q.2⟩
theorem g_caload (X : Stand p l e R s m args below meth c T locs cells slots) (hx : p.tables.exec = Jvm.exec) (hby : c.code = code) (hZ : Z.Warmed39 s.vm) (eT : T.heap = h) {a : Addr} {kc : ClassId} {z j : Int32} {vs : List Value} {dv v : Value} (A : Arv Z h a kc .char z vs dv) {i : Nat} (hj0 : ¬ j < 0) (hj : j < z) (hji : j.toNatClampNeg = i) (hv : vs.getD i dv = v) (hd : Ins1 code pc .caload 1 pn)
    (k : Gd p e below P T (mkF m pn Ls (v :: st))) : Gd p e below P T (mkF m pc Ls (.int j :: .ref a :: st)) := by
  obtain ⟨hd, rfl⟩ := hd
  obtain ⟨cl, Ar, q1, S, N, H, G⟩ := A
  have hin := inb_of S ⟨hj0, hj⟩
  exact k.imp fun t q => ⟨X.caload hx (j := j) (v := v) (by rw [eT]; exact Ar.1) (State.isArrayOf_alike hZ.alike Ar.2.1) Ar.2.2 hin (H.at hin (by rw [hji]; exact hv)) (g := mkF m pc Ls (.int j :: .ref a :: st)) rfl rfl (hb hby hd) _ q.1, q.2⟩
theorem g_saload (X : Stand p l e R s m args below meth c T locs cells slots) (hx : p.tables.exec = Jvm.exec) (hby : c.code = code) (hZ : Z.Warmed39 s.vm) (eT : T.heap = h) {a : Addr} {kc : ClassId} {z j : Int32} {vs : List Value} {dv v : Value} (A : Arv Z h a kc .short z vs dv) {i : Nat} (hj0 : ¬ j < 0) (hj : j < z) (hji : j.toNatClampNeg = i) (hv : vs.getD i dv = v) (hd : Ins1 code pc .saload 1 pn)
    (k : Gd p e below P T (mkF m pn Ls (v :: st))) : Gd p e below P T (mkF m pc Ls (.int j :: .ref a :: st)) := by
  obtain ⟨hd, rfl⟩ := hd
  obtain ⟨cl, Ar, q1, S, N, H, G⟩ := A
  have hin := inb_of S ⟨hj0, hj⟩
  exact k.imp fun t q => ⟨X.saload hx (j := j) (v := v) (by rw [eT]; exact Ar.1) (State.isArrayOf_alike hZ.alike Ar.2.1) Ar.2.2 hin (H.at hin (by rw [hji]; exact hv)) (g := mkF m pc Ls (.int j :: .ref a :: st)) rfl rfl (hb hby hd) _ q.1, q.2⟩
theorem g_baload (X : Stand p l e R s m args below meth c T locs cells slots) (hx : p.tables.exec = Jvm.exec) (hby : c.code = code) (hZ : Z.Warmed39 s.vm) (eT : T.heap = h) {a : Addr} {kc : ClassId} {z j : Int32} {vs : List Value} {dv v : Value} (A : Arv Z h a kc .byte z vs dv) {i : Nat} (hj0 : ¬ j < 0) (hj : j < z) (hji : j.toNatClampNeg = i) (hv : vs.getD i dv = v) (hd : Ins1 code pc .baload 1 pn)
    (k : Gd p e below P T (mkF m pn Ls (v :: st))) : Gd p e below P T (mkF m pc Ls (.int j :: .ref a :: st)) := by
  obtain ⟨hd, rfl⟩ := hd
  obtain ⟨cl, Ar, q1, S, N, H, G⟩ := A
  have hin := inb_of S ⟨hj0, hj⟩
  exact k.imp fun t q => ⟨X.baloadBytes hx (j := j) (v := v) (by rw [eT]; exact Ar.1) (State.isArrayOf_alike hZ.alike Ar.2.1) Ar.2.2 hin (H.at hin (by rw [hji]; exact hv)) (g := mkF m pc Ls (.int j :: .ref a :: st)) rfl rfl (hb hby hd) _ q.1, q.2⟩
theorem g_arraylength (X : Stand p l e R s m args below meth c T locs cells slots) (hx : p.tables.exec = Jvm.exec) (hby : c.code = code) (hZ : Z.Warmed39 s.vm) (eT : T.heap = h) {a : Addr} {kc : ClassId} {ty : FieldType} {z : Int32} {vs : List Value} {dv : Value} (A : Arv Z h a kc ty z vs dv) (hd : Ins1 code pc .arraylength 1 pn) (k : Gd p e below P T (mkF m pn Ls (.int z :: st))) : Gd p e below P T (mkF m pc Ls (.ref a :: st)) := by
  obtain ⟨hd, rfl⟩ := hd
  obtain ⟨cl, Ar, q1, S, N, H, G⟩ := A
  rw [← len_of S N] at k
  exact k.imp fun t q => ⟨X.arraylength hx (by rw [eT]; exact Ar.1) (State.isArrayOf_alike hZ.alike Ar.2.1) (g := mkF m pc Ls (.ref a :: st)) rfl rfl (hb hby hd) _ q.1, q.2⟩
theorem g_objInit (X : Stand p l e R s m args below meth c T locs cells slots) (hx : p.tables.exec = Jvm.exec) (hby : c.code = code) (hZ : Z.Warmed39 s.vm) {own : String} {idx : Nat} (hown : s.vm.findClass own = some m.cls) (w1 : (Jvm.Cond.methodLink own idx Lib.objectInit).before a0 Z = true) (w2 : (Jvm.Cond.instanceMethod Lib.objectInit).before a0 Z = true) (w3 : (Jvm.Cond.code Lib.objectInit ⟨#[0xb1]⟩ 1 none).before a0 Z = true) (eT : T.heap = h) (hsize : Ls.size = c.maxLocals) {a : Addr} (hd : Ins1 code pc (.invokespecial idx) 3 pn)
    (W : Nat) (hW : (st.map fun v => v.category).sum = W) (hf : 1 ≤ R.frames) (hl : W + 12 ≤ R.locals) (k : ∀ T', Stand p l e R s m args below meth c T' locs cells slots → T'.heap = h → Gd p e below P T' (mkF m pn Ls st)) : Gd p e below P T (mkF m pc Ls (.ref a :: st)) := by
  obtain ⟨hd, rfl⟩ := hd
  obtain ⟨T', X', e', stp⟩ := initO X hx hZ hown w1 w2 w3 eT (g := mkF m pc Ls (.ref a :: st)) rfl hsize rfl (hb hby hd) hf (W := W) (by show 2 * 0 + _ ≤ _; rw [hW]; omega) hl
  exact (k T' X' e').of stp
theorem g_callS0 (X : Stand p l e R s m args below meth c T locs cells slots) (hx : p.tables.exec = Jvm.exec) (hby : c.code = code) (hZ : Z.Warmed39 s.vm) {y : MethodName} {bytes : ByteArray} {maxL : Nat} {ret : Option FieldType} {rm : Room} {argsL rest : List Value} {Q : Option Value → Heap → List Loc → Prop} {own : String} {index : Nat} (hown : s.vm.findClass own = some m.cls) (w1 : (Jvm.Cond.methodLink own index y).before a0 Z = true) (w2 : (Jvm.Cond.static y).before a0 Z = true) (w3 : (Jvm.Cond.initialized y.cls).before a0 Z = true) (w4 : (Jvm.Cond.code y bytes maxL ret).before a0 Z = true) (hy : y.cls ≠ "java/lang/invoke/MethodHandle" ∧ y.cls ≠ "java/lang/invoke/VarHandle")
    (M : Met1 l y bytes maxL ret [] rm argsL.toArray Z h Q) (eT : T.heap = h) (hsize : Ls.size = c.maxLocals) {ps : List FieldType} {r : Option FieldType} (hpd : parseMethodDescriptor y.desc = some ⟨ps, r⟩) (hlen : argsL.length = ps.length) (hst : st = argsL.reverse ++ rest) (hd : Ins1 code pc (.invokestatic index) 3 pn) (hf : rm.frames + 1 ≤ R.frames) (W : Nat) (hW : (rest.map fun v => v.category).sum = W) (hl : W + (maxL + 11) + rm.locals ≤ R.locals) (hcl : cells + rm.cells ≤ R.cells) (hsl : slots + rm.slots ≤ R.slots)
    (k : ∀ T' v L, Stand p l e R s m args below meth c T' (locs ++ L) (cells + rm.cells) (slots + rm.slots) → Q v T'.heap L → Gd p e below P T' (mkF m pn Ls (v.toList ++ rest))) : Gd p e below P T (mkF m pc Ls st) := by
  obtain ⟨hd, rfl⟩ := hd
  obtain ⟨v, _, ⟨T', L', k', n'⟩, -, X', ⟨Lc, hQ, l1, y1, z1⟩, stp⟩ := Jvm.LawKit.callS X hx (y := y) hown (mvT hZ w1) (mvT hZ w2) (mvT hZ w3) (mvT hZ w4) hy (backOf (W := W) M hZ w4 w3 hf hl) (g := mkF m pc Ls st) rfl hsize (argsL := argsL) (rest := rest) (lenOf hpd hlen) hst (by show 2 * 0 + _ ≤ _; rw [hW]; omega) (hb hby hd) (fun _ _ => ⟨rfl, eT, hcl, hsl⟩)
  dsimp only [Pt.U, Pt.locs, Pt.cells, Pt.slots] at X' l1 y1 z1 stp hQ
  subst l1 y1 z1
  exact (k T' v Lc X' hQ).of stp
theorem g_callInit0 (X : Stand p l e R s m args below meth c T locs cells slots) (hx : p.tables.exec = Jvm.exec) (hby : c.code = code) (hZ : Z.Warmed39 s.vm) {y : MethodName} {bytes : ByteArray} {maxL : Nat} {rm : Room} {argsL rest : List Value} {Q : Option Value → Heap → List Loc → Prop} {own : String} {index : Nat} (hy1 : y.name = "<init>") (hown : s.vm.findClass own = some m.cls) (w1 : (Jvm.Cond.methodLink own index y).before a0 Z = true) (w2 : (Jvm.Cond.instanceMethod y).before a0 Z = true) (w3 : (Jvm.Cond.initialized y.cls).before a0 Z = true) (w4 : (Jvm.Cond.code y bytes maxL none).before a0 Z = true) (hy : y.cls ≠ "java/lang/invoke/MethodHandle" ∧ y.cls ≠ "java/lang/invoke/VarHandle")
    {a : Addr} (M : Met1 l y bytes maxL none [] rm (.ref a :: argsL).toArray Z h Q) (eT : T.heap = h) (hsize : Ls.size = c.maxLocals) {ps : List FieldType} {r : Option FieldType} (hpd : parseMethodDescriptor y.desc = some ⟨ps, r⟩) (hlen : argsL.length = ps.length) (hst : st = argsL.reverse ++ .ref a :: rest) (hd : Ins1 code pc (.invokespecial index) 3 pn) (hf : rm.frames + 1 ≤ R.frames) (W : Nat) (hW : (rest.map fun v => v.category).sum = W) (hl : W + (maxL + 11) + rm.locals ≤ R.locals) (hcl : cells + rm.cells ≤ R.cells) (hsl : slots + rm.slots ≤ R.slots)
    (k : ∀ T' v L, Stand p l e R s m args below meth c T' (locs ++ L) (cells + rm.cells) (slots + rm.slots) → Q v T'.heap L → Gd p e below P T' (mkF m pn Ls (v.toList ++ rest))) : Gd p e below P T (mkF m pc Ls st) := by
  obtain ⟨hd, rfl⟩ := hd
  obtain ⟨v, _, ⟨T', L', k', n'⟩, -, X', ⟨Lc, hQ, l1, y1, z1⟩, stp⟩ := X.specialBack hx (y := y) hy1 hown (mvT hZ w1) (mvT hZ w2) (mvT hZ w4) hy (backOf (W := W) M hZ w4 w3 hf hl) (g := mkF m pc Ls st) rfl hsize (Steps.refl _) (a := a) (argsL := argsL) (rest := rest) (lenOf hpd hlen) hst (by show 2 * 0 + _ ≤ _; rw [hW]; omega) (hb hby hd) (fun _ _ => ⟨rfl, eT, hcl, hsl⟩)
  dsimp only [Pt.U, Pt.locs, Pt.cells, Pt.slots] at X' l1 y1 z1 stp hQ
  subst l1 y1 z1
  exact (k T' v Lc X' hQ).of fun t q => stp.trans q
theorem g_callV0 (X : Stand p l e R s m args below meth c T locs cells slots) (hx : p.tables.exec = Jvm.exec) (hby : c.code = code) (hZ : Z.Warmed39 s.vm) {y : MethodName} {bytes : ByteArray} {maxL : Nat} {ret : Option FieldType} {rm : Room} {argsL rest : List Value} {Q : Option Value → Heap → List Loc → Prop} {own C : String} {index : Nat} {y0 : MethodName} (hown : s.vm.findClass own = some m.cls) (w1 : (Jvm.Cond.methodLink own index y0).before a0 Z = true) (w2 : (Jvm.Cond.declares y0).before a0 Z = true) (hnf : NotFace s y0) (w5 : (Jvm.Cond.selects C y0 y).before a0 Z = true) (w6 : (Jvm.Cond.instanceMethod y).before a0 Z = true) (w3 : (Jvm.Cond.initialized y.cls).before a0 Z = true) (w4 : (Jvm.Cond.code y bytes maxL ret).before a0 Z = true) (hy : y0.cls ≠ "java/lang/invoke/MethodHandle" ∧ y0.cls ≠ "java/lang/invoke/VarHandle")
    {a : Addr} (E : Exa Z h a C) (M : Met1 l y bytes maxL ret [] rm (.ref a :: argsL).toArray Z h Q) (eT : T.heap = h) (hsize : Ls.size = c.maxLocals) {ps : List FieldType} {r : Option FieldType} (hpd : parseMethodDescriptor y0.desc = some ⟨ps, r⟩) (hlen : argsL.length = ps.length) (hst : st = argsL.reverse ++ .ref a :: rest) (hd : Ins1 code pc (.invokevirtual index) 3 pn) (hf : rm.frames + 1 ≤ R.frames) (W : Nat) (hW : (rest.map fun v => v.category).sum = W) (hl : W + (maxL + 11) + rm.locals ≤ R.locals) (hcl : cells + rm.cells ≤ R.cells) (hsl : slots + rm.slots ≤ R.slots)
    (k : ∀ T' v L, Stand p l e R s m args below meth c T' (locs ++ L) (cells + rm.cells) (slots + rm.slots) → Q v T'.heap L → Gd p e below P T' (mkF m pn Ls (v.toList ++ rest))) : Gd p e below P T (mkF m pc Ls st) := by
  obtain ⟨hd, rfl⟩ := hd
  obtain ⟨cq, kq, qa, qb, qc⟩ := isOf hZ eT E
  obtain ⟨v, _, ⟨T', L', k', n'⟩, -, X', ⟨Lc, hQ, l1, y1, z1⟩, stp⟩ := X.virtualBack hx (y := y0) (z := y) hown (mvT hZ w1) (mvT hZ w2) hnf (mvT hZ w5) (mvT hZ w6) hy (backOf (W := W) M hZ w4 w3 hf hl) qa qc (g := mkF m pc Ls st) rfl hsize (Steps.refl _) (argsL := argsL) (rest := rest) (lenOf hpd hlen) hst (by show 2 * 0 + _ ≤ _; rw [hW]; omega) (hb hby hd) (fun _ _ => ⟨rfl, eT, hcl, hsl⟩)
  dsimp only [Pt.U, Pt.locs, Pt.cells, Pt.slots] at X' l1 y1 z1 stp hQ
  subst l1 y1 z1
  exact (k T' v Lc X' hQ).of fun t q => stp.trans q
theorem g_ireturn (X : Stand p l e R s m args below meth c T locs cells slots) (hx : p.tables.exec = Jvm.exec) (hby : c.code = code) (hret : meth.sig.returnType = some .int) (hlk : meth.locks = false) {z : Int32} {Q : Option Value → Heap → List Loc → Prop} {C S : Nat} (hd : Ins1 code pc .ireturn 1 pn) (hc : cells ≤ C) (hs : slots ≤ S) (hQ : Q (some (.int z)) T.heap locs) : Gd p e below (Fin1 s below C S Q) T (mkF m pc Ls (.int z :: st)) := by
  obtain ⟨fs, hr, hrun, hended, hW, hsame⟩ := X.leave (v := some (.int z)) (fun q => by rw [hret] at q; cases q) hlk
  exact ⟨_, retOut X hx (t := .int) hret rfl (Or.inl ⟨rfl, Or.inl rfl, z, rfl⟩) (hb hby hd.1) hr, _, hrun, hended, _, _, rfl, hQ, ⟨_, rfl⟩, hW, hsame.mono hc hs⟩
theorem g_ireturnN (X : Stand p l e R s m args below meth c T locs cells slots) (hx : p.tables.exec = Jvm.exec) (hby : c.code = code) {ty : FieldType} (hret : meth.sig.returnType = some ty) (hty : ty = .boolean ∨ ty = .byte ∨ ty = .char ∨ ty = .short) (hlk : meth.locks = false) {z : Int32} {Q : Option Value → Heap → List Loc → Prop} {C S : Nat} (hd : Ins1 code pc .ireturn 1 pn) (hc : cells ≤ C) (hs : slots ≤ S) (hQ : Q (some (.int (nar ty z))) T.heap locs) : Gd p e below (Fin1 s below C S Q) T (mkF m pc Ls (.int z :: st)) := by
  obtain ⟨fs, hr, hrun, hended, hW, hsame⟩ := X.leave (v := some (.int (nar ty z))) (fun q => by rw [hret] at q; cases q) hlk
  exact ⟨_, retN X hx hret hty (hb hby hd.1) hr, _, hrun, hended, _, _, rfl, hQ, ⟨_, rfl⟩, hW, hsame.mono hc hs⟩
theorem g_lreturn (X : Stand p l e R s m args below meth c T locs cells slots) (hx : p.tables.exec = Jvm.exec) (hby : c.code = code) (hret : meth.sig.returnType = some .long) (hlk : meth.locks = false) {z : Int64} {Q : Option Value → Heap → List Loc → Prop} {C S : Nat} (hd : Ins1 code pc .lreturn 1 pn) (hc : cells ≤ C) (hs : slots ≤ S) (hQ : Q (some (.long z)) T.heap locs) : Gd p e below (Fin1 s below C S Q) T (mkF m pc Ls (.long z :: st)) := by
  obtain ⟨fs, hr, hrun, hended, hW, hsame⟩ := X.leave (v := some (.long z)) (fun q => by rw [hret] at q; cases q) hlk
  exact ⟨_, retOut X hx (t := .long) hret rfl (Or.inr (Or.inl ⟨rfl, rfl, z, rfl⟩)) (hb hby hd.1) hr, _, hrun, hended, _, _, rfl, hQ, ⟨_, rfl⟩, hW, hsame.mono hc hs⟩
theorem g_dreturn (X : Stand p l e R s m args below meth c T locs cells slots) (hx : p.tables.exec = Jvm.exec) (hby : c.code = code) (hret : meth.sig.returnType = some .double) (hlk : meth.locks = false) {z : UInt64} {Q : Option Value → Heap → List Loc → Prop} {C S : Nat} (hd : Ins1 code pc .dreturn 1 pn) (hc : cells ≤ C) (hs : slots ≤ S) (hQ : Q (some (.double z)) T.heap locs) : Gd p e below (Fin1 s below C S Q) T (mkF m pc Ls (.double z :: st)) := by
  obtain ⟨fs, hr, hrun, hended, hW, hsame⟩ := X.leave (v := some (.double z)) (fun q => by rw [hret] at q; cases q) hlk
  exact ⟨_, retOut X hx (t := .double) hret rfl (Or.inr (Or.inr (Or.inl ⟨rfl, rfl, z, rfl⟩))) (hb hby hd.1) hr, _, hrun, hended, _, _, rfl, hQ, ⟨_, rfl⟩, hW, hsame.mono hc hs⟩
theorem g_areturn (X : Stand p l e R s m args below meth c T locs cells slots) (hx : p.tables.exec = Jvm.exec) (hby : c.code = code) {ty : FieldType} (hret : meth.sig.returnType = some ty) (hty : ty.isReference = true) (hn : ∀ v, narrow ty v = v) (hlk : meth.locks = false) {z : Value} (hz : z.isRef = true) {Q : Option Value → Heap → List Loc → Prop} {C S : Nat} (hd : Ins1 code pc .areturn 1 pn) (hc : cells ≤ C) (hs : slots ≤ S) (hQ : Q (some z) T.heap locs) : Gd p e below (Fin1 s below C S Q) T (mkF m pc Ls (z :: st)) := by
  obtain ⟨fs, hr, hrun, hended, hW, hsame⟩ := X.leave (v := some z) (fun q => by rw [hret] at q; cases q) hlk
  exact ⟨_, retOut X hx hret (hn z) (Or.inr (Or.inr (Or.inr (Or.inr ⟨rfl, hty, hz⟩)))) (hb hby hd.1) hr, _, hrun, hended, _, _, rfl, hQ, ⟨_, rfl⟩, hW, hsame.mono hc hs⟩
theorem g_return (X : Stand p l e R s m args below meth c T locs cells slots) (hx : p.tables.exec = Jvm.exec) (hby : c.code = code) (hret : meth.sig.returnType = none) (hlk : meth.locks = false) {Q : Option Value → Heap → List Loc → Prop} {C S : Nat} (hd : Ins1 code pc .return_ 1 pn) (hc : cells ≤ C) (hs : slots ≤ S) (hQ : Q none T.heap locs) : Gd p e below (Fin1 s below C S Q) T (mkF m pc Ls []) := by
  obtain ⟨fs, hr, hrun, hended, hW, hsame⟩ := X.leave (v := none) (fun _ => rfl) hlk
  exact ⟨_, X.returnOut hx hret (hb hby hd.1) hr, _, hrun, hended, _, _, rfl, hQ, ⟨_, rfl⟩, hW, hsame.mono hc hs⟩
theorem own_stat {C n d K : String} (hx : (Jvm.Cond.exactly (.static C n d) K).value args Z none Z [] = some true) (w1 : (Jvm.Cond.initialized C).before args Z = true) (w2 : (Jvm.Cond.laysStatic C n d).before args Z = true) : ∃ a, (Term.static C n d).eval args Z none [] Z = some (.ref a) ∧ Sta Z Z.heap C n d (.ref a) ∧ Exa Z Z.heap a K := by
  obtain ⟨a, c', cell, k, e1, -⟩ := Cond.exactly_spec (Cond.before_iff.mpr hx)
  exact ⟨a, e1, Sta.start e1 (Or.inr ⟨w1, w2⟩), Exa.start e1 hx⟩
theorem own_sfld {t : Term} {a : Addr} {C f dd : String} {n : Int32} (ev : t.eval args Z none [] Z = some (.ref a)) (q : (Jvm.Cond.eq (.field t C f dd) (.int n)).value args Z none Z [] = some true) : Fld Z Z.heap a C f dd (.int n) := Fld.start (by rw [← fld_at (C := C) (n := f) (dd := dd) ev]; exact eqv_i (Term.int_eval n) q)
end K
end Jvm.OwnG
namespace Jvm.Pilot.@@N@@
open Jvm Jvm.ClassFile Sem Op Lib Jvm.Free Jvm.Stand Jvm.LawKit Jvm.RoadKit Jvm.OwnG Bundle Jvm.Pilot.@@N@@.Jvm.D
theorem i1_0 : Ins1 prog_14_method_2_code 0 (.iload_n 0) 1 1 := ⟨by decide +kernel, rfl⟩
theorem i1_1 : InsB prog_14_method_2_code 1 (.ifCond .eq 9) 9 4 10 := ⟨by decide +kernel, rfl, by decide, by decide⟩
theorem i1_4 : Ins1 prog_14_method_2_code 4 (.getstatic 13) 3 7 := ⟨by decide +kernel, rfl⟩
theorem i1_7 : InsB prog_14_method_2_code 7 (.goto 6) 6 10 13 := ⟨by decide +kernel, rfl, by decide, by decide⟩
theorem i1_10 : Ins1 prog_14_method_2_code 10 (.getstatic 17) 3 13 := ⟨by decide +kernel, rfl⟩
theorem i1_13 : Ins1 prog_14_method_2_code 13 (.areturn) 1 14 := ⟨by decide +kernel, rfl⟩
theorem pn_com_example_holdfast_holdfast_eval_BoolValue : plainName "com/example/holdfast/holdfast/eval/BoolValue" = true := by first | (simp [plainName, overriddenIn]; done) | decide +kernel
theorem ef_1 (m : MethodId) (p0 : Int32) : entryFrame m #[(.int p0)] 1 = mkF m 0 #[.val (.int p0)] [] := by first | (simp [entryFrame, mkF, argsToLocals, Value.category]; done) | rfl
set_option maxRecDepth 65536 in
set_option maxHeartbeats 40000000 in
theorem rm1 (l : Launch) (Z : State) (a0 : Array Value) (hw : ∀ d ∈ tables_1, d.before a0 Z = true) (ws : List Jvm.Cond) (p0 : Int32) (aF aT : Addr) (h0 : Heap) (n0 : Nat) (Z0 : n0 ≤ h0.size) (S_F : Sta Z h0 "com/example/holdfast/holdfast/eval/BoolValue" "FALSE" "Lcom/example/holdfast/holdfast/eval/BoolValue;" (.ref aF)) (S_T : Sta Z h0 "com/example/holdfast/holdfast/eval/BoolValue" "TRUE" "Lcom/example/holdfast/holdfast/eval/BoolValue;" (.ref aT)) :
    Met1 l (⟨"com/example/holdfast/holdfast/eval/BoolValue", "of", "(Z)Lcom/example/holdfast/holdfast/eval/BoolValue;"⟩ : MethodName) prog_14_method_2_code 1 (some (.object "com/example/holdfast/holdfast/eval/BoolValue")) ws ({ frames := 0, cells := 0, slots := 0, locals := 0 } : Room) #[(.int p0)] Z h0 (RV fun z h L => (p0 = 0 → z = .ref aF) ∧ (¬ p0 = 0 → z = .ref aT) ∧ h = h0 ∧ Fr n0 L) := by
  refine met_of (plainFor_of_name pn_com_example_holdfast_holdfast_eval_BoolValue) ?_
  intro p e s m below meth c T0 X0 hx hby hml hZ hown hnm hret hlk e0 es
  have N0 := Fr.nil n0
  refine Gd.cast (ef_1 m p0) ?_
  refine g_iloadN X0 hx hby i1_0 rfl ?_
  refine g_if_eq X0 hx hby i1_1 (fun c1_1 => ?_) (fun c1_1 => ?_)
  · refine g_getstatic X0 hx hby hZ hown (host := "") (Or.inl (hw _ (List.mem_of_getElem? (i := 4) rfl))) Via.refl e0 S_F i1_10 fun T2 X2 e2 => ?_
    refine g_areturn X2 hx hby hret rfl (fun _ => rfl) hlk rfl i1_13 (by decide) (by decide) ?_
    exact ⟨_, rfl, fun q => rfl, fun q => absurd c1_1 q, e2, N0⟩
  · refine g_getstatic X0 hx hby hZ hown (host := "") (Or.inl (hw _ (List.mem_of_getElem? (i := 6) rfl))) Via.refl e0 S_T i1_4 fun T3 X3 e3 => ?_
    refine g_goto X3 hx hby i1_7 ?_
    refine g_areturn X3 hx hby hret rfl (fun _ => rfl) hlk rfl i1_13 (by decide) (by decide) ?_
    exact ⟨_, rfl, fun q => absurd q c1_1, fun q => rfl, e3, N0⟩
theorem i2_0 : Ins1 prog_14_method_3_code 0 (.aload_n 0) 1 1 := ⟨by decide +kernel, rfl⟩
theorem i2_1 : Ins1 prog_14_method_3_code 1 (.getfield 7) 3 4 := ⟨by decide +kernel, rfl⟩
theorem i2_4 : Ins1 prog_14_method_3_code 4 (.ireturn) 1 5 := ⟨by decide +kernel, rfl⟩
theorem ef_2 (m : MethodId) (a0' : Addr) : entryFrame m #[(.ref a0')] 1 = mkF m 0 #[.val (.ref a0')] [] := by first | (simp [entryFrame, mkF, argsToLocals, Value.category]; done) | rfl
set_option maxRecDepth 65536 in
set_option maxHeartbeats 40000000 in
theorem rm2 (l : Launch) (Z : State) (a0 : Array Value) (hw : ∀ d ∈ tables_1, d.before a0 Z = true) (ws : List Jvm.Cond) (a0' : Addr) (w : Int32) (h0 : Heap) (n0 : Nat) (Z0 : n0 ≤ h0.size) (F : Fld Z h0 a0' "com/example/holdfast/holdfast/eval/BoolValue" "m_bValue" "Z" (.int w)) :
    Met1 l (⟨"com/example/holdfast/holdfast/eval/BoolValue", "isTrue", "()Z"⟩ : MethodName) prog_14_method_3_code 1 (some .boolean) ws ({ frames := 0, cells := 0, slots := 0, locals := 0 } : Room) #[(.ref a0')] Z h0 (RV fun z h L => z = .int (nar .boolean w) ∧ h = h0 ∧ Fr n0 L) := by
  refine met_of (plainFor_of_name pn_com_example_holdfast_holdfast_eval_BoolValue) ?_
  intro p e s m below meth c T0 X0 hx hby hml hZ hown hnm hret hlk e0 es
  have N0 := Fr.nil n0
  refine Gd.cast (ef_2 m a0') ?_
  refine g_aloadN X0 hx hby i2_0 rfl rfl ?_
  refine g_getfield X0 hx hby hZ hown (host := "") (Or.inl (hw _ (List.mem_of_getElem? (i := 15) rfl))) Via.refl e0 F i2_1 fun T1 X1 e1 => ?_
  refine g_ireturnN X1 hx hby (ty := .boolean) hret (by simp) hlk i2_4 (by decide) (by decide) ?_
  exact ⟨_, rfl, rfl, e1, N0⟩
theorem i0_0 : Ins1 code 0 (.iload_n 0) 1 1 := ⟨at_0, rfl⟩
theorem i0_1 : Ins1 code 1 (.iconst 1) 1 2 := ⟨at_1, rfl⟩
theorem i0_2 : Ins1 code 2 (.iand) 1 3 := ⟨at_2, rfl⟩
theorem i0_3 : InsB code 3 (.ifCond .eq 7) 7 6 10 := ⟨at_3, rfl, by decide, by decide⟩
theorem i0_6 : Ins1 code 6 (.iconst 1) 1 7 := ⟨at_6, rfl⟩
theorem i0_7 : InsB code 7 (.goto 4) 4 10 11 := ⟨at_7, rfl, by decide, by decide⟩
theorem i0_10 : Ins1 code 10 (.iconst 0) 1 11 := ⟨at_10, rfl⟩
theorem i0_11 : Ins1 code 11 (.istore_n 1) 1 12 := ⟨at_11, rfl⟩
theorem i0_12 : Ins1 code 12 (.iload_n 1) 1 13 := ⟨at_12, rfl⟩
theorem i0_13 : Ins1 code 13 (.invokestatic 7) 3 16 := ⟨at_13, rfl⟩
theorem i0_16 : Ins1 code 16 (.astore_n 2) 1 17 := ⟨at_16, rfl⟩
theorem i0_17 : Ins1 code 17 (.iload_n 1) 1 18 := ⟨at_17, rfl⟩
theorem i0_18 : InsB code 18 (.ifCond .ne 7) 7 21 25 := ⟨at_18, rfl, by decide, by decide⟩
theorem i0_21 : Ins1 code 21 (.iconst 1) 1 22 := ⟨at_21, rfl⟩
theorem i0_22 : InsB code 22 (.goto 4) 4 25 26 := ⟨at_22, rfl, by decide, by decide⟩
theorem i0_25 : Ins1 code 25 (.iconst 0) 1 26 := ⟨at_25, rfl⟩
theorem i0_26 : Ins1 code 26 (.invokestatic 7) 3 29 := ⟨at_26, rfl⟩
theorem i0_29 : Ins1 code 29 (.astore_n 3) 1 30 := ⟨at_29, rfl⟩
theorem i0_30 : Ins1 code 30 (.aload_n 2) 1 31 := ⟨at_30, rfl⟩
theorem i0_31 : InsB code 31 (.ifnull 7) 7 34 38 := ⟨at_31, rfl, by decide, by decide⟩
theorem i0_34 : Ins1 code 34 (.aload_n 3) 1 35 := ⟨at_34, rfl⟩
theorem i0_35 : InsB code 35 (.ifnonnull 5) 5 38 40 := ⟨at_35, rfl, by decide, by decide⟩
theorem i0_38 : Ins1 code 38 (.iconst 0) 1 39 := ⟨at_38, rfl⟩
theorem i0_39 : Ins1 code 39 (.ireturn) 1 40 := ⟨at_39, rfl⟩
theorem i0_40 : Ins1 code 40 (.iload_n 1) 1 41 := ⟨at_40, rfl⟩
theorem i0_41 : InsB code 41 (.ifCond .eq 27) 27 44 68 := ⟨at_41, rfl, by decide, by decide⟩
theorem i0_44 : Ins1 code 44 (.aload_n 2) 1 45 := ⟨at_44, rfl⟩
theorem i0_45 : Ins1 code 45 (.getstatic 13) 3 48 := ⟨at_45, rfl⟩
theorem i0_48 : InsB code 48 (.if_acmp .ne 14) 14 51 62 := ⟨at_48, rfl, by decide, by decide⟩
theorem i0_51 : Ins1 code 51 (.aload_n 3) 1 52 := ⟨at_51, rfl⟩
theorem i0_52 : Ins1 code 52 (.getstatic 17) 3 55 := ⟨at_52, rfl⟩
theorem i0_55 : InsB code 55 (.if_acmp .ne 7) 7 58 62 := ⟨at_55, rfl, by decide, by decide⟩
theorem i0_58 : Ins1 code 58 (.iconst 1) 1 59 := ⟨at_58, rfl⟩
theorem i0_59 : InsB code 59 (.goto 4) 4 62 63 := ⟨at_59, rfl, by decide, by decide⟩
theorem i0_62 : Ins1 code 62 (.iconst 0) 1 63 := ⟨at_62, rfl⟩
theorem i0_63 : Ins1 code 63 (.istore 4) 2 65 := ⟨at_63, rfl⟩
theorem i0_65 : InsB code 65 (.goto 24) 24 68 89 := ⟨at_65, rfl, by decide, by decide⟩
theorem i0_68 : Ins1 code 68 (.aload_n 2) 1 69 := ⟨at_68, rfl⟩
theorem i0_69 : Ins1 code 69 (.getstatic 17) 3 72 := ⟨at_69, rfl⟩
theorem i0_72 : InsB code 72 (.if_acmp .ne 14) 14 75 86 := ⟨at_72, rfl, by decide, by decide⟩
theorem i0_75 : Ins1 code 75 (.aload_n 3) 1 76 := ⟨at_75, rfl⟩
theorem i0_76 : Ins1 code 76 (.getstatic 13) 3 79 := ⟨at_76, rfl⟩
theorem i0_79 : InsB code 79 (.if_acmp .ne 7) 7 82 86 := ⟨at_79, rfl, by decide, by decide⟩
theorem i0_82 : Ins1 code 82 (.iconst 1) 1 83 := ⟨at_82, rfl⟩
theorem i0_83 : InsB code 83 (.goto 4) 4 86 87 := ⟨at_83, rfl, by decide, by decide⟩
theorem i0_86 : Ins1 code 86 (.iconst 0) 1 87 := ⟨at_86, rfl⟩
theorem i0_87 : Ins1 code 87 (.istore 4) 2 89 := ⟨at_87, rfl⟩
theorem i0_89 : Ins1 code 89 (.iload 4) 2 91 := ⟨at_89, rfl⟩
theorem i0_91 : InsB code 91 (.ifCond .eq 36) 36 94 127 := ⟨at_91, rfl, by decide, by decide⟩
theorem i0_94 : Ins1 code 94 (.aload_n 2) 1 95 := ⟨at_94, rfl⟩
theorem i0_95 : Ins1 code 95 (.invokevirtual 20) 3 98 := ⟨at_95, rfl⟩
theorem i0_98 : Ins1 code 98 (.iload_n 1) 1 99 := ⟨at_98, rfl⟩
theorem i0_99 : InsB code 99 (.if_icmp .ne 28) 28 102 127 := ⟨at_99, rfl, by decide, by decide⟩
theorem i0_102 : Ins1 code 102 (.aload_n 3) 1 103 := ⟨at_102, rfl⟩
theorem i0_103 : Ins1 code 103 (.invokevirtual 20) 3 106 := ⟨at_103, rfl⟩
theorem i0_106 : Ins1 code 106 (.iload_n 1) 1 107 := ⟨at_106, rfl⟩
theorem i0_107 : InsB code 107 (.ifCond .ne 7) 7 110 114 := ⟨at_107, rfl, by decide, by decide⟩
theorem i0_110 : Ins1 code 110 (.iconst 1) 1 111 := ⟨at_110, rfl⟩
theorem i0_111 : InsB code 111 (.goto 4) 4 114 115 := ⟨at_111, rfl, by decide, by decide⟩
theorem i0_114 : Ins1 code 114 (.iconst 0) 1 115 := ⟨at_114, rfl⟩
theorem i0_115 : InsB code 115 (.if_icmp .ne 12) 12 118 127 := ⟨at_115, rfl, by decide, by decide⟩
theorem i0_118 : Ins1 code 118 (.aload_n 2) 1 119 := ⟨at_118, rfl⟩
theorem i0_119 : Ins1 code 119 (.aload_n 3) 1 120 := ⟨at_119, rfl⟩
theorem i0_120 : InsB code 120 (.if_acmp .eq 7) 7 123 127 := ⟨at_120, rfl, by decide, by decide⟩
theorem i0_123 : Ins1 code 123 (.iconst 1) 1 124 := ⟨at_123, rfl⟩
theorem i0_124 : InsB code 124 (.goto 4) 4 127 128 := ⟨at_124, rfl, by decide, by decide⟩
theorem i0_127 : Ins1 code 127 (.iconst 0) 1 128 := ⟨at_127, rfl⟩
theorem i0_128 : Ins1 code 128 (.ireturn) 1 129 := ⟨at_128, rfl⟩
theorem pn_com_example_holdfast_holdfast_eval_BoolValueOfPinLaw : plainName "com/example/holdfast/holdfast/eval/BoolValueOfPinLaw" = true := by first | (simp [plainName, overriddenIn]; done) | decide +kernel
theorem ef_0 (m : MethodId) (p0 : Int32) : entryFrame m #[(.int p0)] maxLocals = mkF m 0 #[.val (.int p0), .unset, .unset, .unset, .unset] [] := by first | (simp [entryFrame, mkF, argsToLocals, Value.category, maxLocals]; done) | rfl
theorem pd_0 : parseMethodDescriptor "(Z)Lcom/example/holdfast/holdfast/eval/BoolValue;" = some ⟨[.boolean], some (.object "com/example/holdfast/holdfast/eval/BoolValue")⟩ := by decide +kernel
theorem pd_1 : parseMethodDescriptor "()Z" = some ⟨[], some .boolean⟩ := by decide +kernel
set_option maxRecDepth 65536 in
set_option maxHeartbeats 40000000 in
theorem rm0 (l : Launch) (Z : State) (a0 : Array Value) (hw : ∀ d ∈ tables_1, d.before a0 Z = true) (ws : List Jvm.Cond) (p0 : Int32) (aF aT : Addr) (h0 : Heap) (n0 : Nat) (Z0 : n0 ≤ h0.size) (S_F : Sta Z h0 "com/example/holdfast/holdfast/eval/BoolValue" "FALSE" "Lcom/example/holdfast/holdfast/eval/BoolValue;" (.ref aF)) (S_T : Sta Z h0 "com/example/holdfast/holdfast/eval/BoolValue" "TRUE" "Lcom/example/holdfast/holdfast/eval/BoolValue;" (.ref aT)) (E_F : Exa Z h0 aF "com/example/holdfast/holdfast/eval/BoolValue") (E_T : Exa Z h0 aT "com/example/holdfast/holdfast/eval/BoolValue") (F_F : Fld Z h0 aF "com/example/holdfast/holdfast/eval/BoolValue" "m_bValue" "Z" (.int 0)) (F_T : Fld Z h0 aT "com/example/holdfast/holdfast/eval/BoolValue" "m_bValue" "Z" (.int 1)) (hne : ¬ Value.ref aF = Value.ref aT) :
    Met1 l x code maxLocals ret ws room_1 #[(.int p0)] Z h0 (RV fun z _ L => z = .int 1 ∧ Fr n0 L) := by
  refine met_of (plainFor_of_name pn_com_example_holdfast_holdfast_eval_BoolValueOfPinLaw) ?_
  intro p e s m below meth c T0 X0 hx hby hml hZ hown hnm hret hlk e0 es
  have N0 := Fr.nil n0
  refine Gd.cast (ef_0 m p0) ?_
  replace hown : s.vm.findClass "com/example/holdfast/holdfast/eval/BoolValueOfPinLaw" = some m.cls := hown
  refine g_iloadN X0 hx hby i0_0 rfl ?_
  refine g_iconst X0 hx hby i0_1 (z := (1 : Int32)) (by decide) ?_
  refine g_iand X0 hx hby i0_2 ?_
  refine g_if_eq X0 hx hby i0_3 (fun c3_1 => ?_) (fun c3_1 => ?_)
  · refine g_iconst X0 hx hby i0_10 (z := (0 : Int32)) (by decide) ?_
    refine g_istoreN X0 hx hby i0_11 (l' := #[.val (.int p0), .val (.int (0 : Int32)), .unset, .unset, .unset]) rfl ?_
    refine g_iloadN X0 hx hby i0_12 rfl ?_
    refine g_callS0 X0 hx hby hZ (y := (⟨"com/example/holdfast/holdfast/eval/BoolValue", "of", "(Z)Lcom/example/holdfast/holdfast/eval/BoolValue;"⟩ : MethodName)) (argsL := [(.int (0 : Int32))]) (rest := []) hown (hw _ (List.mem_of_getElem? (i := 0) rfl)) (hw _ (List.mem_of_getElem? (i := 1) rfl)) (hw _ (List.mem_of_getElem? (i := 2) rfl)) (hw _ (List.mem_of_getElem? (i := 3) rfl)) (by decide) (rm1 l Z a0 hw [] (0 : Int32) aF aT h0 n0 Z0 S_F S_T) e0 (by rw [hml]; rfl) pd_0 rfl rfl i0_13 (by decide) 0 rfl (by decide) (by decide) (by decide) fun T2 v2 L2 X2 q2 => ?_
    obtain ⟨z2, rfl, y2, n2, e2, N2⟩ := q2
    have N0 := Fr.app N0 N2
    obtain rfl := y2 rfl
    show Gd p e below _ T2 (mkF m 16 #[.val (.int p0), .val (.int (0 : Int32)), .unset, .unset, .unset] [(.ref aF)])
    refine g_astoreN X2 hx hby i0_16 rfl (l' := #[.val (.int p0), .val (.int (0 : Int32)), .val (.ref aF), .unset, .unset]) rfl ?_
    refine g_iloadN X2 hx hby i0_17 rfl ?_
    refine g_if_ne X2 hx hby i0_18 (fun c18_3 => False.elim (absurd c18_3 (by decide))) fun c18_3 => ?_
    refine g_iconst X2 hx hby i0_21 (z := (1 : Int32)) (by decide) ?_
    refine g_goto X2 hx hby i0_22 ?_
    refine g_callS0 X2 hx hby hZ (y := (⟨"com/example/holdfast/holdfast/eval/BoolValue", "of", "(Z)Lcom/example/holdfast/holdfast/eval/BoolValue;"⟩ : MethodName)) (argsL := [(.int (1 : Int32))]) (rest := []) hown (hw _ (List.mem_of_getElem? (i := 0) rfl)) (hw _ (List.mem_of_getElem? (i := 1) rfl)) (hw _ (List.mem_of_getElem? (i := 2) rfl)) (hw _ (List.mem_of_getElem? (i := 3) rfl)) (by decide) (rm1 l Z a0 hw [] (1 : Int32) aF aT h0 n0 Z0 S_F S_T) e2 (by rw [hml]; rfl) pd_0 rfl rfl i0_26 (by decide) 0 rfl (by decide) (by decide) (by decide) fun T4 v4 L4 X4 q4 => ?_
    obtain ⟨z4, rfl, y4, n4, e4, N4⟩ := q4
    have N0 := Fr.app N0 N4
    obtain rfl := n4 (by decide)
    show Gd p e below _ T4 (mkF m 29 #[.val (.int p0), .val (.int (0 : Int32)), .val (.ref aF), .unset, .unset] [(.ref aT)])
    refine g_astoreN X4 hx hby i0_29 rfl (l' := #[.val (.int p0), .val (.int (0 : Int32)), .val (.ref aF), .val (.ref aT), .unset]) rfl ?_
    refine g_aloadN X4 hx hby i0_30 rfl rfl ?_
    refine g_ifnull_n X4 hx hby i0_31 ?_
    refine g_aloadN X4 hx hby i0_34 rfl rfl ?_
    refine g_ifnonnull_y X4 hx hby i0_35 ?_
    refine g_iloadN X4 hx hby i0_40 rfl ?_
    refine g_if_eq X4 hx hby i0_41 (fun c41_5 => ?_) (fun c41_5 => False.elim (absurd c41_5 (by decide)))
    refine g_aloadN X4 hx hby i0_68 rfl rfl ?_
    refine g_getstatic X4 hx hby hZ hown (host := "") (Or.inl (hw _ (List.mem_of_getElem? (i := 8) rfl))) Via.refl e4 S_F i0_69 fun T6 X6 e6 => ?_
    refine g_acmp_ne X6 hx hby i0_72 rfl rfl (fun c72_7 => False.elim (c72_7 rfl)) fun c72_7 => ?_
    refine g_aloadN X6 hx hby i0_75 rfl rfl ?_
    refine g_getstatic X6 hx hby hZ hown (host := "") (Or.inl (hw _ (List.mem_of_getElem? (i := 9) rfl))) Via.refl e6 S_T i0_76 fun T8 X8 e8 => ?_
    refine g_acmp_ne X8 hx hby i0_79 rfl rfl (fun c79_9 => False.elim (c79_9 rfl)) fun c79_9 => ?_
    refine g_iconst X8 hx hby i0_82 (z := (1 : Int32)) (by decide) ?_
    refine g_goto X8 hx hby i0_83 ?_
    refine g_istore X8 hx hby i0_87 (l' := #[.val (.int p0), .val (.int (0 : Int32)), .val (.ref aF), .val (.ref aT), .val (.int (1 : Int32))]) rfl ?_
    refine g_iload X8 hx hby i0_89 rfl ?_
    refine g_if_eq X8 hx hby i0_91 (fun c91_10 => False.elim (absurd c91_10 (by decide))) fun c91_10 => ?_
    refine g_aloadN X8 hx hby i0_94 rfl rfl ?_
    refine g_callV0 X8 hx hby hZ (y0 := (⟨"com/example/holdfast/holdfast/eval/BoolValue", "isTrue", "()Z"⟩ : MethodName)) (y := (⟨"com/example/holdfast/holdfast/eval/BoolValue", "isTrue", "()Z"⟩ : MethodName)) (argsL := []) (rest := []) hown (hw _ (List.mem_of_getElem? (i := 10) rfl)) (hw _ (List.mem_of_getElem? (i := 11) rfl)) (notFace_of_selects (args := #[]) (mvT hZ (hw _ (List.mem_of_getElem? (i := 13) rfl)))) (hw _ (List.mem_of_getElem? (i := 13) rfl)) (hw _ (List.mem_of_getElem? (i := 12) rfl)) (hw _ (List.mem_of_getElem? (i := 2) rfl)) (hw _ (List.mem_of_getElem? (i := 14) rfl)) (by decide) (a := aF) E_F (rm2 l Z a0 hw [] aF (0 : Int32) h0 n0 Z0 F_F) e8 (by rw [hml]; rfl) pd_1 rfl rfl i0_95 (by decide) 0 rfl (by decide) (by decide) (by decide) fun T11 v11 L11 X11 q11 => ?_
    obtain ⟨_, rfl, rfl, e11, N11⟩ := q11
    have N0 := Fr.app N0 N11
    show Gd p e below _ T11 (mkF m 98 #[.val (.int p0), .val (.int (0 : Int32)), .val (.ref aF), .val (.ref aT), .val (.int (1 : Int32))] [(.int (0 : Int32))])
    refine g_iloadN X11 hx hby i0_98 rfl ?_
    refine g_icmp_ne X11 hx hby i0_99 (fun c99_12 => False.elim (absurd c99_12 (by decide))) fun c99_12 => ?_
    refine g_aloadN X11 hx hby i0_102 rfl rfl ?_
    refine g_callV0 X11 hx hby hZ (y0 := (⟨"com/example/holdfast/holdfast/eval/BoolValue", "isTrue", "()Z"⟩ : MethodName)) (y := (⟨"com/example/holdfast/holdfast/eval/BoolValue", "isTrue", "()Z"⟩ : MethodName)) (argsL := []) (rest := []) hown (hw _ (List.mem_of_getElem? (i := 10) rfl)) (hw _ (List.mem_of_getElem? (i := 11) rfl)) (notFace_of_selects (args := #[]) (mvT hZ (hw _ (List.mem_of_getElem? (i := 13) rfl)))) (hw _ (List.mem_of_getElem? (i := 13) rfl)) (hw _ (List.mem_of_getElem? (i := 12) rfl)) (hw _ (List.mem_of_getElem? (i := 2) rfl)) (hw _ (List.mem_of_getElem? (i := 14) rfl)) (by decide) (a := aT) E_T (rm2 l Z a0 hw [] aT (1 : Int32) h0 n0 Z0 F_T) e11 (by rw [hml]; rfl) pd_1 rfl rfl i0_103 (by decide) 0 rfl (by decide) (by decide) (by decide) fun T13 v13 L13 X13 q13 => ?_
    obtain ⟨_, rfl, rfl, e13, N13⟩ := q13
    have N0 := Fr.app N0 N13
    show Gd p e below _ T13 (mkF m 106 #[.val (.int p0), .val (.int (0 : Int32)), .val (.ref aF), .val (.ref aT), .val (.int (1 : Int32))] [(.int (1 : Int32))])
    refine g_iloadN X13 hx hby i0_106 rfl ?_
    refine g_if_ne X13 hx hby i0_107 (fun c107_14 => False.elim (absurd c107_14 (by decide))) fun c107_14 => ?_
    refine g_iconst X13 hx hby i0_110 (z := (1 : Int32)) (by decide) ?_
    refine g_goto X13 hx hby i0_111 ?_
    refine g_icmp_ne X13 hx hby i0_115 (fun c115_15 => False.elim (absurd c115_15 (by decide))) fun c115_15 => ?_
    refine g_aloadN X13 hx hby i0_118 rfl rfl ?_
    refine g_aloadN X13 hx hby i0_119 rfl rfl ?_
    refine g_acmp_eq X13 hx hby i0_120 rfl rfl (fun c120_16 => False.elim (hne c120_16)) fun c120_16 => ?_
    refine g_iconst X13 hx hby i0_123 (z := (1 : Int32)) (by decide) ?_
    refine g_goto X13 hx hby i0_124 ?_
    refine g_ireturnN X13 hx hby (ty := .boolean) hret (by simp) hlk i0_128 (by decide) (by decide) ?_
    exact ⟨_, rfl, rfl, N0⟩
  · refine g_iconst X0 hx hby i0_6 (z := (1 : Int32)) (by decide) ?_
    refine g_goto X0 hx hby i0_7 ?_
    refine g_istoreN X0 hx hby i0_11 (l' := #[.val (.int p0), .val (.int (1 : Int32)), .unset, .unset, .unset]) rfl ?_
    refine g_iloadN X0 hx hby i0_12 rfl ?_
    refine g_callS0 X0 hx hby hZ (y := (⟨"com/example/holdfast/holdfast/eval/BoolValue", "of", "(Z)Lcom/example/holdfast/holdfast/eval/BoolValue;"⟩ : MethodName)) (argsL := [(.int (1 : Int32))]) (rest := []) hown (hw _ (List.mem_of_getElem? (i := 0) rfl)) (hw _ (List.mem_of_getElem? (i := 1) rfl)) (hw _ (List.mem_of_getElem? (i := 2) rfl)) (hw _ (List.mem_of_getElem? (i := 3) rfl)) (by decide) (rm1 l Z a0 hw [] (1 : Int32) aF aT h0 n0 Z0 S_F S_T) e0 (by rw [hml]; rfl) pd_0 rfl rfl i0_13 (by decide) 0 rfl (by decide) (by decide) (by decide) fun T17 v17 L17 X17 q17 => ?_
    obtain ⟨z17, rfl, y17, n17, e17, N17⟩ := q17
    have N0 := Fr.app N0 N17
    obtain rfl := n17 (by decide)
    show Gd p e below _ T17 (mkF m 16 #[.val (.int p0), .val (.int (1 : Int32)), .unset, .unset, .unset] [(.ref aT)])
    refine g_astoreN X17 hx hby i0_16 rfl (l' := #[.val (.int p0), .val (.int (1 : Int32)), .val (.ref aT), .unset, .unset]) rfl ?_
    refine g_iloadN X17 hx hby i0_17 rfl ?_
    refine g_if_ne X17 hx hby i0_18 (fun c18_18 => ?_) (fun c18_18 => False.elim (absurd c18_18 (by decide)))
    refine g_iconst X17 hx hby i0_25 (z := (0 : Int32)) (by decide) ?_
    refine g_callS0 X17 hx hby hZ (y := (⟨"com/example/holdfast/holdfast/eval/BoolValue", "of", "(Z)Lcom/example/holdfast/holdfast/eval/BoolValue;"⟩ : MethodName)) (argsL := [(.int (0 : Int32))]) (rest := []) hown (hw _ (List.mem_of_getElem? (i := 0) rfl)) (hw _ (List.mem_of_getElem? (i := 1) rfl)) (hw _ (List.mem_of_getElem? (i := 2) rfl)) (hw _ (List.mem_of_getElem? (i := 3) rfl)) (by decide) (rm1 l Z a0 hw [] (0 : Int32) aF aT h0 n0 Z0 S_F S_T) e17 (by rw [hml]; rfl) pd_0 rfl rfl i0_26 (by decide) 0 rfl (by decide) (by decide) (by decide) fun T19 v19 L19 X19 q19 => ?_
    obtain ⟨z19, rfl, y19, n19, e19, N19⟩ := q19
    have N0 := Fr.app N0 N19
    obtain rfl := y19 rfl
    show Gd p e below _ T19 (mkF m 29 #[.val (.int p0), .val (.int (1 : Int32)), .val (.ref aT), .unset, .unset] [(.ref aF)])
    refine g_astoreN X19 hx hby i0_29 rfl (l' := #[.val (.int p0), .val (.int (1 : Int32)), .val (.ref aT), .val (.ref aF), .unset]) rfl ?_
    refine g_aloadN X19 hx hby i0_30 rfl rfl ?_
    refine g_ifnull_n X19 hx hby i0_31 ?_
    refine g_aloadN X19 hx hby i0_34 rfl rfl ?_
    refine g_ifnonnull_y X19 hx hby i0_35 ?_
    refine g_iloadN X19 hx hby i0_40 rfl ?_
    refine g_if_eq X19 hx hby i0_41 (fun c41_20 => False.elim (absurd c41_20 (by decide))) fun c41_20 => ?_
    refine g_aloadN X19 hx hby i0_44 rfl rfl ?_
    refine g_getstatic X19 hx hby hZ hown (host := "") (Or.inl (hw _ (List.mem_of_getElem? (i := 9) rfl))) Via.refl e19 S_T i0_45 fun T21 X21 e21 => ?_
    refine g_acmp_ne X21 hx hby i0_48 rfl rfl (fun c48_22 => False.elim (c48_22 rfl)) fun c48_22 => ?_
    refine g_aloadN X21 hx hby i0_51 rfl rfl ?_
    refine g_getstatic X21 hx hby hZ hown (host := "") (Or.inl (hw _ (List.mem_of_getElem? (i := 8) rfl))) Via.refl e21 S_F i0_52 fun T23 X23 e23 => ?_
    refine g_acmp_ne X23 hx hby i0_55 rfl rfl (fun c55_24 => False.elim (c55_24 rfl)) fun c55_24 => ?_
    refine g_iconst X23 hx hby i0_58 (z := (1 : Int32)) (by decide) ?_
    refine g_goto X23 hx hby i0_59 ?_
    refine g_istore X23 hx hby i0_63 (l' := #[.val (.int p0), .val (.int (1 : Int32)), .val (.ref aT), .val (.ref aF), .val (.int (1 : Int32))]) rfl ?_
    refine g_goto X23 hx hby i0_65 ?_
    refine g_iload X23 hx hby i0_89 rfl ?_
    refine g_if_eq X23 hx hby i0_91 (fun c91_25 => False.elim (absurd c91_25 (by decide))) fun c91_25 => ?_
    refine g_aloadN X23 hx hby i0_94 rfl rfl ?_
    refine g_callV0 X23 hx hby hZ (y0 := (⟨"com/example/holdfast/holdfast/eval/BoolValue", "isTrue", "()Z"⟩ : MethodName)) (y := (⟨"com/example/holdfast/holdfast/eval/BoolValue", "isTrue", "()Z"⟩ : MethodName)) (argsL := []) (rest := []) hown (hw _ (List.mem_of_getElem? (i := 10) rfl)) (hw _ (List.mem_of_getElem? (i := 11) rfl)) (notFace_of_selects (args := #[]) (mvT hZ (hw _ (List.mem_of_getElem? (i := 13) rfl)))) (hw _ (List.mem_of_getElem? (i := 13) rfl)) (hw _ (List.mem_of_getElem? (i := 12) rfl)) (hw _ (List.mem_of_getElem? (i := 2) rfl)) (hw _ (List.mem_of_getElem? (i := 14) rfl)) (by decide) (a := aT) E_T (rm2 l Z a0 hw [] aT (1 : Int32) h0 n0 Z0 F_T) e23 (by rw [hml]; rfl) pd_1 rfl rfl i0_95 (by decide) 0 rfl (by decide) (by decide) (by decide) fun T26 v26 L26 X26 q26 => ?_
    obtain ⟨_, rfl, rfl, e26, N26⟩ := q26
    have N0 := Fr.app N0 N26
    show Gd p e below _ T26 (mkF m 98 #[.val (.int p0), .val (.int (1 : Int32)), .val (.ref aT), .val (.ref aF), .val (.int (1 : Int32))] [(.int (1 : Int32))])
    refine g_iloadN X26 hx hby i0_98 rfl ?_
    refine g_icmp_ne X26 hx hby i0_99 (fun c99_27 => False.elim (absurd c99_27 (by decide))) fun c99_27 => ?_
    refine g_aloadN X26 hx hby i0_102 rfl rfl ?_
    refine g_callV0 X26 hx hby hZ (y0 := (⟨"com/example/holdfast/holdfast/eval/BoolValue", "isTrue", "()Z"⟩ : MethodName)) (y := (⟨"com/example/holdfast/holdfast/eval/BoolValue", "isTrue", "()Z"⟩ : MethodName)) (argsL := []) (rest := []) hown (hw _ (List.mem_of_getElem? (i := 10) rfl)) (hw _ (List.mem_of_getElem? (i := 11) rfl)) (notFace_of_selects (args := #[]) (mvT hZ (hw _ (List.mem_of_getElem? (i := 13) rfl)))) (hw _ (List.mem_of_getElem? (i := 13) rfl)) (hw _ (List.mem_of_getElem? (i := 12) rfl)) (hw _ (List.mem_of_getElem? (i := 2) rfl)) (hw _ (List.mem_of_getElem? (i := 14) rfl)) (by decide) (a := aF) E_F (rm2 l Z a0 hw [] aF (0 : Int32) h0 n0 Z0 F_F) e26 (by rw [hml]; rfl) pd_1 rfl rfl i0_103 (by decide) 0 rfl (by decide) (by decide) (by decide) fun T28 v28 L28 X28 q28 => ?_
    obtain ⟨_, rfl, rfl, e28, N28⟩ := q28
    have N0 := Fr.app N0 N28
    show Gd p e below _ T28 (mkF m 106 #[.val (.int p0), .val (.int (1 : Int32)), .val (.ref aT), .val (.ref aF), .val (.int (1 : Int32))] [(.int (0 : Int32))])
    refine g_iloadN X28 hx hby i0_106 rfl ?_
    refine g_if_ne X28 hx hby i0_107 (fun c107_29 => ?_) (fun c107_29 => False.elim (absurd c107_29 (by decide)))
    refine g_iconst X28 hx hby i0_114 (z := (0 : Int32)) (by decide) ?_
    refine g_icmp_ne X28 hx hby i0_115 (fun c115_30 => False.elim (absurd c115_30 (by decide))) fun c115_30 => ?_
    refine g_aloadN X28 hx hby i0_118 rfl rfl ?_
    refine g_aloadN X28 hx hby i0_119 rfl rfl ?_
    refine g_acmp_eq X28 hx hby i0_120 rfl rfl (fun c120_31 => False.elim (hne c120_31.symm)) fun c120_31 => ?_
    refine g_iconst X28 hx hby i0_123 (z := (1 : Int32)) (by decide) ?_
    refine g_goto X28 hx hby i0_124 ?_
    refine g_ireturnN X28 hx hby (ty := .boolean) hret (by simp) hlk i0_128 (by decide) (by decide) ?_
    exact ⟨_, rfl, rfl, N0⟩
set_option maxRecDepth 65536 in
set_option maxHeartbeats 40000000 in
theorem comes_1 {Post : Tables → Env → Array Value → State → Outcome → State → Prop} (hpost : ∀ tb e args s v u, (limb_1_1.after args s (.returned v) u = true ∧ limb_1_2.after args s (.returned v) u = true ∧ True) → FrameEnd s (.returned v) u (Jvm.fieldLocs frame_1_writes args s ++ Jvm.arrayLocs frame_1_arrays args s ++ Jvm.staticLocs frame_1_statics s) 0 0 → Post tb e args s (.returned v) u) :
    ArmFor flags0 classFile x code maxLocals ret World_1 tables_1 room_1 Calls_1 rest_1 Pre_1 Post := by
  intro l hfl _ _ p e ha hc hk s m args below hf hA hF happ hP
  obtain ⟨hcalls, hrest, hpre⟩ := hP
  obtain ⟨-, -, -, hnamed, -, -, -, hat⟩ := (Spec.applies_iff hf).mp happ
  obtain ⟨hg, hn⟩ := and_e (Cond.before_iff.mp (show (Jvm.Cond.and given_1 narrow_1).before args s = true from hpre))
  obtain ⟨hcount, g0⟩ := and_e hg
  obtain ⟨w0, rfl⟩ : ∃ w0 : Value, args = #[w0] := by
    have hs : args.size = 1 := by simpa [Cond.value, given_1] using hcount
    obtain ⟨L⟩ := args
    match L, hs with
    | [w0], _ => exact ⟨w0, rfl⟩
  have hw := fun d (hd : d ∈ tables_1) => atoms_spec (ws := Jvm.Cond.code x code maxLocals ret :: tables_1) hat d (List.mem_cons_of_mem _ hd)
  have hfit : Fit s := fun {y c} hc i hi => by
    obtain ⟨ha, rfl⟩ := Array.getElem?_eq_some_iff.mp hc
    have q := List.all_eq_true.mp ((Array.all_eq_true_iff_forall_mem.mp hF) _ (Array.getElem_mem ha)) i (List.mem_range.mpr hi)
    simpa [Array.getElem?_eq_getElem hi] using q
  obtain ⟨i0, ei0⟩ := is_v g0
  obtain rfl : w0 = (.int i0) := Option.some.inj ei0
  obtain ⟨x0, hn⟩ := and_e hn
  obtain ⟨x1, hn⟩ := and_e hn
  obtain ⟨x2, hn⟩ := and_e hn
  obtain ⟨x3, x4⟩ := and_e hn
  obtain ⟨aF, evF, S_F, E_F⟩ := own_stat x0 (hw _ (List.mem_of_getElem? (i := 2) rfl)) (hw _ (List.mem_of_getElem? (i := 5) rfl))
  obtain ⟨aT, evT, S_T, E_T⟩ := own_stat x1 (hw _ (List.mem_of_getElem? (i := 2) rfl)) (hw _ (List.mem_of_getElem? (i := 7) rfl))
  have hne : ¬ Value.ref aF = Value.ref aT := fun q => by have z1 := not_v x4; rw [eq_iR evF evT q rfl] at z1; cases z1
  obtain ⟨n, o, h1, h2, h3, _, L, rfl, ⟨_, rfl, rfl, N⟩, hq⟩ := rm0 l s _ hw tables_1 i0 aF aT s.heap s.heap.size (Nat.le_refl _) S_F S_T E_F E_T (own_sfld evF x2) (own_sfld evT x3) hne p e ha hc hk s m _ below hf ((Spec.applies_iff_loose hf).mp happ).1 ⟨rfl, State.Warmed39.refl s, rfl⟩ trivial
  refine ⟨n, _, h1, h2, h3, hpost _ _ _ _ _ _ ⟨Cond.after_iff.mpr rfl, Cond.after_iff.mpr (eq_i res_at (Term.int_eval (1)) rfl), trivial⟩ ⟨hq.1, hq.2.1, (hq.2.2.sift fun y hy => Or.inr (N y hy)).mono (by decide) (by decide)⟩⟩
theorem main_1_1 : Claimed_1_1 := comes_1 fun _ _ _ _ _ _ h hF => ⟨h.1, hF⟩
theorem main_1_2 : Claimed_1_2 := comes_1 fun _ _ _ _ _ _ h hF => ⟨h.2.1, hF⟩
end Jvm.Pilot.@@N@@
namespace Jvm.Pilot.@@N@@
open Jvm Jvm.ClassFile Sem Op Lib Jvm.Free Jvm.Stand Jvm.Pilot.@@N@@.Jvm.D
/-! MADE BY PROGRAM (witnessworld.py) out of the Statement's table words and the real class files: 10 classes; the members and pool entries that the words name. The judged class is class 1, her method 1. -/
namespace start1
open Jvm.ClassFile
def u (s : String) : CpInfo := .utf8 (stringToUtf16 s)
/-- a pool by its gaps: so many unusable entries, then the entry; so many at the end -/
def gap : Nat → List CpInfo → List CpInfo
  | 0, r => r
  | n + 1, r => .unusable :: gap n r
def poolList (es : List (Nat × CpInfo)) (last : Nat) : List CpInfo := es.foldr (fun e r => gap e.1 (e.2 :: r)) (gap last [])
def pool (es : List (Nat × CpInfo)) (last : Nat) : Array CpInfo := ⟨poolList es last⟩
def fileOf (pool : Array CpInfo) (this : Nat) (attrs : Array Attribute := #[]) (ms : Array MethodInfo := #[]) (fl : Nat := 33) (sup : Nat := 0) (ifs : Array Nat := #[]) (fds : Array FieldInfo := #[]) : ClassFile where
  minorVersion := 0
  majorVersion := 65
  constantPool := pool
  accessFlags := fl
  thisClass := this
  superClass := sup
  interfaces := ifs
  fields := fds
  methods := ms
  attributes := attrs
def plain (name : String) (sup : Option ClassId) : Class where
  name := name
  kind := .ordinary
  loader := none
  accessFlags := 33
  super := sup
  interfaces := #[]
  cf := none
  fields := #[]
  methods := #[]
  instanceTypes := #[]
  staticTypes := #[]
  resolved := #[]
  callSites := []
  init := .initialized
  statics := none
  mirror := none

def pool0 : Array CpInfo := pool [(5, u "<init>"), (0, u "()V"), (1, .class_ 10), (1, u "java/lang/Object")] 113

def k0m0 : Method := { name := "<init>", desc := "()V", sig := { parameters := [], returnType := none }, accessFlags := 1, code := none }
/-- java/lang/Object -/
def k0 : Class := { plain "java/lang/Object" none with
  accessFlags := 33
  interfaces := #[]
  cf := some (fileOf pool0 8 #[] #[{ accessFlags := 1, nameIndex := 5, descriptorIndex := 6, attributes := #[] }] 33 0 #[] #[])
  fields := #[]
  methods := #[k0m0]
  instanceTypes := #[]
  staticTypes := #[]
  resolved := Array.replicate 124 none
  statics := none }

def pool1 : Array CpInfo := pool [(2, .class_ 4), (1, u "java/lang/Object"), (0, u "<init>"), (0, u "()V"), (0, .methodref 8 9), (0, .class_ 10), (0, .nameAndType 11 12), (0, u "com/example/holdfast/holdfast/eval/BoolValue"), (0, u "of"), (0, u "(Z)Lcom/example/holdfast/holdfast/eval/BoolValue;"), (0, .fieldref 8 14), (0, .nameAndType 15 16), (0, u "TRUE"), (0, u "Lcom/example/holdfast/holdfast/eval/BoolValue;"), (0, .fieldref 8 18), (0, .nameAndType 19 16), (0, u "FALSE"), (0, .methodref 8 21), (0, .nameAndType 22 23), (0, u "isTrue"), (0, u "()Z"), (0, .class_ 25), (0, u "com/example/holdfast/holdfast/eval/BoolValueOfPinLaw"), (2, u "law"), (0, u "(I)Z")] 3

def k1m0 : Method := { name := "<init>", desc := "()V", sig := { parameters := [], returnType := none }, accessFlags := 1, code := none }
def k1c1 : Code := { maxStack := 2, maxLocals := 5, code := code, exceptionTable := #[], attributes := #[] }
def k1m1 : Method := { name := "law", desc := "(I)Z", sig := { parameters := [.int], returnType := some .boolean }, accessFlags := 9, code := some k1c1 }
/-- com/example/holdfast/holdfast/eval/BoolValueOfPinLaw -/
def k1 : Class := { plain "com/example/holdfast/holdfast/eval/BoolValueOfPinLaw" (some 0) with
  accessFlags := 49
  interfaces := #[]
  cf := some (fileOf pool1 24 #[] #[{ accessFlags := 1, nameIndex := 5, descriptorIndex := 6, attributes := #[] }, { accessFlags := 9, nameIndex := 28, descriptorIndex := 29, attributes := #[] }] 49 2 #[] #[])
  fields := #[]
  methods := #[k1m0, k1m1]
  instanceTypes := #[]
  staticTypes := #[]
  resolved := Array.replicate 33 none
  statics := none }

def pool2 : Array CpInfo := pool [(2, .class_ 4), (1, u "java/lang/Object"), (0, u "<init>"), (0, u "()V"), (0, .class_ 8), (0, u "com/example/holdfast/holdfast/eval/Value")] 13

def k2m0 : Method := { name := "<init>", desc := "()V", sig := { parameters := [], returnType := none }, accessFlags := 0, code := none }
/-- com/example/holdfast/holdfast/eval/Value -/
def k2 : Class := { plain "com/example/holdfast/holdfast/eval/Value" (some 0) with
  accessFlags := 1057
  interfaces := #[]
  cf := some (fileOf pool2 7 #[] #[{ accessFlags := 0, nameIndex := 5, descriptorIndex := 6, attributes := #[] }] 1057 2 #[] #[])
  fields := #[]
  methods := #[k2m0]
  instanceTypes := #[]
  staticTypes := #[]
  resolved := Array.replicate 22 none
  statics := none }

def pool3 : Array CpInfo := pool [(2, .class_ 4), (1, u "com/example/holdfast/holdfast/eval/Value"), (2, .fieldref 8 9), (0, .class_ 10), (0, .nameAndType 11 12), (0, u "com/example/holdfast/holdfast/eval/BoolValue"), (0, u "m_bValue"), (0, u "Z"), (0, .fieldref 8 14), (0, .nameAndType 15 16), (0, u "TRUE"), (0, u "Lcom/example/holdfast/holdfast/eval/BoolValue;"), (0, .fieldref 8 18), (0, .nameAndType 19 16), (0, u "FALSE"), (11, u "of"), (0, u "(Z)Lcom/example/holdfast/holdfast/eval/BoolValue;"), (1, u "isTrue"), (0, u "()Z")] 4

def k3c0 : Code := { maxStack := 1, maxLocals := 1, code := prog_14_method_2_code, exceptionTable := #[], attributes := #[] }
def k3m0 : Method := { name := "of", desc := "(Z)Lcom/example/holdfast/holdfast/eval/BoolValue;", sig := { parameters := [.boolean], returnType := some (.object "com/example/holdfast/holdfast/eval/BoolValue") }, accessFlags := 9, code := some k3c0 }
def k3c1 : Code := { maxStack := 1, maxLocals := 1, code := prog_14_method_3_code, exceptionTable := #[], attributes := #[] }
def k3m1 : Method := { name := "isTrue", desc := "()Z", sig := { parameters := [], returnType := some .boolean }, accessFlags := 1, code := some k3c1 }
/-- com/example/holdfast/holdfast/eval/BoolValue -/
def k3 : Class := { plain "com/example/holdfast/holdfast/eval/BoolValue" (some 2) with
  accessFlags := 49
  interfaces := #[]
  cf := some (fileOf pool3 8 #[] #[{ accessFlags := 9, nameIndex := 31, descriptorIndex := 32, attributes := #[] }, { accessFlags := 1, nameIndex := 34, descriptorIndex := 35, attributes := #[] }] 49 2 #[] #[{ accessFlags := 25, nameIndex := 15, descriptorIndex := 16, attributes := #[] }, { accessFlags := 25, nameIndex := 19, descriptorIndex := 16, attributes := #[] }, { accessFlags := 18, nameIndex := 11, descriptorIndex := 12, attributes := #[] }])
  fields := #[{ name := "TRUE", type := (.object "com/example/holdfast/holdfast/eval/BoolValue"), accessFlags := 25, slot := 0, constantValue := 0 }, { name := "FALSE", type := (.object "com/example/holdfast/holdfast/eval/BoolValue"), accessFlags := 25, slot := 1, constantValue := 0 }, { name := "m_bValue", type := .boolean, accessFlags := 18, slot := 0, constantValue := 0 }]
  methods := #[k3m0, k3m1]
  instanceTypes := #[.boolean]
  staticTypes := #[(.object "com/example/holdfast/holdfast/eval/BoolValue"), (.object "com/example/holdfast/holdfast/eval/BoolValue")]
  resolved := Array.replicate 40 none
  statics := some 0 }

def pool4 : Array CpInfo := pool [(1, u "java/lang/Cloneable"), (0, .class_ 1), (0, u "java/lang/Object"), (0, .class_ 3)] 3

/-- java/lang/Cloneable -/
def k4 : Class := { plain "java/lang/Cloneable" (some 0) with
  accessFlags := 1537
  interfaces := #[]
  cf := some (fileOf pool4 2 #[] #[] 1537 4 #[] #[])
  fields := #[]
  methods := #[]
  instanceTypes := #[]
  staticTypes := #[]
  resolved := Array.replicate 8 none
  statics := none }

def pool5 : Array CpInfo := pool [(1, u "java/io/Serializable"), (0, .class_ 1), (0, u "java/lang/Object"), (0, .class_ 3)] 3

/-- java/io/Serializable -/
def k5 : Class := { plain "java/io/Serializable" (some 0) with
  accessFlags := 1537
  interfaces := #[]
  cf := some (fileOf pool5 2 #[] #[] 1537 4 #[] #[])
  fields := #[]
  methods := #[]
  instanceTypes := #[]
  staticTypes := #[]
  resolved := Array.replicate 8 none
  statics := none }

/-- the primitive byte -/
def k6 : Class := { plain "byte" none with kind := .primitive 'B', accessFlags := 0x411 }
/-- [B -/
def k7 : Class := { plain "[B" (some 0) with kind := .array 6 .byte, interfaces := #[4, 5], accessFlags := 1041 }

/-- the primitive int -/
def k8 : Class := { plain "int" none with kind := .primitive 'I', accessFlags := 0x411 }
/-- [I -/
def k9 : Class := { plain "[I" (some 0) with kind := .array 8 .int, interfaces := #[4, 5], accessFlags := 1041 }

def heap : Heap := #[{ cls := 3, slots := #[.ref 2, .ref 1], vm := .statics 3 },
  { cls := 3, slots := #[.int 0], vm := .none },
  { cls := 3, slots := #[.int 1], vm := .none }]
def classes : Array Class := #[k0, k1, k2, k3, k4, k5, k6, k7, k8, k9]
def interned : List (Array UInt16 × Addr) := []
def slotsUsed : Nat := 4
def theMethod : MethodId := ⟨1, 1⟩
def args0 : Array Value := #[.int 5]
def aboutOver (below : List Frame) : State where
  vm := { classes := classes, interned := interned.toArray }
  heap := heap
  slotsUsed := slotsUsed
  threads := #[{ frames := .invoking theMethod args0 :: below }]
def below0 : List Frame := [.native { method := ⟨0, 0⟩, args := #[] }]
def about1 : State := aboutOver below0
def p0 : Program := .bare "" "" ""
def e0 : Env := launch0.env 0 0 0
theorem w_frames : about1.frames = Frame.invoking theMethod args0 :: below0 := rfl
set_option maxRecDepth 65536 in
theorem w_args : argsFit about1.vm theMethod args0 = true := by decide +kernel
set_option maxRecDepth 65536 in
theorem w_heap : heapFits about1 = true := by decide +kernel
set_option maxRecDepth 65536 in
theorem w_runnable : about1.curStatus? = some .runnable := by decide +kernel
set_option maxRecDepth 65536 in
theorem w_alone : about1.alone = true := by decide +kernel
set_option maxRecDepth 65536 in
theorem w_named : about1.methodNamed? x = some theMethod := by decide +kernel
set_option maxRecDepth 65536 in
theorem w_hears : about1.hears theMethod below0 = true := by decide +kernel
set_option maxRecDepth 65536 in
theorem w_ripe : about1.ripe theMethod args0 below0 = true := by decide +kernel
theorem w_running : about1.status = .running := rfl
set_option maxRecDepth 65536 in
theorem w_room : about1.hasRoom e0.platform room_1 = true :=
  launch0.hasRoom_least _ room_1 (by decide +kernel) (by decide +kernel) (by decide +kernel) (by decide +kernel) (by decide +kernel) (by decide +kernel)
theorem allAtoms_all (ts : List Jvm.Cond) (a : Array Jvm.Value) (st : Jvm.State) : (allAtoms ts).before a st = ts.all (fun c => c.before a st) := by
  induction ts with
  | nil => rfl
  | cons c t ih =>
    show (Jvm.Cond.and c (allAtoms t)).before a st = _
    rw [Jvm.Cond.before_and, ih, List.all_cons]
def words1 : List Jvm.Cond := Jvm.Cond.code x code maxLocals ret :: tables_1
/-- a 'code' word, met by the world's own term for the bytes: nothing is compared byte by byte -/
theorem code_word {y : MethodName} {bytes : ByteArray} {mx : Nat} {rt : Option FieldType} {a : Array Value} {s : State} {m : MethodId} {meth : Method} {c : Code} (h1 : s.methodNamed? y = some m) (h2 : s.vm.method? m = some meth) (h3 : meth.code = some c) (h4 : c.code = bytes)
    (h5 : (c.maxLocals == mx && c.exceptionTable.isEmpty && decide (c.maxStack ≤ mostOperands) && decide (meth.sig.returnType = rt) && !meth.locks && decide (parseMethodDescriptor y.desc = some meth.sig)) = true) : (Jvm.Cond.code y bytes mx rt).before a s = true := by
  simp only [Bool.and_eq_true, beq_iff_eq, Bool.not_eq_true', decide_eq_true_eq] at h5
  obtain ⟨⟨⟨⟨⟨g1, g2⟩, g3⟩, g4⟩, g5⟩, g6⟩ := h5
  simp [Cond.before, Cond.holds, Cond.value, h1, h2, h3, h4, g1, g2, g3, g4, g5, g6]
def isCode : Jvm.Cond → Bool
  | .code _ _ _ _ => true
  | _ => false
theorem all_split {L : List Jvm.Cond} {P : Jvm.Cond → Bool} (h1 : L.all (fun c => isCode c || P c) = true) (h2 : ∀ c ∈ L.filter isCode, P c = true) : L.all P = true := by
  refine List.all_eq_true.mpr fun c hc => ?_
  have h := List.all_eq_true.mp h1 c hc
  rcases Bool.eq_false_or_eq_true (isCode c) with hi | hi
  · exact h2 c (List.mem_filter.mpr ⟨hc, hi⟩)
  · simpa [hi] using h
set_option maxRecDepth 65536 in
theorem w_c0 : (Jvm.Cond.code x code maxLocals ret).before args0 about1 = true := code_word (m := ⟨1, 1⟩) (meth := k1m1) (c := k1c1) (by decide +kernel) rfl rfl rfl (by decide +kernel)
set_option maxRecDepth 65536 in
theorem w_c1 : (Jvm.Cond.code ({ cls := "com/example/holdfast/holdfast/eval/BoolValue", name := "of", desc := "(Z)Lcom/example/holdfast/holdfast/eval/BoolValue;" } : Jvm.MethodName) prog_14_method_2_code (1 : Nat) (Option.some (Jvm.ClassFile.FieldType.object "com/example/holdfast/holdfast/eval/BoolValue"))).before args0 about1 = true := code_word (m := ⟨3, 0⟩) (meth := k3m0) (c := k3c0) (by decide +kernel) rfl rfl rfl (by decide +kernel)
set_option maxRecDepth 65536 in
theorem w_c2 : (Jvm.Cond.code ({ cls := "com/example/holdfast/holdfast/eval/BoolValue", name := "isTrue", desc := "()Z" } : Jvm.MethodName) prog_14_method_3_code (1 : Nat) (Option.some Jvm.ClassFile.FieldType.boolean)).before args0 about1 = true := code_word (m := ⟨3, 1⟩) (meth := k3m1) (c := k3c1) (by decide +kernel) rfl rfl rfl (by decide +kernel)
def codes1 : List Jvm.Cond := [Jvm.Cond.code x code maxLocals ret, Jvm.Cond.code ({ cls := "com/example/holdfast/holdfast/eval/BoolValue", name := "of", desc := "(Z)Lcom/example/holdfast/holdfast/eval/BoolValue;" } : Jvm.MethodName) prog_14_method_2_code (1 : Nat) (Option.some (Jvm.ClassFile.FieldType.object "com/example/holdfast/holdfast/eval/BoolValue")), Jvm.Cond.code ({ cls := "com/example/holdfast/holdfast/eval/BoolValue", name := "isTrue", desc := "()Z" } : Jvm.MethodName) prog_14_method_3_code (1 : Nat) (Option.some Jvm.ClassFile.FieldType.boolean)]
set_option maxRecDepth 65536 in
theorem codes_eq : words1.filter isCode = codes1 := rfl
theorem w_codes : ∀ c ∈ words1.filter isCode, c.before args0 about1 = true := by
  rw [codes_eq]
  intro c hc
  simp only [codes1, List.mem_cons, List.not_mem_nil, or_false] at hc
  rcases hc with rfl | rfl | rfl
  · exact w_c0
  · exact w_c1
  · exact w_c2
set_option maxRecDepth 65536 in
theorem w_t1 : words1.all (fun c => isCode c || c.before args0 about1) = true := by decide +kernel
theorem w_tables : (allAtoms (Jvm.Cond.code x code maxLocals ret :: tables_1)).before args0 about1 = true := by
  rw [allAtoms_all]
  show words1.all (fun c => c.before args0 about1) = true
  refine all_split ?_ w_codes
  rw [w_t1]
set_option maxRecDepth 65536 in
theorem w_case : (Jvm.Cond.and given_1 narrow_1).before args0 about1 = true := by decide +kernel
theorem w_applies : (headSpec (Jvm.Cond.code x code maxLocals ret :: tables_1) room_1).applies x e0.platform about1 = true :=
  (Spec.applies_iff w_frames).mpr ⟨w_running, w_runnable, w_alone, w_named, w_hears, w_ripe, w_room, w_tables⟩
theorem atStart : AtStart classFile x code maxLocals ret World_1 tables_1 room_1 Calls_1 rest_1 Pre_1 launch0 p0 e0 about1 theMethod args0 below0 :=
  ⟨lists_1, trivial, launch0.admits_env _ _ _, launch0.least_env, fairChoices_fair.cas, fairChoices_fair.clock, w_frames, w_args, w_heap, w_applies, trivial, trivial, w_case⟩
end start1
theorem witness_1 : WitnessClaimed_1 := ⟨start1.p0, start1.e0, start1.about1, start1.theMethod, start1.args0, start1.below0, start1.atStart⟩
end Jvm.Pilot.@@N@@

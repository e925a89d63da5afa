import JvmDerived
import JvmDerived.Pilot.@@N@@Statement
import JvmDerived.Pilot.@@N@@Code
set_option linter.unusedVariables false
set_option linter.unusedSimpArgs false
namespace Jvm.OwnG
open Sem ClassFile Op Lib Jvm.Stand Jvm.Free Jvm.LawKit Jvm.RoadKit
/-- from here the run comes to an end at which P holds -/
def Gd (p : Program) (e : Env) (below : List Frame) (P : State → Prop) (T : State) (g : JFrame) : Prop := ∃ t, Steps p.tables e below (T.setTop g) t ∧ P t
/-- an instruction of the code, and the pc behind it -/
def Ins1 (code : ByteArray) (pc : Nat) (i : Instr) (n pn : Nat) : Prop := decode code pc = .ok (i, n) ∧ pc + n = pn
/-- a branch: the pc behind it, the pc it goes to -/
def InsB (code : ByteArray) (pc : Nat) (i : Instr) (o : Int) (pn pt : Nat) : Prop := decode code pc = .ok (i, 3) ∧ pc + 3 = pn ∧ 0 ≤ (pc : Int) + o ∧ ((pc : Int) + o).toNat = pt
/-- what the end of a walk says -/
def Fin1 (s : State) (below : List Frame) (cells slots : Nat) (Q : Option Value → Heap → List Loc → Prop) (t : State) : Prop := ∃ o, t.status = .running ∧ Ended t below o ∧ ∃ v L, o = .returned v ∧ Q v t.heap L ∧ FrameEnd s o t L cells slots
/-- a method's contract at the arguments as', the heap h -/
def Met1 (l : Launch) (y : MethodName) (bytes : ByteArray) (maxL : Nat) (ret : Option FieldType) (ws : List Jvm.Cond) (rm : Room) (as' : Array Value) (Z : State) (h : Heap) (Q : Option Value → Heap → List Loc → Prop) : Prop :=
  MetFree l y (head1 (Jvm.Cond.code y bytes maxL ret :: ws) rm) (fun a U => a = as' ∧ Z.Warmed39 U.vm ∧ U.heap = h) (fun _ _ _ _ _ => True) (fun _ U o U' => ∃ v L, o = .returned v ∧ Q v U'.heap L ∧ FrameEnd U o U' L rm.cells rm.slots)
def RV (Q : Value → Heap → List Loc → Prop) (v : Option Value) (h : Heap) (L : List Loc) : Prop := ∃ z, v = some z ∧ Q z h L
def RN (Q : Heap → List Loc → Prop) (v : Option Value) (h : Heap) (L : List Loc) : Prop := v = none ∧ Q h L
section K
variable {p : Program} {l : Launch} {e : Env} {R : Room} {s : State} {m : MethodId} {args : Array Value} {below : List Frame} {meth : Method} {c : Code} {T : State} {locs : List Loc} {cells slots : Nat} {Z : State} {a0 : Array Value} {h : Heap} {P : State → Prop} {code : ByteArray} {pc pn pt : Nat} {Ls : Array Slot} {st : List Value}
theorem Gd.of {T' : State} {g g' : JFrame} (k : ∀ t, Steps p.tables e below (T'.setTop g') t → Steps p.tables e below (T.setTop g) t) (q : Gd p e below P T' g') : Gd p e below P T g := q.imp fun t r => ⟨k t r.1, r.2⟩
theorem Gd.cast {g g' : JFrame} (q : g = g') (k : Gd p e below P T g') : Gd p e below P T g := q ▸ k
theorem met_of {y : MethodName} {maxL : Nat} {ret : Option FieldType} {ws : List Jvm.Cond} {rm : Room} {as' : Array Value} {Q : Option Value → Heap → List Loc → Prop} (hp : plainFor y = true)
    (body : ∀ (p : Program) (e : Env) (s : State) (m : MethodId) (below : List Frame) (meth : Method) (c : Code) (T : State), Stand p l e rm s m as' below meth c T [] 0 0 → p.tables.exec = Jvm.exec → c.code = code → c.maxLocals = maxL → Z.Warmed39 s.vm → s.vm.findClass y.cls = some m.cls → meth.name = y.name → meth.sig.returnType = ret → meth.locks = false → T.heap = h → s.heap = h →
      Gd p e below (Fin1 s below rm.cells rm.slots Q) T (entryFrame m as' maxL)) : Met1 l y code maxL ret ws rm as' Z h Q := by
  refine MetFree.of_bodySF hp hisR ?_
  intro p e s m args below meth c s₁ Bd hml0 hP hK
  obtain ⟨rfl, hZ, hh⟩ := hP
  obtain ⟨t, h1, o, h2, h3, h4⟩ := body p e s m below meth c s₁ (Stand.of_body Bd) Bd.exec Bd.bytes hml0 hZ (findClass_of_methodNamed Bd.named) (name_of_methodNamed Bd.named Bd.method).1 Bd.returns Bd.notSynchronized (by rw [← hh, Bd.state]; rfl) hh
  exact ⟨t, o, h1, h2, h3, h4⟩
theorem g_iloadN (X : Stand p l e R s m args below meth c T locs cells slots) (hx : p.tables.exec = Jvm.exec) (hby : c.code = code) {k : Fin 4} {v : Int32} (hd : Ins1 code pc (.iload_n k) 1 pn) (hl : Ls[k.val]? = some (.val (.int v))) (k : Gd p e below P T (mkF m pn Ls (.int v :: st))) : Gd p e below P T (mkF m pc Ls (st)) := by
  obtain ⟨hd, rfl⟩ := hd
  exact k.imp fun t q => ⟨XS.iloadN X.here hx rfl (hb hby hd) hl q.1, q.2⟩
theorem g_iload (X : Stand p l e R s m args below meth c T locs cells slots) (hx : p.tables.exec = Jvm.exec) (hby : c.code = code) {k : Nat} {v : Int32} (hd : Ins1 code pc (.iload k) 2 pn) (hl : Ls[k]? = some (.val (.int v))) (k : Gd p e below P T (mkF m pn Ls (.int v :: st))) : Gd p e below P T (mkF m pc Ls (st)) := by
  obtain ⟨hd, rfl⟩ := hd
  exact k.imp fun t q => ⟨XS.iload X.here hx rfl (hb hby hd) hl q.1, q.2⟩
theorem g_istoreN (X : Stand p l e R s m args below meth c T locs cells slots) (hx : p.tables.exec = Jvm.exec) (hby : c.code = code) {k : Fin 4} {v : Int32} {l' : Array Slot} (hd : Ins1 code pc (.istore_n k) 1 pn) (hl : storeLocals Ls k.val (.int v) = some l') (k : Gd p e below P T (mkF m pn l' (st))) : Gd p e below P T (mkF m pc Ls (.int v :: st)) := by
  obtain ⟨hd, rfl⟩ := hd
  exact k.imp fun t q => ⟨XS.istoreN X.here hx rfl (hb hby hd) rfl hl q.1, q.2⟩
theorem g_istore (X : Stand p l e R s m args below meth c T locs cells slots) (hx : p.tables.exec = Jvm.exec) (hby : c.code = code) {k : Nat} {v : Int32} {l' : Array Slot} (hd : Ins1 code pc (.istore k) 2 pn) (hl : storeLocals Ls k (.int v) = some l') (k : Gd p e below P T (mkF m pn l' (st))) : Gd p e below P T (mkF m pc Ls (.int v :: st)) := by
  obtain ⟨hd, rfl⟩ := hd
  exact k.imp fun t q => ⟨XS.istore X.here hx rfl (hb hby hd) rfl hl q.1, q.2⟩
theorem g_lloadN (X : Stand p l e R s m args below meth c T locs cells slots) (hx : p.tables.exec = Jvm.exec) (hby : c.code = code) {k : Fin 4} {v : Int64} (hd : Ins1 code pc (.lload_n k) 1 pn) (hl : Ls[k.val]? = some (.val (.long v))) (k : Gd p e below P T (mkF m pn Ls (.long v :: st))) : Gd p e below P T (mkF m pc Ls (st)) := by
  obtain ⟨hd, rfl⟩ := hd
  exact k.imp fun t q => ⟨XS.lloadN X.here hx rfl (hb hby hd) hl q.1, q.2⟩
theorem g_lload (X : Stand p l e R s m args below meth c T locs cells slots) (hx : p.tables.exec = Jvm.exec) (hby : c.code = code) {k : Nat} {v : Int64} (hd : Ins1 code pc (.lload k) 2 pn) (hl : Ls[k]? = some (.val (.long v))) (k : Gd p e below P T (mkF m pn Ls (.long v :: st))) : Gd p e below P T (mkF m pc Ls (st)) := by
  obtain ⟨hd, rfl⟩ := hd
  exact k.imp fun t q => ⟨XS.lload X.here hx rfl (hb hby hd) hl q.1, q.2⟩
theorem g_lstoreN (X : Stand p l e R s m args below meth c T locs cells slots) (hx : p.tables.exec = Jvm.exec) (hby : c.code = code) {k : Fin 4} {v : Int64} {l' : Array Slot} (hd : Ins1 code pc (.lstore_n k) 1 pn) (hl : storeLocals Ls k.val (.long v) = some l') (k : Gd p e below P T (mkF m pn l' (st))) : Gd p e below P T (mkF m pc Ls (.long v :: st)) := by
  obtain ⟨hd, rfl⟩ := hd
  exact k.imp fun t q => ⟨XS.lstoreN X.here hx rfl (hb hby hd) rfl hl q.1, q.2⟩
theorem g_lstore (X : Stand p l e R s m args below meth c T locs cells slots) (hx : p.tables.exec = Jvm.exec) (hby : c.code = code) {k : Nat} {v : Int64} {l' : Array Slot} (hd : Ins1 code pc (.lstore k) 2 pn) (hl : storeLocals Ls k (.long v) = some l') (k : Gd p e below P T (mkF m pn l' (st))) : Gd p e below P T (mkF m pc Ls (.long v :: st)) := by
  obtain ⟨hd, rfl⟩ := hd
  exact k.imp fun t q => ⟨XS.lstore X.here hx rfl (hb hby hd) rfl hl q.1, q.2⟩
theorem g_dloadN (X : Stand p l e R s m args below meth c T locs cells slots) (hx : p.tables.exec = Jvm.exec) (hby : c.code = code) {k : Fin 4} {v : UInt64} (hd : Ins1 code pc (.dload_n k) 1 pn) (hl : Ls[k.val]? = some (.val (.double v))) (k : Gd p e below P T (mkF m pn Ls (.double v :: st))) : Gd p e below P T (mkF m pc Ls (st)) := by
  obtain ⟨hd, rfl⟩ := hd
  exact k.imp fun t q => ⟨XS.dloadN X.here hx rfl (hb hby hd) hl q.1, q.2⟩
theorem g_dload (X : Stand p l e R s m args below meth c T locs cells slots) (hx : p.tables.exec = Jvm.exec) (hby : c.code = code) {k : Nat} {v : UInt64} (hd : Ins1 code pc (.dload k) 2 pn) (hl : Ls[k]? = some (.val (.double v))) (k : Gd p e below P T (mkF m pn Ls (.double v :: st))) : Gd p e below P T (mkF m pc Ls (st)) := by
  obtain ⟨hd, rfl⟩ := hd
  exact k.imp fun t q => ⟨XS.dload X.here hx rfl (hb hby hd) hl q.1, q.2⟩
theorem g_dstoreN (X : Stand p l e R s m args below meth c T locs cells slots) (hx : p.tables.exec = Jvm.exec) (hby : c.code = code) {k : Fin 4} {v : UInt64} {l' : Array Slot} (hd : Ins1 code pc (.dstore_n k) 1 pn) (hl : storeLocals Ls k.val (.double v) = some l') (k : Gd p e below P T (mkF m pn l' (st))) : Gd p e below P T (mkF m pc Ls (.double v :: st)) := by
  obtain ⟨hd, rfl⟩ := hd
  exact k.imp fun t q => ⟨XS.dstoreN X.here hx rfl (hb hby hd) rfl hl q.1, q.2⟩
theorem g_dstore (X : Stand p l e R s m args below meth c T locs cells slots) (hx : p.tables.exec = Jvm.exec) (hby : c.code = code) {k : Nat} {v : UInt64} {l' : Array Slot} (hd : Ins1 code pc (.dstore k) 2 pn) (hl : storeLocals Ls k (.double v) = some l') (k : Gd p e below P T (mkF m pn l' (st))) : Gd p e below P T (mkF m pc Ls (.double v :: st)) := by
  obtain ⟨hd, rfl⟩ := hd
  exact k.imp fun t q => ⟨XS.dstore X.here hx rfl (hb hby hd) rfl hl q.1, q.2⟩
theorem g_aloadN (X : Stand p l e R s m args below meth c T locs cells slots) (hx : p.tables.exec = Jvm.exec) (hby : c.code = code) {k : Fin 4} {v : Value} (hd : Ins1 code pc (.aload_n k) 1 pn) (hl : Ls[k.val]? = some (.val v)) (hv : v.isRef = true) (k : Gd p e below P T (mkF m pn Ls (v :: st))) : Gd p e below P T (mkF m pc Ls (st)) := by
  obtain ⟨hd, rfl⟩ := hd
  exact k.imp fun t q => ⟨XS.aloadN X.here hx rfl (hb hby hd) hl hv q.1, q.2⟩
theorem g_aload (X : Stand p l e R s m args below meth c T locs cells slots) (hx : p.tables.exec = Jvm.exec) (hby : c.code = code) {k : Nat} {v : Value} (hd : Ins1 code pc (.aload k) 2 pn) (hl : Ls[k]? = some (.val v)) (hv : v.isRef = true) (k : Gd p e below P T (mkF m pn Ls (v :: st))) : Gd p e below P T (mkF m pc Ls (st)) := by
  obtain ⟨hd, rfl⟩ := hd
  exact k.imp fun t q => ⟨XS.aload X.here hx rfl (hb hby hd) hl hv q.1, q.2⟩
theorem g_astoreN (X : Stand p l e R s m args below meth c T locs cells slots) (hx : p.tables.exec = Jvm.exec) (hby : c.code = code) {k : Fin 4} {v : Value} {l' : Array Slot} (hd : Ins1 code pc (.astore_n k) 1 pn) (hv : v.isRef = true) (hl : storeLocals Ls k.val v = some l') (k : Gd p e below P T (mkF m pn l' (st))) : Gd p e below P T (mkF m pc Ls (v :: st)) := by
  obtain ⟨hd, rfl⟩ := hd
  exact k.imp fun t q => ⟨XS.astoreN X.here hx rfl (hb hby hd) rfl hv hl q.1, q.2⟩
theorem g_astore (X : Stand p l e R s m args below meth c T locs cells slots) (hx : p.tables.exec = Jvm.exec) (hby : c.code = code) {k : Nat} {v : Value} {l' : Array Slot} (hd : Ins1 code pc (.astore k) 2 pn) (hv : v.isRef = true) (hl : storeLocals Ls k v = some l') (k : Gd p e below P T (mkF m pn l' (st))) : Gd p e below P T (mkF m pc Ls (v :: st)) := by
  obtain ⟨hd, rfl⟩ := hd
  exact k.imp fun t q => ⟨XS.astore X.here hx rfl (hb hby hd) rfl hv hl q.1, q.2⟩
theorem g_istoreNW (X : Stand p l e R s m args below meth c T locs cells slots) (hx : p.tables.exec = Jvm.exec) (hby : c.code = code) {k : Fin 4} {v : Int32} {l' : Int32 → Array Slot} (hd : Ins1 code pc (.istore_n k) 1 pn) (hl : ∀ w, storeLocals Ls k.val (.int w) = some (l' w)) (k : ∀ w, w = v → Gd p e below P T (mkF m pn (l' w) st)) : Gd p e below P T (mkF m pc Ls (.int v :: st)) := g_istoreN X hx hby hd (hl v) (k v rfl)
theorem g_istoreW (X : Stand p l e R s m args below meth c T locs cells slots) (hx : p.tables.exec = Jvm.exec) (hby : c.code = code) {k : Nat} {v : Int32} {l' : Int32 → Array Slot} (hd : Ins1 code pc (.istore k) 2 pn) (hl : ∀ w, storeLocals Ls k (.int w) = some (l' w)) (k : ∀ w, w = v → Gd p e below P T (mkF m pn (l' w) st)) : Gd p e below P T (mkF m pc Ls (.int v :: st)) := g_istore X hx hby hd (hl v) (k v rfl)
theorem g_lstoreNW (X : Stand p l e R s m args below meth c T locs cells slots) (hx : p.tables.exec = Jvm.exec) (hby : c.code = code) {k : Fin 4} {v : Int64} {l' : Int64 → Array Slot} (hd : Ins1 code pc (.lstore_n k) 1 pn) (hl : ∀ w, storeLocals Ls k.val (.long w) = some (l' w)) (k : ∀ w, w = v → Gd p e below P T (mkF m pn (l' w) st)) : Gd p e below P T (mkF m pc Ls (.long v :: st)) := g_lstoreN X hx hby hd (hl v) (k v rfl)
theorem g_lstoreW (X : Stand p l e R s m args below meth c T locs cells slots) (hx : p.tables.exec = Jvm.exec) (hby : c.code = code) {k : Nat} {v : Int64} {l' : Int64 → Array Slot} (hd : Ins1 code pc (.lstore k) 2 pn) (hl : ∀ w, storeLocals Ls k (.long w) = some (l' w)) (k : ∀ w, w = v → Gd p e below P T (mkF m pn (l' w) st)) : Gd p e below P T (mkF m pc Ls (.long v :: st)) := g_lstore X hx hby hd (hl v) (k v rfl)
theorem g_iconst (X : Stand p l e R s m args below meth c T locs cells slots) (hx : p.tables.exec = Jvm.exec) (hby : c.code = code) {i : Int} {z : Int32} (hd : Ins1 code pc (.iconst i) 1 pn) (hz : Int32.ofInt i = z) (k : Gd p e below P T (mkF m pn Ls (.int z :: st))) : Gd p e below P T (mkF m pc Ls st) := by
  obtain ⟨hd, rfl⟩ := hd
  subst hz
  exact k.imp fun t q => ⟨XS.iconst X.here hx rfl (hb hby hd) q.1, q.2⟩
theorem g_bipush (X : Stand p l e R s m args below meth c T locs cells slots) (hx : p.tables.exec = Jvm.exec) (hby : c.code = code) {i : Int} {z : Int32} (hd : Ins1 code pc (.bipush i) 2 pn) (hz : (Int8.ofInt i).toInt32 = z) (k : Gd p e below P T (mkF m pn Ls (.int z :: st))) : Gd p e below P T (mkF m pc Ls st) := by
  obtain ⟨hd, rfl⟩ := hd
  subst hz
  exact k.imp fun t q => ⟨XS.bipush X.here hx rfl (hb hby hd) q.1, q.2⟩
theorem g_sipush (X : Stand p l e R s m args below meth c T locs cells slots) (hx : p.tables.exec = Jvm.exec) (hby : c.code = code) {i : Int} {z : Int32} (hd : Ins1 code pc (.sipush i) 3 pn) (hz : (Int16.ofInt i).toInt32 = z) (k : Gd p e below P T (mkF m pn Ls (.int z :: st))) : Gd p e below P T (mkF m pc Ls st) := by
  obtain ⟨hd, rfl⟩ := hd
  subst hz
  exact k.imp fun t q => ⟨XS.sipush X.here hx rfl (hb hby hd) q.1, q.2⟩
theorem g_lconst (X : Stand p l e R s m args below meth c T locs cells slots) (hx : p.tables.exec = Jvm.exec) (hby : c.code = code) {i : Fin 2} {z : Int64} (hd : Ins1 code pc (.lconst i) 1 pn) (hz : Int64.ofNat i = z) (k : Gd p e below P T (mkF m pn Ls (.long z :: st))) : Gd p e below P T (mkF m pc Ls st) := by
  obtain ⟨hd, rfl⟩ := hd
  subst hz
  exact k.imp fun t q => ⟨XS.lconst X.here hx rfl (hb hby hd) q.1, q.2⟩
theorem g_aconst_null (X : Stand p l e R s m args below meth c T locs cells slots) (hx : p.tables.exec = Jvm.exec) (hby : c.code = code)  (hd : Ins1 code pc (.aconst_null) 1 pn) (k : Gd p e below P T (mkF m pn Ls (.null :: st))) : Gd p e below P T (mkF m pc Ls (st)) := by
  obtain ⟨hd, rfl⟩ := hd
  exact k.imp fun t q => ⟨XS.aconstNull X.here hx rfl (hb hby hd)  q.1, q.2⟩
theorem g_iadd (X : Stand p l e R s m args below meth c T locs cells slots) (hx : p.tables.exec = Jvm.exec) (hby : c.code = code) {x y : Int32} (hd : Ins1 code pc (.iadd) 1 pn) (k : Gd p e below P T (mkF m pn Ls (.int (x + y) :: st))) : Gd p e below P T (mkF m pc Ls (.int y :: .int x :: st)) := by
  obtain ⟨hd, rfl⟩ := hd
  exact k.imp fun t q => ⟨XS.iadd X.here hx rfl (hb hby hd) rfl q.1, q.2⟩
theorem g_isub (X : Stand p l e R s m args below meth c T locs cells slots) (hx : p.tables.exec = Jvm.exec) (hby : c.code = code) {x y : Int32} (hd : Ins1 code pc (.isub) 1 pn) (k : Gd p e below P T (mkF m pn Ls (.int (x - y) :: st))) : Gd p e below P T (mkF m pc Ls (.int y :: .int x :: st)) := by
  obtain ⟨hd, rfl⟩ := hd
  exact k.imp fun t q => ⟨XS.isub X.here hx rfl (hb hby hd) rfl q.1, q.2⟩
theorem g_imul (X : Stand p l e R s m args below meth c T locs cells slots) (hx : p.tables.exec = Jvm.exec) (hby : c.code = code) {x y : Int32} (hd : Ins1 code pc (.imul) 1 pn) (k : Gd p e below P T (mkF m pn Ls (.int (x * y) :: st))) : Gd p e below P T (mkF m pc Ls (.int y :: .int x :: st)) := by
  obtain ⟨hd, rfl⟩ := hd
  exact k.imp fun t q => ⟨XS.imul X.here hx rfl (hb hby hd) rfl q.1, q.2⟩
theorem g_iand (X : Stand p l e R s m args below meth c T locs cells slots) (hx : p.tables.exec = Jvm.exec) (hby : c.code = code) {x y : Int32} (hd : Ins1 code pc (.iand) 1 pn) (k : Gd p e below P T (mkF m pn Ls (.int (x &&& y) :: st))) : Gd p e below P T (mkF m pc Ls (.int y :: .int x :: st)) := by
  obtain ⟨hd, rfl⟩ := hd
  exact k.imp fun t q => ⟨XS.iand X.here hx rfl (hb hby hd) rfl q.1, q.2⟩
theorem g_ior (X : Stand p l e R s m args below meth c T locs cells slots) (hx : p.tables.exec = Jvm.exec) (hby : c.code = code) {x y : Int32} (hd : Ins1 code pc (.ior) 1 pn) (k : Gd p e below P T (mkF m pn Ls (.int (x ||| y) :: st))) : Gd p e below P T (mkF m pc Ls (.int y :: .int x :: st)) := by
  obtain ⟨hd, rfl⟩ := hd
  exact k.imp fun t q => ⟨XS.ior X.here hx rfl (hb hby hd) rfl q.1, q.2⟩
theorem g_ixor (X : Stand p l e R s m args below meth c T locs cells slots) (hx : p.tables.exec = Jvm.exec) (hby : c.code = code) {x y : Int32} (hd : Ins1 code pc (.ixor) 1 pn) (k : Gd p e below P T (mkF m pn Ls (.int (x ^^^ y) :: st))) : Gd p e below P T (mkF m pc Ls (.int y :: .int x :: st)) := by
  obtain ⟨hd, rfl⟩ := hd
  exact k.imp fun t q => ⟨XS.ixor X.here hx rfl (hb hby hd) rfl q.1, q.2⟩
theorem g_ladd (X : Stand p l e R s m args below meth c T locs cells slots) (hx : p.tables.exec = Jvm.exec) (hby : c.code = code) {x y : Int64} (hd : Ins1 code pc (.ladd) 1 pn) (k : Gd p e below P T (mkF m pn Ls (.long (x + y) :: st))) : Gd p e below P T (mkF m pc Ls (.long y :: .long x :: st)) := by
  obtain ⟨hd, rfl⟩ := hd
  exact k.imp fun t q => ⟨XS.ladd X.here hx rfl (hb hby hd) rfl q.1, q.2⟩
theorem g_lsub (X : Stand p l e R s m args below meth c T locs cells slots) (hx : p.tables.exec = Jvm.exec) (hby : c.code = code) {x y : Int64} (hd : Ins1 code pc (.lsub) 1 pn) (k : Gd p e below P T (mkF m pn Ls (.long (x - y) :: st))) : Gd p e below P T (mkF m pc Ls (.long y :: .long x :: st)) := by
  obtain ⟨hd, rfl⟩ := hd
  exact k.imp fun t q => ⟨XS.lsub X.here hx rfl (hb hby hd) rfl q.1, q.2⟩
theorem g_lmul (X : Stand p l e R s m args below meth c T locs cells slots) (hx : p.tables.exec = Jvm.exec) (hby : c.code = code) {x y : Int64} (hd : Ins1 code pc (.lmul) 1 pn) (k : Gd p e below P T (mkF m pn Ls (.long (x * y) :: st))) : Gd p e below P T (mkF m pc Ls (.long y :: .long x :: st)) := by
  obtain ⟨hd, rfl⟩ := hd
  exact k.imp fun t q => ⟨XS.lmul X.here hx rfl (hb hby hd) rfl q.1, q.2⟩
theorem g_land (X : Stand p l e R s m args below meth c T locs cells slots) (hx : p.tables.exec = Jvm.exec) (hby : c.code = code) {x y : Int64} (hd : Ins1 code pc (.land) 1 pn) (k : Gd p e below P T (mkF m pn Ls (.long (x &&& y) :: st))) : Gd p e below P T (mkF m pc Ls (.long y :: .long x :: st)) := by
  obtain ⟨hd, rfl⟩ := hd
  exact k.imp fun t q => ⟨XS.land X.here hx rfl (hb hby hd) rfl q.1, q.2⟩
theorem g_lor (X : Stand p l e R s m args below meth c T locs cells slots) (hx : p.tables.exec = Jvm.exec) (hby : c.code = code) {x y : Int64} (hd : Ins1 code pc (.lor) 1 pn) (k : Gd p e below P T (mkF m pn Ls (.long (x ||| y) :: st))) : Gd p e below P T (mkF m pc Ls (.long y :: .long x :: st)) := by
  obtain ⟨hd, rfl⟩ := hd
  exact k.imp fun t q => ⟨XS.lor X.here hx rfl (hb hby hd) rfl q.1, q.2⟩
theorem g_lxor (X : Stand p l e R s m args below meth c T locs cells slots) (hx : p.tables.exec = Jvm.exec) (hby : c.code = code) {x y : Int64} (hd : Ins1 code pc (.lxor) 1 pn) (k : Gd p e below P T (mkF m pn Ls (.long (x ^^^ y) :: st))) : Gd p e below P T (mkF m pc Ls (.long y :: .long x :: st)) := by
  obtain ⟨hd, rfl⟩ := hd
  exact k.imp fun t q => ⟨XS.lxor X.here hx rfl (hb hby hd) rfl q.1, q.2⟩
theorem g_ishl (X : Stand p l e R s m args below meth c T locs cells slots) (hx : p.tables.exec = Jvm.exec) (hby : c.code = code) {x : Int32} {y : Int32} (hd : Ins1 code pc (.ishl) 1 pn) (k : Gd p e below P T (mkF m pn Ls (.int (x <<< (y &&& 31)) :: st))) : Gd p e below P T (mkF m pc Ls (.int y :: .int x :: st)) := by
  obtain ⟨hd, rfl⟩ := hd
  exact k.imp fun t q => ⟨XS.ishl X.here hx rfl (hb hby hd) rfl q.1, q.2⟩
theorem g_ishr (X : Stand p l e R s m args below meth c T locs cells slots) (hx : p.tables.exec = Jvm.exec) (hby : c.code = code) {x : Int32} {y : Int32} (hd : Ins1 code pc (.ishr) 1 pn) (k : Gd p e below P T (mkF m pn Ls (.int (x >>> (y &&& 31)) :: st))) : Gd p e below P T (mkF m pc Ls (.int y :: .int x :: st)) := by
  obtain ⟨hd, rfl⟩ := hd
  exact k.imp fun t q => ⟨XS.ishr X.here hx rfl (hb hby hd) rfl q.1, q.2⟩
theorem g_iushr (X : Stand p l e R s m args below meth c T locs cells slots) (hx : p.tables.exec = Jvm.exec) (hby : c.code = code) {x : Int32} {y : Int32} (hd : Ins1 code pc (.iushr) 1 pn) (k : Gd p e below P T (mkF m pn Ls (.int ((x.toUInt32 >>> (y &&& 31).toUInt32).toInt32) :: st))) : Gd p e below P T (mkF m pc Ls (.int y :: .int x :: st)) := by
  obtain ⟨hd, rfl⟩ := hd
  exact k.imp fun t q => ⟨XS.iushr X.here hx rfl (hb hby hd) rfl q.1, q.2⟩
theorem g_lshl (X : Stand p l e R s m args below meth c T locs cells slots) (hx : p.tables.exec = Jvm.exec) (hby : c.code = code) {x : Int64} {y : Int32} (hd : Ins1 code pc (.lshl) 1 pn) (k : Gd p e below P T (mkF m pn Ls (.long (x <<< (y &&& 0x3f).toInt64) :: st))) : Gd p e below P T (mkF m pc Ls (.int y :: .long x :: st)) := by
  obtain ⟨hd, rfl⟩ := hd
  exact k.imp fun t q => ⟨XS.lshl X.here hx rfl (hb hby hd) rfl q.1, q.2⟩
theorem g_lshr (X : Stand p l e R s m args below meth c T locs cells slots) (hx : p.tables.exec = Jvm.exec) (hby : c.code = code) {x : Int64} {y : Int32} (hd : Ins1 code pc (.lshr) 1 pn) (k : Gd p e below P T (mkF m pn Ls (.long (x >>> (y &&& 0x3f).toInt64) :: st))) : Gd p e below P T (mkF m pc Ls (.int y :: .long x :: st)) := by
  obtain ⟨hd, rfl⟩ := hd
  exact k.imp fun t q => ⟨XS.lshr X.here hx rfl (hb hby hd) rfl q.1, q.2⟩
theorem g_lushr (X : Stand p l e R s m args below meth c T locs cells slots) (hx : p.tables.exec = Jvm.exec) (hby : c.code = code) {x : Int64} {y : Int32} (hd : Ins1 code pc (.lushr) 1 pn) (k : Gd p e below P T (mkF m pn Ls (.long ((x.toUInt64 >>> (y &&& 0x3f).toInt64.toUInt64).toInt64) :: st))) : Gd p e below P T (mkF m pc Ls (.int y :: .long x :: st)) := by
  obtain ⟨hd, rfl⟩ := hd
  exact k.imp fun t q => ⟨XS.lushr X.here hx rfl (hb hby hd) rfl q.1, q.2⟩
theorem g_ineg (X : Stand p l e R s m args below meth c T locs cells slots) (hx : p.tables.exec = Jvm.exec) (hby : c.code = code) {x : Int32} (hd : Ins1 code pc (.ineg) 1 pn) (k : Gd p e below P T (mkF m pn Ls (.int (-x) :: st))) : Gd p e below P T (mkF m pc Ls (.int x :: st)) := by
  obtain ⟨hd, rfl⟩ := hd
  exact k.imp fun t q => ⟨XS.ineg X.here hx rfl (hb hby hd) rfl q.1, q.2⟩
theorem g_lneg (X : Stand p l e R s m args below meth c T locs cells slots) (hx : p.tables.exec = Jvm.exec) (hby : c.code = code) {x : Int64} (hd : Ins1 code pc (.lneg) 1 pn) (k : Gd p e below P T (mkF m pn Ls (.long (-x) :: st))) : Gd p e below P T (mkF m pc Ls (.long x :: st)) := by
  obtain ⟨hd, rfl⟩ := hd
  exact k.imp fun t q => ⟨XS.lneg X.here hx rfl (hb hby hd) rfl q.1, q.2⟩
theorem g_i2l (X : Stand p l e R s m args below meth c T locs cells slots) (hx : p.tables.exec = Jvm.exec) (hby : c.code = code) {x : Int32} (hd : Ins1 code pc (.i2l) 1 pn) (k : Gd p e below P T (mkF m pn Ls (.long x.toInt64 :: st))) : Gd p e below P T (mkF m pc Ls (.int x :: st)) := by
  obtain ⟨hd, rfl⟩ := hd
  exact k.imp fun t q => ⟨XS.i2l X.here hx rfl (hb hby hd) rfl q.1, q.2⟩
theorem g_l2i (X : Stand p l e R s m args below meth c T locs cells slots) (hx : p.tables.exec = Jvm.exec) (hby : c.code = code) {x : Int64} (hd : Ins1 code pc (.l2i) 1 pn) (k : Gd p e below P T (mkF m pn Ls (.int x.toInt32 :: st))) : Gd p e below P T (mkF m pc Ls (.long x :: st)) := by
  obtain ⟨hd, rfl⟩ := hd
  exact k.imp fun t q => ⟨XS.l2i X.here hx rfl (hb hby hd) rfl q.1, q.2⟩
theorem g_i2b (X : Stand p l e R s m args below meth c T locs cells slots) (hx : p.tables.exec = Jvm.exec) (hby : c.code = code) {x : Int32} (hd : Ins1 code pc (.i2b) 1 pn) (k : Gd p e below P T (mkF m pn Ls (.int x.toInt8.toInt32 :: st))) : Gd p e below P T (mkF m pc Ls (.int x :: st)) := by
  obtain ⟨hd, rfl⟩ := hd
  exact k.imp fun t q => ⟨XS.i2b X.here hx rfl (hb hby hd) rfl q.1, q.2⟩
theorem g_i2s (X : Stand p l e R s m args below meth c T locs cells slots) (hx : p.tables.exec = Jvm.exec) (hby : c.code = code) {x : Int32} (hd : Ins1 code pc (.i2s) 1 pn) (k : Gd p e below P T (mkF m pn Ls (.int x.toInt16.toInt32 :: st))) : Gd p e below P T (mkF m pc Ls (.int x :: st)) := by
  obtain ⟨hd, rfl⟩ := hd
  exact k.imp fun t q => ⟨XS.i2s X.here hx rfl (hb hby hd) rfl q.1, q.2⟩
theorem g_i2c (X : Stand p l e R s m args below meth c T locs cells slots) (hx : p.tables.exec = Jvm.exec) (hby : c.code = code) {x : Int32} (hd : Ins1 code pc (.i2c) 1 pn) (k : Gd p e below P T (mkF m pn Ls (.int x.toUInt32.toUInt16.toUInt32.toInt32 :: st))) : Gd p e below P T (mkF m pc Ls (.int x :: st)) := by
  obtain ⟨hd, rfl⟩ := hd
  exact k.imp fun t q => ⟨XS.i2c X.here hx rfl (hb hby hd) rfl q.1, q.2⟩
theorem g_idiv (X : Stand p l e R s m args below meth c T locs cells slots) (hx : p.tables.exec = Jvm.exec) (hby : c.code = code) {x y : Int32} (hd : Ins1 code pc (.idiv) 1 pn) (hy : y ≠ 0) (k : Gd p e below P T (mkF m pn Ls (.int (x / y) :: st))) : Gd p e below P T (mkF m pc Ls (.int y :: .int x :: st)) := by
  obtain ⟨hd, rfl⟩ := hd
  exact k.imp fun t q => ⟨XS.idiv X.here hx rfl (hb hby hd) rfl hy q.1, q.2⟩
theorem g_ldiv (X : Stand p l e R s m args below meth c T locs cells slots) (hx : p.tables.exec = Jvm.exec) (hby : c.code = code) {x y : Int64} (hd : Ins1 code pc (.ldiv) 1 pn) (hy : y ≠ 0) (k : Gd p e below P T (mkF m pn Ls (.long (x / y) :: st))) : Gd p e below P T (mkF m pc Ls (.long y :: .long x :: st)) := by
  obtain ⟨hd, rfl⟩ := hd
  exact k.imp fun t q => ⟨XS.ldiv X.here hx rfl (hb hby hd) rfl hy q.1, q.2⟩
theorem g_lrem (X : Stand p l e R s m args below meth c T locs cells slots) (hx : p.tables.exec = Jvm.exec) (hby : c.code = code) {x y : Int64} (hd : Ins1 code pc (.lrem) 1 pn) (hy : y ≠ 0) (k : Gd p e below P T (mkF m pn Ls (.long (x - (x / y) * y) :: st))) : Gd p e below P T (mkF m pc Ls (.long y :: .long x :: st)) := by
  obtain ⟨hd, rfl⟩ := hd
  exact k.imp fun t q => ⟨XS.lrem X.here hx rfl (hb hby hd) rfl hy q.1, q.2⟩
theorem g_irem (X : Stand p l e R s m args below meth c T locs cells slots) (hx : p.tables.exec = Jvm.exec) (hby : c.code = code) {x y : Int32} (hd : Ins1 code pc .irem 1 pn) (hy : y ≠ 0) (k : Gd p e below P T (mkF m pn Ls (.int (x % y) :: st))) : Gd p e below P T (mkF m pc Ls (.int y :: .int x :: st)) := by
  obtain ⟨hd, rfl⟩ := hd
  exact k.imp fun t q => ⟨iremM X hx rfl (hb hby hd) rfl hy q.1, q.2⟩
theorem g_iinc (X : Stand p l e R s m args below meth c T locs cells slots) (hx : p.tables.exec = Jvm.exec) (hby : c.code = code) {j : Nat} {i : Int} {x z : Int32} {l' : Array Slot} (hd : Ins1 code pc (.iinc j i) 3 pn) (hl : Ls[j]? = some (.val (.int x))) (hz : x + Int32.ofInt i = z) (hs : storeLocals Ls j (.int z) = some l') (k : Gd p e below P T (mkF m pn l' st)) : Gd p e below P T (mkF m pc Ls st) := by
  obtain ⟨hd, rfl⟩ := hd
  subst hz
  exact k.imp fun t q => ⟨XS.iinc X.here hx rfl (hb hby hd) hl hs q.1, q.2⟩
theorem g_dup (X : Stand p l e R s m args below meth c T locs cells slots) (hx : p.tables.exec = Jvm.exec) (hby : c.code = code) {x : Value} (hd : Ins1 code pc (.dup) 1 pn) (hc : x.category = 1) (k : Gd p e below P T (mkF m pn Ls (x :: x :: st))) : Gd p e below P T (mkF m pc Ls (x :: st)) := by
  obtain ⟨hd, rfl⟩ := hd
  exact k.imp fun t q => ⟨XS.dup X.here hx rfl (hb hby hd) rfl hc q.1, q.2⟩
theorem g_dup2 (X : Stand p l e R s m args below meth c T locs cells slots) (hx : p.tables.exec = Jvm.exec) (hby : c.code = code) {x y : Value} (hd : Ins1 code pc (.dup2) 1 pn) (hc : x.category = 1) (hc2 : y.category = 1) (k : Gd p e below P T (mkF m pn Ls (x :: y :: x :: y :: st))) : Gd p e below P T (mkF m pc Ls (x :: y :: st)) := by
  obtain ⟨hd, rfl⟩ := hd
  exact k.imp fun t q => ⟨XT.dup2 X.here hx rfl (hb hby hd) rfl hc hc2 q.1, q.2⟩
theorem g_dup2L (X : Stand p l e R s m args below meth c T locs cells slots) (hx : p.tables.exec = Jvm.exec) (hby : c.code = code) {x : Int64} (hd : Ins1 code pc (.dup2) 1 pn) (k : Gd p e below P T (mkF m pn Ls (.long x :: .long x :: st))) : Gd p e below P T (mkF m pc Ls (.long x :: st)) := by
  obtain ⟨hd, rfl⟩ := hd
  exact k.imp fun t q => ⟨XT.dup2L X.here hx rfl (hb hby hd) rfl q.1, q.2⟩
theorem g_pop (X : Stand p l e R s m args below meth c T locs cells slots) (hx : p.tables.exec = Jvm.exec) (hby : c.code = code) {x : Value} (hd : Ins1 code pc (.pop) 1 pn) (hc : x.category = 1) (k : Gd p e below P T (mkF m pn Ls (st))) : Gd p e below P T (mkF m pc Ls (x :: st)) := by
  obtain ⟨hd, rfl⟩ := hd
  exact k.imp fun t q => ⟨XS.pop X.here hx rfl (hb hby hd) rfl hc q.1, q.2⟩
theorem g_dup_x1 (X : Stand p l e R s m args below meth c T locs cells slots) (hx : p.tables.exec = Jvm.exec) (hby : c.code = code) {x y : Value} (hd : Ins1 code pc (.dup_x1) 1 pn) (hc : x.category = 1) (hc2 : y.category = 1) (k : Gd p e below P T (mkF m pn Ls (x :: y :: x :: st))) : Gd p e below P T (mkF m pc Ls (x :: y :: st)) := by
  obtain ⟨hd, rfl⟩ := hd
  exact k.imp fun t q => ⟨XS.dupX1 X.here hx rfl (hb hby hd) rfl hc hc2 q.1, q.2⟩
theorem g_i2d (X : Stand p l e R s m args below meth c T locs cells slots) (hx : p.tables.exec = Jvm.exec) (hby : c.code = code) {x : Int32} (hd : Ins1 code pc (.i2d) 1 pn) (k : Gd p e below P T (mkF m pn Ls (.double (FP.i2d x) :: st))) : Gd p e below P T (mkF m pc Ls (.int x :: st)) := by
  obtain ⟨hd, rfl⟩ := hd
  exact k.imp fun t q => ⟨XS.i2dS X.here hx rfl (hb hby hd) rfl rfl q.1, q.2⟩
theorem g_l2d (X : Stand p l e R s m args below meth c T locs cells slots) (hx : p.tables.exec = Jvm.exec) (hby : c.code = code) {x : Int64} (hd : Ins1 code pc (.l2d) 1 pn) (k : Gd p e below P T (mkF m pn Ls (.double (FP.l2d x) :: st))) : Gd p e below P T (mkF m pc Ls (.long x :: st)) := by
  obtain ⟨hd, rfl⟩ := hd
  exact k.imp fun t q => ⟨XS.l2dS X.here hx rfl (hb hby hd) rfl rfl q.1, q.2⟩
theorem g_ddiv (X : Stand p l e R s m args below meth c T locs cells slots) (hx : p.tables.exec = Jvm.exec) (hby : c.code = code) {x y : UInt64} (hd : Ins1 code pc (.ddiv) 1 pn) (hn : Jvm.Free.Fl.NoNaN64 (FP.ddiv x y)) (k : Gd p e below P T (mkF m pn Ls (.double (FP.ddiv x y) :: st))) : Gd p e below P T (mkF m pc Ls (.double y :: .double x :: st)) := by
  obtain ⟨hd, rfl⟩ := hd
  exact k.imp fun t q => ⟨XS.ddivS X.here hx rfl (hb hby hd) rfl hn rfl q.1, q.2⟩
theorem g_dcmp (X : Stand p l e R s m args below meth c T locs cells slots) (hx : p.tables.exec = Jvm.exec) (hby : c.code = code) {x y : UInt64} {o : CmpOp} (hd : Ins1 code pc (.dcmp o) 1 pn) (k : Gd p e below P T (mkF m pn Ls (.int (cmpValue (FP.dcmp x y) o) :: st))) : Gd p e below P T (mkF m pc Ls (.double y :: .double x :: st)) := by
  obtain ⟨hd, rfl⟩ := hd
  exact k.imp fun t q => ⟨XS.dcmpS X.here hx rfl (hb hby hd) rfl rfl q.1, q.2⟩
theorem g_dconst0 (X : Stand p l e R s m args below meth c T locs cells slots) (hx : p.tables.exec = Jvm.exec) (hby : c.code = code)  (hd : Ins1 code pc (.dconst 0) 1 pn) (k : Gd p e below P T (mkF m pn Ls (.double FP.dconst0 :: st))) : Gd p e below P T (mkF m pc Ls (st)) := by
  obtain ⟨hd, rfl⟩ := hd
  exact k.imp fun t q => ⟨XS.dconst0 X.here hx rfl (hb hby hd) rfl q.1, q.2⟩
theorem g_dconst1 (X : Stand p l e R s m args below meth c T locs cells slots) (hx : p.tables.exec = Jvm.exec) (hby : c.code = code)  (hd : Ins1 code pc (.dconst 1) 1 pn) (k : Gd p e below P T (mkF m pn Ls (.double FP.dconst1 :: st))) : Gd p e below P T (mkF m pc Ls (st)) := by
  obtain ⟨hd, rfl⟩ := hd
  exact k.imp fun t q => ⟨XS.dconst1 X.here hx rfl (hb hby hd) rfl q.1, q.2⟩
theorem g_lcmp (X : Stand p l e R s m args below meth c T locs cells slots) (hx : p.tables.exec = Jvm.exec) (hby : c.code = code) {x y : Int64} (hd : Ins1 code pc (.lcmp) 1 pn) (k : Gd p e below P T (mkF m pn Ls (.int (lcmpW x y) :: st))) : Gd p e below P T (mkF m pc Ls (.long y :: .long x :: st)) := by
  obtain ⟨hd, rfl⟩ := hd
  exact k.imp fun t q => ⟨XS.lcmp X.here hx rfl (hb hby hd) rfl q.1, q.2⟩
theorem g_goto (X : Stand p l e R s m args below meth c T locs cells slots) (hx : p.tables.exec = Jvm.exec) (hby : c.code = code) {o : Int} (hd : InsB code pc (.goto o) o pn pt) (k : Gd p e below P T (mkF m pt Ls st)) : Gd p e below P T (mkF m pc Ls st) := by
  obtain ⟨hd, -, ho, hp⟩ := hd
  exact k.imp fun t q => ⟨XS.goto X.here hx rfl rfl (hb hby hd) ho hp q.1, q.2⟩
theorem g_icmp_lt (X : Stand p l e R s m args below meth c T locs cells slots) (hx : p.tables.exec = Jvm.exec) (hby : c.code = code) {x y : Int32} {o : Int} (hd : InsB code pc (.if_icmp .lt o) o pn pt) (ky : x < y → Gd p e below P T (mkF m pt Ls st)) (kn : ¬ x < y → Gd p e below P T (mkF m pn Ls st)) : Gd p e below P T (mkF m pc Ls (.int y :: .int x :: st)) := by
  obtain ⟨hd, rfl, ho, hp⟩ := hd
  by_cases w : x < y
  · exact (ky w).imp fun t q => ⟨XS.icmpYes X.here hx rfl rfl (hb hby hd) rfl (tlt w).1 ho hp q.1, q.2⟩
  · exact (kn w).imp fun t q => ⟨XS.icmpNo X.here hx rfl (hb hby hd) rfl (flt w).1 q.1, q.2⟩
theorem g_if_lt (X : Stand p l e R s m args below meth c T locs cells slots) (hx : p.tables.exec = Jvm.exec) (hby : c.code = code) {x : Int32} {o : Int} (hd : InsB code pc (.ifCond .lt o) o pn pt) (ky : x < 0 → Gd p e below P T (mkF m pt Ls st)) (kn : ¬ x < 0 → Gd p e below P T (mkF m pn Ls st)) : Gd p e below P T (mkF m pc Ls (.int x :: st)) := by
  obtain ⟨hd, rfl, ho, hp⟩ := hd
  by_cases w : x < 0
  · exact (ky w).imp fun t q => ⟨XS.ifYes X.here hx rfl rfl (hb hby hd) rfl ((if0 _ _).trans (tlt w).1) ho hp q.1, q.2⟩
  · exact (kn w).imp fun t q => ⟨XS.ifNo X.here hx rfl (hb hby hd) rfl ((if0 _ _).trans (flt w).1) q.1, q.2⟩
theorem g_lcmp_lt (X : Stand p l e R s m args below meth c T locs cells slots) (hx : p.tables.exec = Jvm.exec) (hby : c.code = code) {x y : Int64} {o : Int} {pc1 : Nat} (hc : Ins1 code pc .lcmp 1 pc1) (hd : InsB code pc1 (.ifCond .lt o) o pn pt) (ky : x < y → Gd p e below P T (mkF m pt Ls st)) (kn : ¬ x < y → Gd p e below P T (mkF m pn Ls st)) : Gd p e below P T (mkF m pc Ls (.long y :: .long x :: st)) :=
  g_lcmp X hx hby hc (g_if_lt X hx hby hd (fun w => ky ((lw_lt x y).mp w)) (fun w => kn (fun q => w ((lw_lt x y).mpr q))))
theorem g_icmp_ge (X : Stand p l e R s m args below meth c T locs cells slots) (hx : p.tables.exec = Jvm.exec) (hby : c.code = code) {x y : Int32} {o : Int} (hd : InsB code pc (.if_icmp .ge o) o pn pt) (ky : ¬ x < y → Gd p e below P T (mkF m pt Ls st)) (kn : x < y → Gd p e below P T (mkF m pn Ls st)) : Gd p e below P T (mkF m pc Ls (.int y :: .int x :: st)) := by
  obtain ⟨hd, rfl, ho, hp⟩ := hd
  by_cases w : x < y
  · exact (kn w).imp fun t q => ⟨XS.icmpNo X.here hx rfl (hb hby hd) rfl (tlt w).2.1 q.1, q.2⟩
  · exact (ky w).imp fun t q => ⟨XS.icmpYes X.here hx rfl rfl (hb hby hd) rfl (flt w).2.1 ho hp q.1, q.2⟩
theorem g_if_ge (X : Stand p l e R s m args below meth c T locs cells slots) (hx : p.tables.exec = Jvm.exec) (hby : c.code = code) {x : Int32} {o : Int} (hd : InsB code pc (.ifCond .ge o) o pn pt) (ky : ¬ x < 0 → Gd p e below P T (mkF m pt Ls st)) (kn : x < 0 → Gd p e below P T (mkF m pn Ls st)) : Gd p e below P T (mkF m pc Ls (.int x :: st)) := by
  obtain ⟨hd, rfl, ho, hp⟩ := hd
  by_cases w : x < 0
  · exact (kn w).imp fun t q => ⟨XS.ifNo X.here hx rfl (hb hby hd) rfl ((if0 _ _).trans (tlt w).2.1) q.1, q.2⟩
  · exact (ky w).imp fun t q => ⟨XS.ifYes X.here hx rfl rfl (hb hby hd) rfl ((if0 _ _).trans (flt w).2.1) ho hp q.1, q.2⟩
theorem g_lcmp_ge (X : Stand p l e R s m args below meth c T locs cells slots) (hx : p.tables.exec = Jvm.exec) (hby : c.code = code) {x y : Int64} {o : Int} {pc1 : Nat} (hc : Ins1 code pc .lcmp 1 pc1) (hd : InsB code pc1 (.ifCond .ge o) o pn pt) (ky : ¬ x < y → Gd p e below P T (mkF m pt Ls st)) (kn : x < y → Gd p e below P T (mkF m pn Ls st)) : Gd p e below P T (mkF m pc Ls (.long y :: .long x :: st)) :=
  g_lcmp X hx hby hc (g_if_ge X hx hby hd (fun w => ky (fun q => w ((lw_lt x y).mpr q))) (fun w => kn ((lw_lt x y).mp w)))
theorem g_icmp_gt (X : Stand p l e R s m args below meth c T locs cells slots) (hx : p.tables.exec = Jvm.exec) (hby : c.code = code) {x y : Int32} {o : Int} (hd : InsB code pc (.if_icmp .gt o) o pn pt) (ky : y < x → Gd p e below P T (mkF m pt Ls st)) (kn : ¬ y < x → Gd p e below P T (mkF m pn Ls st)) : Gd p e below P T (mkF m pc Ls (.int y :: .int x :: st)) := by
  obtain ⟨hd, rfl, ho, hp⟩ := hd
  by_cases w : y < x
  · exact (ky w).imp fun t q => ⟨XS.icmpYes X.here hx rfl rfl (hb hby hd) rfl (tlt w).2.2.1 ho hp q.1, q.2⟩
  · exact (kn w).imp fun t q => ⟨XS.icmpNo X.here hx rfl (hb hby hd) rfl (flt w).2.2.1 q.1, q.2⟩
theorem g_if_gt (X : Stand p l e R s m args below meth c T locs cells slots) (hx : p.tables.exec = Jvm.exec) (hby : c.code = code) {x : Int32} {o : Int} (hd : InsB code pc (.ifCond .gt o) o pn pt) (ky : 0 < x → Gd p e below P T (mkF m pt Ls st)) (kn : ¬ 0 < x → Gd p e below P T (mkF m pn Ls st)) : Gd p e below P T (mkF m pc Ls (.int x :: st)) := by
  obtain ⟨hd, rfl, ho, hp⟩ := hd
  by_cases w : 0 < x
  · exact (ky w).imp fun t q => ⟨XS.ifYes X.here hx rfl rfl (hb hby hd) rfl ((if0 _ _).trans (tlt w).2.2.1) ho hp q.1, q.2⟩
  · exact (kn w).imp fun t q => ⟨XS.ifNo X.here hx rfl (hb hby hd) rfl ((if0 _ _).trans (flt w).2.2.1) q.1, q.2⟩
theorem g_lcmp_gt (X : Stand p l e R s m args below meth c T locs cells slots) (hx : p.tables.exec = Jvm.exec) (hby : c.code = code) {x y : Int64} {o : Int} {pc1 : Nat} (hc : Ins1 code pc .lcmp 1 pc1) (hd : InsB code pc1 (.ifCond .gt o) o pn pt) (ky : y < x → Gd p e below P T (mkF m pt Ls st)) (kn : ¬ y < x → Gd p e below P T (mkF m pn Ls st)) : Gd p e below P T (mkF m pc Ls (.long y :: .long x :: st)) :=
  g_lcmp X hx hby hc (g_if_gt X hx hby hd (fun w => ky ((lw_gt x y).mp w)) (fun w => kn (fun q => w ((lw_gt x y).mpr q))))
theorem g_icmp_le (X : Stand p l e R s m args below meth c T locs cells slots) (hx : p.tables.exec = Jvm.exec) (hby : c.code = code) {x y : Int32} {o : Int} (hd : InsB code pc (.if_icmp .le o) o pn pt) (ky : ¬ y < x → Gd p e below P T (mkF m pt Ls st)) (kn : y < x → Gd p e below P T (mkF m pn Ls st)) : Gd p e below P T (mkF m pc Ls (.int y :: .int x :: st)) := by
  obtain ⟨hd, rfl, ho, hp⟩ := hd
  by_cases w : y < x
  · exact (kn w).imp fun t q => ⟨XS.icmpNo X.here hx rfl (hb hby hd) rfl (tlt w).2.2.2 q.1, q.2⟩
  · exact (ky w).imp fun t q => ⟨XS.icmpYes X.here hx rfl rfl (hb hby hd) rfl (flt w).2.2.2 ho hp q.1, q.2⟩
theorem g_if_le (X : Stand p l e R s m args below meth c T locs cells slots) (hx : p.tables.exec = Jvm.exec) (hby : c.code = code) {x : Int32} {o : Int} (hd : InsB code pc (.ifCond .le o) o pn pt) (ky : ¬ 0 < x → Gd p e below P T (mkF m pt Ls st)) (kn : 0 < x → Gd p e below P T (mkF m pn Ls st)) : Gd p e below P T (mkF m pc Ls (.int x :: st)) := by
  obtain ⟨hd, rfl, ho, hp⟩ := hd
  by_cases w : 0 < x
  · exact (kn w).imp fun t q => ⟨XS.ifNo X.here hx rfl (hb hby hd) rfl ((if0 _ _).trans (tlt w).2.2.2) q.1, q.2⟩
  · exact (ky w).imp fun t q => ⟨XS.ifYes X.here hx rfl rfl (hb hby hd) rfl ((if0 _ _).trans (flt w).2.2.2) ho hp q.1, q.2⟩
theorem g_lcmp_le (X : Stand p l e R s m args below meth c T locs cells slots) (hx : p.tables.exec = Jvm.exec) (hby : c.code = code) {x y : Int64} {o : Int} {pc1 : Nat} (hc : Ins1 code pc .lcmp 1 pc1) (hd : InsB code pc1 (.ifCond .le o) o pn pt) (ky : ¬ y < x → Gd p e below P T (mkF m pt Ls st)) (kn : y < x → Gd p e below P T (mkF m pn Ls st)) : Gd p e below P T (mkF m pc Ls (.long y :: .long x :: st)) :=
  g_lcmp X hx hby hc (g_if_le X hx hby hd (fun w => ky (fun q => w ((lw_gt x y).mpr q))) (fun w => kn ((lw_gt x y).mp w)))
theorem g_icmp_eq (X : Stand p l e R s m args below meth c T locs cells slots) (hx : p.tables.exec = Jvm.exec) (hby : c.code = code) {x y : Int32} {o : Int} (hd : InsB code pc (.if_icmp .eq o) o pn pt) (ky : x = y → Gd p e below P T (mkF m pt Ls st)) (kn : ¬ x = y → Gd p e below P T (mkF m pn Ls st)) : Gd p e below P T (mkF m pc Ls (.int y :: .int x :: st)) := by
  obtain ⟨hd, rfl, ho, hp⟩ := hd
  by_cases w : x = y
  · exact (ky w).imp fun t q => ⟨XS.icmpYes X.here hx rfl rfl (hb hby hd) rfl (teq w).1 ho hp q.1, q.2⟩
  · exact (kn w).imp fun t q => ⟨XS.icmpNo X.here hx rfl (hb hby hd) rfl (feq w).1 q.1, q.2⟩
theorem g_if_eq (X : Stand p l e R s m args below meth c T locs cells slots) (hx : p.tables.exec = Jvm.exec) (hby : c.code = code) {x : Int32} {o : Int} (hd : InsB code pc (.ifCond .eq o) o pn pt) (ky : x = 0 → Gd p e below P T (mkF m pt Ls st)) (kn : ¬ x = 0 → Gd p e below P T (mkF m pn Ls st)) : Gd p e below P T (mkF m pc Ls (.int x :: st)) := by
  obtain ⟨hd, rfl, ho, hp⟩ := hd
  by_cases w : x = 0
  · exact (ky w).imp fun t q => ⟨XS.ifYes X.here hx rfl rfl (hb hby hd) rfl ((if0 _ _).trans (teq w).1) ho hp q.1, q.2⟩
  · exact (kn w).imp fun t q => ⟨XS.ifNo X.here hx rfl (hb hby hd) rfl ((if0 _ _).trans (feq w).1) q.1, q.2⟩
theorem g_lcmp_eq (X : Stand p l e R s m args below meth c T locs cells slots) (hx : p.tables.exec = Jvm.exec) (hby : c.code = code) {x y : Int64} {o : Int} {pc1 : Nat} (hc : Ins1 code pc .lcmp 1 pc1) (hd : InsB code pc1 (.ifCond .eq o) o pn pt) (ky : x = y → Gd p e below P T (mkF m pt Ls st)) (kn : ¬ x = y → Gd p e below P T (mkF m pn Ls st)) : Gd p e below P T (mkF m pc Ls (.long y :: .long x :: st)) :=
  g_lcmp X hx hby hc (g_if_eq X hx hby hd (fun w => ky ((lw_eq x y).mp w)) (fun w => kn (fun q => w ((lw_eq x y).mpr q))))
theorem g_icmp_ne (X : Stand p l e R s m args below meth c T locs cells slots) (hx : p.tables.exec = Jvm.exec) (hby : c.code = code) {x y : Int32} {o : Int} (hd : InsB code pc (.if_icmp .ne o) o pn pt) (ky : ¬ x = y → Gd p e below P T (mkF m pt Ls st)) (kn : x = y → Gd p e below P T (mkF m pn Ls st)) : Gd p e below P T (mkF m pc Ls (.int y :: .int x :: st)) := by
  obtain ⟨hd, rfl, ho, hp⟩ := hd
  by_cases w : x = y
  · exact (kn w).imp fun t q => ⟨XS.icmpNo X.here hx rfl (hb hby hd) rfl (teq w).2 q.1, q.2⟩
  · exact (ky w).imp fun t q => ⟨XS.icmpYes X.here hx rfl rfl (hb hby hd) rfl (feq w).2 ho hp q.1, q.2⟩
theorem g_if_ne (X : Stand p l e R s m args below meth c T locs cells slots) (hx : p.tables.exec = Jvm.exec) (hby : c.code = code) {x : Int32} {o : Int} (hd : InsB code pc (.ifCond .ne o) o pn pt) (ky : ¬ x = 0 → Gd p e below P T (mkF m pt Ls st)) (kn : x = 0 → Gd p e below P T (mkF m pn Ls st)) : Gd p e below P T (mkF m pc Ls (.int x :: st)) := by
  obtain ⟨hd, rfl, ho, hp⟩ := hd
  by_cases w : x = 0
  · exact (kn w).imp fun t q => ⟨XS.ifNo X.here hx rfl (hb hby hd) rfl ((if0 _ _).trans (teq w).2) q.1, q.2⟩
  · exact (ky w).imp fun t q => ⟨XS.ifYes X.here hx rfl rfl (hb hby hd) rfl ((if0 _ _).trans (feq w).2) ho hp q.1, q.2⟩
theorem g_lcmp_ne (X : Stand p l e R s m args below meth c T locs cells slots) (hx : p.tables.exec = Jvm.exec) (hby : c.code = code) {x y : Int64} {o : Int} {pc1 : Nat} (hc : Ins1 code pc .lcmp 1 pc1) (hd : InsB code pc1 (.ifCond .ne o) o pn pt) (ky : ¬ x = y → Gd p e below P T (mkF m pt Ls st)) (kn : x = y → Gd p e below P T (mkF m pn Ls st)) : Gd p e below P T (mkF m pc Ls (.long y :: .long x :: st)) :=
  g_lcmp X hx hby hc (g_if_ne X hx hby hd (fun w => ky (fun q => w ((lw_eq x y).mpr q))) (fun w => kn ((lw_eq x y).mp w)))
theorem g_ifnull_y (X : Stand p l e R s m args below meth c T locs cells slots) (hx : p.tables.exec = Jvm.exec) (hby : c.code = code) {o : Int} (hd : InsB code pc (.ifnull o) o pn pt) (k : Gd p e below P T (mkF m pt Ls st)) : Gd p e below P T (mkF m pc Ls (.null :: st)) := by
  obtain ⟨hd, -, ho, hp⟩ := hd
  exact k.imp fun t q => ⟨XS.ifnullYes X.here hx rfl rfl (hb hby hd) rfl ho hp q.1, q.2⟩
theorem g_ifnull_n (X : Stand p l e R s m args below meth c T locs cells slots) (hx : p.tables.exec = Jvm.exec) (hby : c.code = code) {o : Int} {b : Addr} (hd : InsB code pc (.ifnull o) o pn pt) (k : Gd p e below P T (mkF m pn Ls st)) : Gd p e below P T (mkF m pc Ls (.ref b :: st)) := by
  obtain ⟨hd, rfl, ho, hp⟩ := hd
  exact k.imp fun t q => ⟨XS.ifnullNo X.here hx rfl (hb hby hd) rfl q.1, q.2⟩
theorem g_ifnonnull_n (X : Stand p l e R s m args below meth c T locs cells slots) (hx : p.tables.exec = Jvm.exec) (hby : c.code = code) {o : Int} (hd : InsB code pc (.ifnonnull o) o pn pt) (k : Gd p e below P T (mkF m pn Ls st)) : Gd p e below P T (mkF m pc Ls (.null :: st)) := by
  obtain ⟨hd, rfl, ho, hp⟩ := hd
  exact k.imp fun t q => ⟨XS.ifnonnullNo X.here hx rfl (hb hby hd) rfl q.1, q.2⟩
theorem g_ifnonnull_y (X : Stand p l e R s m args below meth c T locs cells slots) (hx : p.tables.exec = Jvm.exec) (hby : c.code = code) {o : Int} {b : Addr} (hd : InsB code pc (.ifnonnull o) o pn pt) (k : Gd p e below P T (mkF m pt Ls st)) : Gd p e below P T (mkF m pc Ls (.ref b :: st)) := by
  obtain ⟨hd, -, ho, hp⟩ := hd
  exact k.imp fun t q => ⟨XS.ifnonnullYes X.here hx rfl rfl (hb hby hd) rfl ho hp q.1, q.2⟩
theorem g_acmp_eq (X : Stand p l e R s m args below meth c T locs cells slots) (hx : p.tables.exec = Jvm.exec) (hby : c.code = code) {o : Int} {x y : Value} (hd : InsB code pc (.if_acmp .eq o) o pn pt) (h1 : x.isRef = true) (h2 : y.isRef = true) (ky : x = y → Gd p e below P T (mkF m pt Ls st)) (kn : ¬ x = y → Gd p e below P T (mkF m pn Ls st)) : Gd p e below P T (mkF m pc Ls (y :: x :: st)) := by
  obtain ⟨hd, hn, ho, hp⟩ := hd
  by_cases w : x = y
  · exact (ky w).imp fun t q => ⟨Jvm.RoadKit.acmp (g := mkF m pc Ls (y :: x :: st)) X hx rfl h1 h2 rfl (hb hby hd) rfl (same := true) (decide_eq_true w) ho (by show _ = ((pc : Int) + o).toNat; exact hp.symm) q.1, q.2⟩
  · exact (kn w).imp fun t q => ⟨Jvm.RoadKit.acmp (g := mkF m pc Ls (y :: x :: st)) X hx rfl h1 h2 rfl (hb hby hd) rfl (same := false) (decide_eq_false w) ho (by show _ = pc + 3; exact hn.symm) q.1, q.2⟩
theorem g_acmp_ne (X : Stand p l e R s m args below meth c T locs cells slots) (hx : p.tables.exec = Jvm.exec) (hby : c.code = code) {o : Int} {x y : Value} (hd : InsB code pc (.if_acmp .ne o) o pn pt) (h1 : x.isRef = true) (h2 : y.isRef = true) (ky : ¬ x = y → Gd p e below P T (mkF m pt Ls st)) (kn : x = y → Gd p e below P T (mkF m pn Ls st)) : Gd p e below P T (mkF m pc Ls (y :: x :: st)) := by
  obtain ⟨hd, hn, ho, hp⟩ := hd
  by_cases w : x = y
  · exact (kn w).imp fun t q => ⟨Jvm.RoadKit.acmp (g := mkF m pc Ls (y :: x :: st)) X hx rfl h1 h2 rfl (hb hby hd) rfl (same := true) (decide_eq_true w) ho (by show _ = pc + 3; exact hn.symm) q.1, q.2⟩
  · exact (ky w).imp fun t q => ⟨Jvm.RoadKit.acmp (g := mkF m pc Ls (y :: x :: st)) X hx rfl h1 h2 rfl (hb hby hd) rfl (same := false) (decide_eq_false w) ho (by show _ = ((pc : Int) + o).toNat; exact hp.symm) q.1, q.2⟩
theorem g_ldcInt (X : Stand p l e R s m args below meth c T locs cells slots) (hx : p.tables.exec = Jvm.exec) (hby : c.code = code) (hZ : Z.Warmed39 s.vm) {own : String} (hown : s.vm.findClass own = some m.cls) {i : Nat} {v : Int32} (w : (Jvm.Cond.constant own i v).before a0 Z = true) (hd : Ins1 code pc (.ldc i) 2 pn) (k : Gd p e below P T (mkF m pn Ls (.int v :: st))) : Gd p e below P T (mkF m pc Ls st) := by
  obtain ⟨hd, rfl⟩ := hd
  exact k.imp fun t q => ⟨X.ldcInt hx hown (mvT hZ w) (g := mkF m pc Ls st) rfl (hb hby hd) _ q.1, q.2⟩
theorem g_ldc2Long (X : Stand p l e R s m args below meth c T locs cells slots) (hx : p.tables.exec = Jvm.exec) (hby : c.code = code) (hZ : Z.Warmed39 s.vm) {own : String} (hown : s.vm.findClass own = some m.cls) {i : Nat} {v : Int64} (w : (Jvm.Cond.constantLong own i v).before a0 Z = true) (hd : Ins1 code pc (.ldc2_w i) 3 pn) (k : Gd p e below P T (mkF m pn Ls (.long v :: st))) : Gd p e below P T (mkF m pc Ls st) := by
  obtain ⟨hd, rfl⟩ := hd
  exact k.imp fun t q => ⟨X.ldc2Long hx hown (mvT hZ w) (g := mkF m pc Ls st) rfl (hb hby hd) _ q.1, q.2⟩
theorem g_getfield (X : Stand p l e R s m args below meth c T locs cells slots) (hx : p.tables.exec = Jvm.exec) (hby : c.code = code) (hZ : Z.Warmed39 s.vm) {own R0 O n d host : String} {index : Nat} (hown : s.vm.findClass own = some m.cls) (w : (Jvm.Cond.fieldLink own index R0 n d).before a0 Z = true ∨ (Jvm.Cond.fieldLinkNest own index R0 n d host).before a0 Z = true) (via : Via Z R0 O n d) (eT : T.heap = h) {a : Addr} {v : Value} (F : Fld Z h a O n d v) (hd : Ins1 code pc (.getfield index) 3 pn)
    (k : ∀ T', Stand p l e R s m args below meth c T' locs cells slots → T'.heap = h → Gd p e below P T' (mkF m pn Ls (v :: st))) : Gd p e below P T (mkF m pc Ls (.ref a :: st)) := by
  obtain ⟨hd, rfl⟩ := hd
  obtain ⟨T', X', e', stp⟩ := getF X hx hZ hown w via eT F (g := mkF m pc Ls (.ref a :: st)) rfl rfl (hb hby hd)
  exact (k T' X' e').of stp
theorem g_getstatic (X : Stand p l e R s m args below meth c T locs cells slots) (hx : p.tables.exec = Jvm.exec) (hby : c.code = code) (hZ : Z.Warmed39 s.vm) {own R0 O n d host : String} {index : Nat} (hown : s.vm.findClass own = some m.cls) (w : (Jvm.Cond.fieldLink own index R0 n d).before a0 Z = true ∨ (Jvm.Cond.fieldLinkNest own index R0 n d host).before a0 Z = true) (via : Via Z R0 O n d) (eT : T.heap = h) {v : Value} (F : Sta Z h O n d v) (hd : Ins1 code pc (.getstatic index) 3 pn)
    (k : ∀ T', Stand p l e R s m args below meth c T' locs cells slots → T'.heap = h → Gd p e below P T' (mkF m pn Ls (v :: st))) : Gd p e below P T (mkF m pc Ls st) := by
  obtain ⟨hd, rfl⟩ := hd
  obtain ⟨T', X', e', stp⟩ := getS2 X hx hZ hown w via eT F (g := mkF m pc Ls st) rfl (hb hby hd)
  exact (k T' X' e').of stp
theorem g_putfield (X : Stand p l e R s m args below meth c T locs cells slots) (hx : p.tables.exec = Jvm.exec) (hby : c.code = code) (hZ : Z.Warmed39 s.vm) {own R0 O n d host C : String} {index kk : Nat} {ty : FieldType} (hown : s.vm.findClass own = some m.cls) (w : (Jvm.Cond.fieldLink own index R0 n d).before a0 Z = true ∨ (Jvm.Cond.fieldLinkNest own index R0 n d host).before a0 Z = true) (via : Via Z R0 O n d) (eT : T.heap = h) {a : Addr} {v old : Value} (F : Fld Z h a O n d old) (E : Exa Z h a C)
    (L : (Jvm.Cond.lays C O n d).before a0 Z = true ∨ ((Jvm.Cond.laysFinal C O n d).before a0 Z = true ∧ own = O ∧ meth.name = "<init>")) (wi : (Jvm.Cond.instantiable C kk).before a0 Z = true) (hty : parseFieldDescriptor d = some ty) (hn : narrow ty v = v) (hf : fits ty v = true) (hd : Ins1 code pc (.putfield index) 3 pn)
    (k : ∀ T' h', Stand p l e R s m args below meth c T' (locs ++ [⟨a, Jvm.RoadKit.slotOf Z O n d⟩]) cells slots → T'.heap = h' → Wr h h' a (Jvm.RoadKit.slotOf Z O n d) v → Gd p e below P T' (mkF m pn Ls st)) : Gd p e below P T (mkF m pc Ls (v :: .ref a :: st)) := by
  obtain ⟨hd, rfl⟩ := hd
  obtain ⟨T', h', X', e', W, stp⟩ := putF X hx hZ hown w via eT F E L wi hty hn hf (g := mkF m pc Ls (v :: .ref a :: st)) rfl rfl (hb hby hd)
  exact (k T' h' X' e' W).of stp
theorem g_putfieldN (X : Stand p l e R s m args below meth c T locs cells slots) (hx : p.tables.exec = Jvm.exec) (hby : c.code = code) (hZ : Z.Warmed39 s.vm) {own R0 O n d C : String} {index kk : Nat} {ty : FieldType} (hown : s.vm.findClass own = some m.cls) (w : (Jvm.Cond.fieldLink own index R0 n d).before a0 Z = true) (via : Via Z R0 O n d) (eT : T.heap = h) {a : Addr} {v v' old : Value} (F : Fld Z h a O n d old) (E : Exa Z h a C)
    (L : (Jvm.Cond.lays C O n d).before a0 Z = true ∨ ((Jvm.Cond.laysFinal C O n d).before a0 Z = true ∧ own = O ∧ meth.name = "<init>")) (wi : (Jvm.Cond.instantiable C kk).before a0 Z = true) (hty : parseFieldDescriptor d = some ty) (hn : narrow ty v = v') (hf : fits ty v' = true) (hd : Ins1 code pc (.putfield index) 3 pn)
    (k : ∀ T' h', Stand p l e R s m args below meth c T' (locs ++ [⟨a, Jvm.RoadKit.slotOf Z O n d⟩]) cells slots → T'.heap = h' → Wr h h' a (Jvm.RoadKit.slotOf Z O n d) v' → Gd p e below P T' (mkF m pn Ls st)) : Gd p e below P T (mkF m pc Ls (v :: .ref a :: st)) := by
  obtain ⟨hd, rfl⟩ := hd
  obtain ⟨T', h', X', e', W, stp⟩ := putFN X hx hZ hown w via eT F E L wi hty hn hf (g := mkF m pc Ls (v :: .ref a :: st)) rfl rfl (hb hby hd)
  exact (k T' h' X' e' W).of stp
theorem g_new (X : Stand p l e R s m args below meth c T locs cells slots) (hx : p.tables.exec = Jvm.exec) (hby : c.code = code) (hZ : Z.Warmed39 s.vm) {own C : String} {index n : Nat} (hown : s.vm.findClass own = some m.cls) (w : (Jvm.Cond.classLink own index C).before a0 Z = true) (wi : (Jvm.Cond.instantiable C n).before a0 Z = true) (wz : (Jvm.Cond.initialized C).before a0 Z = true) (eT : T.heap = h) (hd : Ins1 code pc (.new index) 3 pn) (hc : cells + 1 ≤ R.cells) (hl : slots + n ≤ R.slots)
    (k : ∀ T' h' b, Stand p l e R s m args below meth c T' locs (cells + 1) (slots + n) → T'.heap = h' → Ext h h' → b = h.size → Exa Z h' b C → (∀ {O nm d : String} {ty : FieldType}, Laid Z a0 C O nm d → parseFieldDescriptor d = some ty → Fld Z h' b O nm d (defaultValue ty)) → Gd p e below P T' (mkF m pn Ls (.ref b :: st))) : Gd p e below P T (mkF m pc Ls st) := by
  obtain ⟨hd, rfl⟩ := hd
  obtain ⟨T', h', X', e', E, A, D, -, stp⟩ := newO X hx hZ hown w wi wz eT (g := mkF m pc Ls st) rfl (hb hby hd) hc hl
  exact (k T' h' _ X' e' E rfl A D).of stp
theorem g_newarray (X : Stand p l e R s m args below meth c T locs cells slots) (hx : p.tables.exec = Jvm.exec) (hby : c.code = code) (hZ : Z.Warmed39 s.vm) {aty : ArrayType} {n : Int32} {ty : FieldType} (hty : newarray.typeOf aty = ty) (w : (Jvm.Cond.arrayClass ty).before a0 Z = true) (eT : T.heap = h) (hd : Ins1 code pc (.newarray aty) 2 pn) (hn : ¬ n < 0) (cap : Nat) (hcap : n.toNatClampNeg ≤ cap) (hb' : cap * 8 ≤ 536870912) (hc : cells + 1 ≤ R.cells) (hl : slots + cap ≤ R.slots)
    (k : ∀ T' h' b cA, Stand p l e R s m args below meth c T' locs (cells + 1) (slots + cap) → T'.heap = h' → Ext h h' → b = h.size → Arv Z h' b cA ty n [] (defaultValue ty) → Gd p e below P T' (mkF m pn Ls (.ref b :: st))) : Gd p e below P T (mkF m pc Ls (.int n :: st)) := by
  obtain ⟨hd, rfl⟩ := hd
  subst hty
  obtain ⟨T', h', cA, X', e', E, A, stp⟩ := newP X hx hZ w eT (g := mkF m pc Ls (.int n :: st)) rfl (hb hby hd) rfl hn hcap hb' hc hl
  exact (k T' h' _ cA X' e' E rfl (Arv.new A hn)).of stp
theorem g_iastore (X : Stand p l e R s m args below meth c T locs cells slots) (hx : p.tables.exec = Jvm.exec) (hby : c.code = code) (hZ : Z.Warmed39 s.vm) (eT : T.heap = h) {a : Addr} {kc : ClassId} {z j : Int32} {vs : List Value} {dv : Value} {x : Int32} (A : Arv Z h a kc .int z vs dv) {i : Nat} (hj0 : ¬ j < 0) (hj : j < z) (hji : j.toNatClampNeg = i) (hil : i < vs.length) (hd : Ins1 code pc .iastore 1 pn)
    (k : ∀ T' h', Stand p l e R s m args below meth c T' (locs ++ [⟨a, i⟩]) cells slots → T'.heap = h' → Wr h h' a i (.int x) → Arv Z h' a kc .int z (vs.set i (.int x)) dv → Gd p e below P T' (mkF m pn Ls st)) : Gd p e below P T (mkF m pc Ls (.int x :: .int j :: .ref a :: st)) := by
  obtain ⟨hd, rfl⟩ := hd
  obtain ⟨cl, Ar, q1, S, N, H, G⟩ := A
  obtain ⟨T', h', X', e', W, stp⟩ := stI X hx hZ eT Ar (j := j) (inb_of S ⟨hj0, hj⟩) (g := mkF m pc Ls (.int x :: .int j :: .ref a :: st)) rfl rfl (hb hby hd)
  have V := Arv.set Ar q1 S N H G rfl W i hji hil
  rw [hji] at X' W
  exact (k T' h' X' e' W V).of stp
theorem g_lastore (X : Stand p l e R s m args below meth c T locs cells slots) (hx : p.tables.exec = Jvm.exec) (hby : c.code = code) (hZ : Z.Warmed39 s.vm) (eT : T.heap = h) {a : Addr} {kc : ClassId} {z j : Int32} {vs : List Value} {dv : Value} {x : Int64} (A : Arv Z h a kc .long z vs dv) {i : Nat} (hj0 : ¬ j < 0) (hj : j < z) (hji : j.toNatClampNeg = i) (hil : i < vs.length) (hd : Ins1 code pc .lastore 1 pn)
    (k : ∀ T' h', Stand p l e R s m args below meth c T' (locs ++ [⟨a, i⟩]) cells slots → T'.heap = h' → Wr h h' a i (.long x) → Arv Z h' a kc .long z (vs.set i (.long x)) dv → Gd p e below P T' (mkF m pn Ls st)) : Gd p e below P T (mkF m pc Ls (.long x :: .int j :: .ref a :: st)) := by
  obtain ⟨hd, rfl⟩ := hd
  obtain ⟨cl, Ar, q1, S, N, H, G⟩ := A
  obtain ⟨T', h', X', e', W, stp⟩ := stJ X hx hZ eT Ar (j := j) (inb_of S ⟨hj0, hj⟩) (g := mkF m pc Ls (.long x :: .int j :: .ref a :: st)) rfl rfl (hb hby hd)
  have V := Arv.set Ar q1 S N H G rfl W i hji hil
  rw [hji] at X' W
  exact (k T' h' X' e' W V).of stp
theorem g_castore (X : Stand p l e R s m args below meth c T locs cells slots) (hx : p.tables.exec = Jvm.exec) (hby : c.code = code) (hZ : Z.Warmed39 s.vm) (eT : T.heap = h) {a : Addr} {kc : ClassId} {z j : Int32} {vs : List Value} {dv : Value} {x : Int32} (A : Arv Z h a kc .char z vs dv) {i : Nat} (hj0 : ¬ j < 0) (hj : j < z) (hji : j.toNatClampNeg = i) (hil : i < vs.length) (hd : Ins1 code pc .castore 1 pn)
    (k : ∀ T' h', Stand p l e R s m args below meth c T' (locs ++ [⟨a, i⟩]) cells slots → T'.heap = h' → Wr h h' a i (.int (nar .char x)) → Arv Z h' a kc .char z (vs.set i (.int (nar .char x))) dv → Gd p e below P T' (mkF m pn Ls st)) : Gd p e below P T (mkF m pc Ls (.int x :: .int j :: .ref a :: st)) := by
  obtain ⟨hd, rfl⟩ := hd
  obtain ⟨cl, Ar, q1, S, N, H, G⟩ := A
  obtain ⟨T', h', X', e', W, stp⟩ := stC X hx hZ eT Ar (j := j) (inb_of S ⟨hj0, hj⟩) (g := mkF m pc Ls (.int x :: .int j :: .ref a :: st)) rfl rfl (hb hby hd)
  have V := Arv.set Ar q1 S N H G (fits_nar_char x) W i hji hil
  rw [hji] at X' W
  exact (k T' h' X' e' W V).of stp
theorem g_sastore (X : Stand p l e R s m args below meth c T locs cells slots) (hx : p.tables.exec = Jvm.exec) (hby : c.code = code) (hZ : Z.Warmed39 s.vm) (eT : T.heap = h) {a : Addr} {kc : ClassId} {z j : Int32} {vs : List Value} {dv : Value} {x : Int32} (A : Arv Z h a kc .short z vs dv) {i : Nat} (hj0 : ¬ j < 0) (hj : j < z) (hji : j.toNatClampNeg = i) (hil : i < vs.length) (hd : Ins1 code pc .sastore 1 pn)
    (k : ∀ T' h', Stand p l e R s m args below meth c T' (locs ++ [⟨a, i⟩]) cells slots → T'.heap = h' → Wr h h' a i (.int (nar .short x)) → Arv Z h' a kc .short z (vs.set i (.int (nar .short x))) dv → Gd p e below P T' (mkF m pn Ls st)) : Gd p e below P T (mkF m pc Ls (.int x :: .int j :: .ref a :: st)) := by
  obtain ⟨hd, rfl⟩ := hd
  obtain ⟨cl, Ar, q1, S, N, H, G⟩ := A
  obtain ⟨T', h', X', e', W, stp⟩ := stS X hx hZ eT Ar (j := j) (inb_of S ⟨hj0, hj⟩) (g := mkF m pc Ls (.int x :: .int j :: .ref a :: st)) rfl rfl (hb hby hd)
  have V := Arv.set Ar q1 S N H G (fits_nar_short x) W i hji hil
  rw [hji] at X' W
  exact (k T' h' X' e' W V).of stp
theorem g_bastore (X : Stand p l e R s m args below meth c T locs cells slots) (hx : p.tables.exec = Jvm.exec) (hby : c.code = code) (hZ : Z.Warmed39 s.vm) (eT : T.heap = h) {a : Addr} {kc : ClassId} {z j : Int32} {vs : List Value} {dv : Value} {x : Int32} (A : Arv Z h a kc .byte z vs dv) {i : Nat} (hj0 : ¬ j < 0) (hj : j < z) (hji : j.toNatClampNeg = i) (hil : i < vs.length) (hd : Ins1 code pc .bastore 1 pn)
    (k : ∀ T' h', Stand p l e R s m args below meth c T' (locs ++ [⟨a, i⟩]) cells slots → T'.heap = h' → Wr h h' a i (.int (nar .byte x)) → Arv Z h' a kc .byte z (vs.set i (.int (nar .byte x))) dv → Gd p e below P T' (mkF m pn Ls st)) : Gd p e below P T (mkF m pc Ls (.int x :: .int j :: .ref a :: st)) := by
  obtain ⟨hd, rfl⟩ := hd
  obtain ⟨cl, Ar, q1, S, N, H, G⟩ := A
  obtain ⟨T', h', X', e', W, stp⟩ := stB X hx hZ eT Ar (j := j) (inb_of S ⟨hj0, hj⟩) (g := mkF m pc Ls (.int x :: .int j :: .ref a :: st)) rfl rfl (hb hby hd)
  have V := Arv.set Ar q1 S N H G (fits_nar_byte x) W i hji hil
  rw [hji] at X' W
  exact (k T' h' X' e' W V).of stp
theorem g_iaload (X : Stand p l e R s m args below meth c T locs cells slots) (hx : p.tables.exec = Jvm.exec) (hby : c.code = code) (hZ : Z.Warmed39 s.vm) (eT : T.heap = h) {a : Addr} {kc : ClassId} {z j : Int32} {vs : List Value} {dv v : Value} (A : Arv Z h a kc .int z vs dv) {i : Nat} (hj0 : ¬ j < 0) (hj : j < z) (hji : j.toNatClampNeg = i) (hv : vs.getD i dv = v) (hd : Ins1 code pc .iaload 1 pn)
    (k : Gd p e below P T (mkF m pn Ls (v :: st))) : Gd p e below P T (mkF m pc Ls (.int j :: .ref a :: st)) := by
  obtain ⟨hd, rfl⟩ := hd
  obtain ⟨cl, Ar, q1, S, N, H, G⟩ := A
  have hin := inb_of S ⟨hj0, hj⟩
  exact k.imp fun t q => ⟨X.iaload hx (j := j) (v := v) (by rw [eT]; exact Ar.1) (State.isArrayOf_alike hZ.alike Ar.2.1) Ar.2.2 hin (H.at hin (by rw [hji]; exact hv)) (g := mkF m pc Ls (.int j :: .ref a :: st)) rfl rfl (hb hby hd) _ q.1, q.2⟩
theorem g_laload (X : Stand p l e R s m args below meth c T locs cells slots) (hx : p.tables.exec = Jvm.exec) (hby : c.code = code) (hZ : Z.Warmed39 s.vm) (eT : T.heap = h) {a : Addr} {kc : ClassId} {z j : Int32} {vs : List Value} {dv v : Value} (A : Arv Z h a kc .long z vs dv) {i : Nat} (hj0 : ¬ j < 0) (hj : j < z) (hji : j.toNatClampNeg = i) (hv : vs.getD i dv = v) (hd : Ins1 code pc .laload 1 pn)
    (k : Gd p e below P T (mkF m pn Ls (v :: st))) : Gd p e below P T (mkF m pc Ls (.int j :: .ref a :: st)) := by
  obtain ⟨hd, rfl⟩ := hd
  obtain ⟨cl, Ar, q1, S, N, H, G⟩ := A
  have hin := inb_of S ⟨hj0, hj⟩
  exact k.imp fun t q => ⟨X.laload hx (j := j) (v := v) (by rw [eT]; exact Ar.1) (State.isArrayOf_alike hZ.alike Ar.2.1) Ar.2.2 hin (H.at hin (by rw [hji]; exact hv)) (g := mkF m pc Ls (.int j :: .ref a :: st)) rfl rfl (hb hby hd) _ q.1, q.2⟩
theorem g_caload (X : Stand p l e R s m args below meth c T locs cells slots) (hx : p.tables.exec = Jvm.exec) (hby : c.code = code) (hZ : Z.Warmed39 s.vm) (eT : T.heap = h) {a : Addr} {kc : ClassId} {z j : Int32} {vs : List Value} {dv v : Value} (A : Arv Z h a kc .char z vs dv) {i : Nat} (hj0 : ¬ j < 0) (hj : j < z) (hji : j.toNatClampNeg = i) (hv : vs.getD i dv = v) (hd : Ins1 code pc .caload 1 pn)
    (k : Gd p e below P T (mkF m pn Ls (v :: st))) : Gd p e below P T (mkF m pc Ls (.int j :: .ref a :: st)) := by
  obtain ⟨hd, rfl⟩ := hd
  obtain ⟨cl, Ar, q1, S, N, H, G⟩ := A
  have hin := inb_of S ⟨hj0, hj⟩
  exact k.imp fun t q => ⟨X.caload hx (j := j) (v := v) (by rw [eT]; exact Ar.1) (State.isArrayOf_alike hZ.alike Ar.2.1) Ar.2.2 hin (H.at hin (by rw [hji]; exact hv)) (g := mkF m pc Ls (.int j :: .ref a :: st)) rfl rfl (hb hby hd) _ q.1, q.2⟩
theorem g_saload (X : Stand p l e R s m args below meth c T locs cells slots) (hx : p.tables.exec = Jvm.exec) (hby : c.code = code) (hZ : Z.Warmed39 s.vm) (eT : T.heap = h) {a : Addr} {kc : ClassId} {z j : Int32} {vs : List Value} {dv v : Value} (A : Arv Z h a kc .short z vs dv) {i : Nat} (hj0 : ¬ j < 0) (hj : j < z) (hji : j.toNatClampNeg = i) (hv : vs.getD i dv = v) (hd : Ins1 code pc .saload 1 pn)
    (k : Gd p e below P T (mkF m pn Ls (v :: st))) : Gd p e below P T (mkF m pc Ls (.int j :: .ref a :: st)) := by
  obtain ⟨hd, rfl⟩ := hd
  obtain ⟨cl, Ar, q1, S, N, H, G⟩ := A
  have hin := inb_of S ⟨hj0, hj⟩
  exact k.imp fun t q => ⟨X.saload hx (j := j) (v := v) (by rw [eT]; exact Ar.1) (State.isArrayOf_alike hZ.alike Ar.2.1) Ar.2.2 hin (H.at hin (by rw [hji]; exact hv)) (g := mkF m pc Ls (.int j :: .ref a :: st)) rfl rfl (hb hby hd) _ q.1, q.2⟩
theorem g_baload (X : Stand p l e R s m args below meth c T locs cells slots) (hx : p.tables.exec = Jvm.exec) (hby : c.code = code) (hZ : Z.Warmed39 s.vm) (eT : T.heap = h) {a : Addr} {kc : ClassId} {z j : Int32} {vs : List Value} {dv v : Value} (A : Arv Z h a kc .byte z vs dv) {i : Nat} (hj0 : ¬ j < 0) (hj : j < z) (hji : j.toNatClampNeg = i) (hv : vs.getD i dv = v) (hd : Ins1 code pc .baload 1 pn)
    (k : Gd p e below P T (mkF m pn Ls (v :: st))) : Gd p e below P T (mkF m pc Ls (.int j :: .ref a :: st)) := by
  obtain ⟨hd, rfl⟩ := hd
  obtain ⟨cl, Ar, q1, S, N, H, G⟩ := A
  have hin := inb_of S ⟨hj0, hj⟩
  exact k.imp fun t q => ⟨X.baloadBytes hx (j := j) (v := v) (by rw [eT]; exact Ar.1) (State.isArrayOf_alike hZ.alike Ar.2.1) Ar.2.2 hin (H.at hin (by rw [hji]; exact hv)) (g := mkF m pc Ls (.int j :: .ref a :: st)) rfl rfl (hb hby hd) _ q.1, q.2⟩
theorem g_arraylength (X : Stand p l e R s m args below meth c T locs cells slots) (hx : p.tables.exec = Jvm.exec) (hby : c.code = code) (hZ : Z.Warmed39 s.vm) (eT : T.heap = h) {a : Addr} {kc : ClassId} {ty : FieldType} {z : Int32} {vs : List Value} {dv : Value} (A : Arv Z h a kc ty z vs dv) (hd : Ins1 code pc .arraylength 1 pn) (k : Gd p e below P T (mkF m pn Ls (.int z :: st))) : Gd p e below P T (mkF m pc Ls (.ref a :: st)) := by
  obtain ⟨hd, rfl⟩ := hd
  obtain ⟨cl, Ar, q1, S, N, H, G⟩ := A
  rw [← len_of S N] at k
  exact k.imp fun t q => ⟨X.arraylength hx (by rw [eT]; exact Ar.1) (State.isArrayOf_alike hZ.alike Ar.2.1) (g := mkF m pc Ls (.ref a :: st)) rfl rfl (hb hby hd) _ q.1, q.2⟩
theorem g_objInit (X : Stand p l e R s m args below meth c T locs cells slots) (hx : p.tables.exec = Jvm.exec) (hby : c.code = code) (hZ : Z.Warmed39 s.vm) {own : String} {idx : Nat} (hown : s.vm.findClass own = some m.cls) (w1 : (Jvm.Cond.methodLink own idx Lib.objectInit).before a0 Z = true) (w2 : (Jvm.Cond.instanceMethod Lib.objectInit).before a0 Z = true) (w3 : (Jvm.Cond.code Lib.objectInit ⟨#[0xb1]⟩ 1 none).before a0 Z = true) (eT : T.heap = h) (hsize : Ls.size = c.maxLocals) {a : Addr} (hd : Ins1 code pc (.invokespecial idx) 3 pn)
    (W : Nat) (hW : (st.map fun v => v.category).sum = W) (hf : 1 ≤ R.frames) (hl : W + 12 ≤ R.locals) (k : ∀ T', Stand p l e R s m args below meth c T' locs cells slots → T'.heap = h → Gd p e below P T' (mkF m pn Ls st)) : Gd p e below P T (mkF m pc Ls (.ref a :: st)) := by
  obtain ⟨hd, rfl⟩ := hd
  obtain ⟨T', X', e', stp⟩ := initO X hx hZ hown w1 w2 w3 eT (g := mkF m pc Ls (.ref a :: st)) rfl hsize rfl (hb hby hd) hf (W := W) (by show 2 * 0 + _ ≤ _; rw [hW]; omega) hl
  exact (k T' X' e').of stp
theorem g_callS0 (X : Stand p l e R s m args below meth c T locs cells slots) (hx : p.tables.exec = Jvm.exec) (hby : c.code = code) (hZ : Z.Warmed39 s.vm) {y : MethodName} {bytes : ByteArray} {maxL : Nat} {ret : Option FieldType} {rm : Room} {argsL rest : List Value} {Q : Option Value → Heap → List Loc → Prop} {own : String} {index : Nat} (hown : s.vm.findClass own = some m.cls) (w1 : (Jvm.Cond.methodLink own index y).before a0 Z = true) (w2 : (Jvm.Cond.static y).before a0 Z = true) (w3 : (Jvm.Cond.initialized y.cls).before a0 Z = true) (w4 : (Jvm.Cond.code y bytes maxL ret).before a0 Z = true) (hy : y.cls ≠ "java/lang/invoke/MethodHandle" ∧ y.cls ≠ "java/lang/invoke/VarHandle")
    (M : Met1 l y bytes maxL ret [] rm argsL.toArray Z h Q) (eT : T.heap = h) (hsize : Ls.size = c.maxLocals) {ps : List FieldType} {r : Option FieldType} (hpd : parseMethodDescriptor y.desc = some ⟨ps, r⟩) (hlen : argsL.length = ps.length) (hst : st = argsL.reverse ++ rest) (hd : Ins1 code pc (.invokestatic index) 3 pn) (hf : rm.frames + 1 ≤ R.frames) (W : Nat) (hW : (rest.map fun v => v.category).sum = W) (hl : W + (maxL + 11) + rm.locals ≤ R.locals) (hcl : cells + rm.cells ≤ R.cells) (hsl : slots + rm.slots ≤ R.slots)
    (k : ∀ T' v L, Stand p l e R s m args below meth c T' (locs ++ L) (cells + rm.cells) (slots + rm.slots) → Q v T'.heap L → Gd p e below P T' (mkF m pn Ls (v.toList ++ rest))) : Gd p e below P T (mkF m pc Ls st) := by
  obtain ⟨hd, rfl⟩ := hd
  obtain ⟨v, _, ⟨T', L', k', n'⟩, -, X', ⟨Lc, hQ, l1, y1, z1⟩, stp⟩ := Jvm.LawKit.callS X hx (y := y) hown (mvT hZ w1) (mvT hZ w2) (mvT hZ w3) (mvT hZ w4) hy (backOf (W := W) M hZ w4 w3 hf hl) (g := mkF m pc Ls st) rfl hsize (argsL := argsL) (rest := rest) (lenOf hpd hlen) hst (by show 2 * 0 + _ ≤ _; rw [hW]; omega) (hb hby hd) (fun _ _ => ⟨rfl, eT, hcl, hsl⟩)
  dsimp only [Pt.U, Pt.locs, Pt.cells, Pt.slots] at X' l1 y1 z1 stp hQ
  subst l1 y1 z1
  exact (k T' v Lc X' hQ).of stp
theorem g_callInit0 (X : Stand p l e R s m args below meth c T locs cells slots) (hx : p.tables.exec = Jvm.exec) (hby : c.code = code) (hZ : Z.Warmed39 s.vm) {y : MethodName} {bytes : ByteArray} {maxL : Nat} {rm : Room} {argsL rest : List Value} {Q : Option Value → Heap → List Loc → Prop} {own : String} {index : Nat} (hy1 : y.name = "<init>") (hown : s.vm.findClass own = some m.cls) (w1 : (Jvm.Cond.methodLink own index y).before a0 Z = true) (w2 : (Jvm.Cond.instanceMethod y).before a0 Z = true) (w3 : (Jvm.Cond.initialized y.cls).before a0 Z = true) (w4 : (Jvm.Cond.code y bytes maxL none).before a0 Z = true) (hy : y.cls ≠ "java/lang/invoke/MethodHandle" ∧ y.cls ≠ "java/lang/invoke/VarHandle")
    {a : Addr} (M : Met1 l y bytes maxL none [] rm (.ref a :: argsL).toArray Z h Q) (eT : T.heap = h) (hsize : Ls.size = c.maxLocals) {ps : List FieldType} {r : Option FieldType} (hpd : parseMethodDescriptor y.desc = some ⟨ps, r⟩) (hlen : argsL.length = ps.length) (hst : st = argsL.reverse ++ .ref a :: rest) (hd : Ins1 code pc (.invokespecial index) 3 pn) (hf : rm.frames + 1 ≤ R.frames) (W : Nat) (hW : (rest.map fun v => v.category).sum = W) (hl : W + (maxL + 11) + rm.locals ≤ R.locals) (hcl : cells + rm.cells ≤ R.cells) (hsl : slots + rm.slots ≤ R.slots)
    (k : ∀ T' v L, Stand p l e R s m args below meth c T' (locs ++ L) (cells + rm.cells) (slots + rm.slots) → Q v T'.heap L → Gd p e below P T' (mkF m pn Ls (v.toList ++ rest))) : Gd p e below P T (mkF m pc Ls st) := by
  obtain ⟨hd, rfl⟩ := hd
  obtain ⟨v, _, ⟨T', L', k', n'⟩, -, X', ⟨Lc, hQ, l1, y1, z1⟩, stp⟩ := X.specialBack hx (y := y) hy1 hown (mvT hZ w1) (mvT hZ w2) (mvT hZ w4) hy (backOf (W := W) M hZ w4 w3 hf hl) (g := mkF m pc Ls st) rfl hsize (Steps.refl _) (a := a) (argsL := argsL) (rest := rest) (lenOf hpd hlen) hst (by show 2 * 0 + _ ≤ _; rw [hW]; omega) (hb hby hd) (fun _ _ => ⟨rfl, eT, hcl, hsl⟩)
  dsimp only [Pt.U, Pt.locs, Pt.cells, Pt.slots] at X' l1 y1 z1 stp hQ
  subst l1 y1 z1
  exact (k T' v Lc X' hQ).of fun t q => stp.trans q
theorem g_callV0 (X : Stand p l e R s m args below meth c T locs cells slots) (hx : p.tables.exec = Jvm.exec) (hby : c.code = code) (hZ : Z.Warmed39 s.vm) {y : MethodName} {bytes : ByteArray} {maxL : Nat} {ret : Option FieldType} {rm : Room} {argsL rest : List Value} {Q : Option Value → Heap → List Loc → Prop} {own C : String} {index : Nat} {y0 : MethodName} (hown : s.vm.findClass own = some m.cls) (w1 : (Jvm.Cond.methodLink own index y0).before a0 Z = true) (w2 : (Jvm.Cond.declares y0).before a0 Z = true) (hnf : NotFace s y0) (w5 : (Jvm.Cond.selects C y0 y).before a0 Z = true) (w6 : (Jvm.Cond.instanceMethod y).before a0 Z = true) (w3 : (Jvm.Cond.initialized y.cls).before a0 Z = true) (w4 : (Jvm.Cond.code y bytes maxL ret).before a0 Z = true) (hy : y0.cls ≠ "java/lang/invoke/MethodHandle" ∧ y0.cls ≠ "java/lang/invoke/VarHandle")
    {a : Addr} (E : Exa Z h a C) (M : Met1 l y bytes maxL ret [] rm (.ref a :: argsL).toArray Z h Q) (eT : T.heap = h) (hsize : Ls.size = c.maxLocals) {ps : List FieldType} {r : Option FieldType} (hpd : parseMethodDescriptor y0.desc = some ⟨ps, r⟩) (hlen : argsL.length = ps.length) (hst : st = argsL.reverse ++ .ref a :: rest) (hd : Ins1 code pc (.invokevirtual index) 3 pn) (hf : rm.frames + 1 ≤ R.frames) (W : Nat) (hW : (rest.map fun v => v.category).sum = W) (hl : W + (maxL + 11) + rm.locals ≤ R.locals) (hcl : cells + rm.cells ≤ R.cells) (hsl : slots + rm.slots ≤ R.slots)
    (k : ∀ T' v L, Stand p l e R s m args below meth c T' (locs ++ L) (cells + rm.cells) (slots + rm.slots) → Q v T'.heap L → Gd p e below P T' (mkF m pn Ls (v.toList ++ rest))) : Gd p e below P T (mkF m pc Ls st) := by
  obtain ⟨hd, rfl⟩ := hd
  obtain ⟨cq, kq, qa, qb, qc⟩ := isOf hZ eT E
  obtain ⟨v, _, ⟨T', L', k', n'⟩, -, X', ⟨Lc, hQ, l1, y1, z1⟩, stp⟩ := X.virtualBack hx (y := y0) (z := y) hown (mvT hZ w1) (mvT hZ w2) hnf (mvT hZ w5) (mvT hZ w6) hy (backOf (W := W) M hZ w4 w3 hf hl) qa qc (g := mkF m pc Ls st) rfl hsize (Steps.refl _) (argsL := argsL) (rest := rest) (lenOf hpd hlen) hst (by show 2 * 0 + _ ≤ _; rw [hW]; omega) (hb hby hd) (fun _ _ => ⟨rfl, eT, hcl, hsl⟩)
  dsimp only [Pt.U, Pt.locs, Pt.cells, Pt.slots] at X' l1 y1 z1 stp hQ
  subst l1 y1 z1
  exact (k T' v Lc X' hQ).of fun t q => stp.trans q
theorem g_ireturn (X : Stand p l e R s m args below meth c T locs cells slots) (hx : p.tables.exec = Jvm.exec) (hby : c.code = code) (hret : meth.sig.returnType = some .int) (hlk : meth.locks = false) {z : Int32} {Q : Option Value → Heap → List Loc → Prop} {C S : Nat} (hd : Ins1 code pc .ireturn 1 pn) (hc : cells ≤ C) (hs : slots ≤ S) (hQ : Q (some (.int z)) T.heap locs) : Gd p e below (Fin1 s below C S Q) T (mkF m pc Ls (.int z :: st)) := by
  obtain ⟨fs, hr, hrun, hended, hW, hsame⟩ := X.leave (v := some (.int z)) (fun q => by rw [hret] at q; cases q) hlk
  exact ⟨_, retOut X hx (t := .int) hret rfl (Or.inl ⟨rfl, Or.inl rfl, z, rfl⟩) (hb hby hd.1) hr, _, hrun, hended, _, _, rfl, hQ, ⟨_, rfl⟩, hW, hsame.mono hc hs⟩
theorem g_ireturnN (X : Stand p l e R s m args below meth c T locs cells slots) (hx : p.tables.exec = Jvm.exec) (hby : c.code = code) {ty : FieldType} (hret : meth.sig.returnType = some ty) (hty : ty = .boolean ∨ ty = .byte ∨ ty = .char ∨ ty = .short) (hlk : meth.locks = false) {z : Int32} {Q : Option Value → Heap → List Loc → Prop} {C S : Nat} (hd : Ins1 code pc .ireturn 1 pn) (hc : cells ≤ C) (hs : slots ≤ S) (hQ : Q (some (.int (nar ty z))) T.heap locs) : Gd p e below (Fin1 s below C S Q) T (mkF m pc Ls (.int z :: st)) := by
  obtain ⟨fs, hr, hrun, hended, hW, hsame⟩ := X.leave (v := some (.int (nar ty z))) (fun q => by rw [hret] at q; cases q) hlk
  exact ⟨_, retN X hx hret hty (hb hby hd.1) hr, _, hrun, hended, _, _, rfl, hQ, ⟨_, rfl⟩, hW, hsame.mono hc hs⟩
theorem g_lreturn (X : Stand p l e R s m args below meth c T locs cells slots) (hx : p.tables.exec = Jvm.exec) (hby : c.code = code) (hret : meth.sig.returnType = some .long) (hlk : meth.locks = false) {z : Int64} {Q : Option Value → Heap → List Loc → Prop} {C S : Nat} (hd : Ins1 code pc .lreturn 1 pn) (hc : cells ≤ C) (hs : slots ≤ S) (hQ : Q (some (.long z)) T.heap locs) : Gd p e below (Fin1 s below C S Q) T (mkF m pc Ls (.long z :: st)) := by
  obtain ⟨fs, hr, hrun, hended, hW, hsame⟩ := X.leave (v := some (.long z)) (fun q => by rw [hret] at q; cases q) hlk
  exact ⟨_, retOut X hx (t := .long) hret rfl (Or.inr (Or.inl ⟨rfl, rfl, z, rfl⟩)) (hb hby hd.1) hr, _, hrun, hended, _, _, rfl, hQ, ⟨_, rfl⟩, hW, hsame.mono hc hs⟩
theorem g_dreturn (X : Stand p l e R s m args below meth c T locs cells slots) (hx : p.tables.exec = Jvm.exec) (hby : c.code = code) (hret : meth.sig.returnType = some .double) (hlk : meth.locks = false) {z : UInt64} {Q : Option Value → Heap → List Loc → Prop} {C S : Nat} (hd : Ins1 code pc .dreturn 1 pn) (hc : cells ≤ C) (hs : slots ≤ S) (hQ : Q (some (.double z)) T.heap locs) : Gd p e below (Fin1 s below C S Q) T (mkF m pc Ls (.double z :: st)) := by
  obtain ⟨fs, hr, hrun, hended, hW, hsame⟩ := X.leave (v := some (.double z)) (fun q => by rw [hret] at q; cases q) hlk
  exact ⟨_, retOut X hx (t := .double) hret rfl (Or.inr (Or.inr (Or.inl ⟨rfl, rfl, z, rfl⟩))) (hb hby hd.1) hr, _, hrun, hended, _, _, rfl, hQ, ⟨_, rfl⟩, hW, hsame.mono hc hs⟩
theorem g_areturn (X : Stand p l e R s m args below meth c T locs cells slots) (hx : p.tables.exec = Jvm.exec) (hby : c.code = code) {ty : FieldType} (hret : meth.sig.returnType = some ty) (hty : ty.isReference = true) (hn : ∀ v, narrow ty v = v) (hlk : meth.locks = false) {z : Value} (hz : z.isRef = true) {Q : Option Value → Heap → List Loc → Prop} {C S : Nat} (hd : Ins1 code pc .areturn 1 pn) (hc : cells ≤ C) (hs : slots ≤ S) (hQ : Q (some z) T.heap locs) : Gd p e below (Fin1 s below C S Q) T (mkF m pc Ls (z :: st)) := by
  obtain ⟨fs, hr, hrun, hended, hW, hsame⟩ := X.leave (v := some z) (fun q => by rw [hret] at q; cases q) hlk
  exact ⟨_, retOut X hx hret (hn z) (Or.inr (Or.inr (Or.inr (Or.inr ⟨rfl, hty, hz⟩)))) (hb hby hd.1) hr, _, hrun, hended, _, _, rfl, hQ, ⟨_, rfl⟩, hW, hsame.mono hc hs⟩
theorem g_return (X : Stand p l e R s m args below meth c T locs cells slots) (hx : p.tables.exec = Jvm.exec) (hby : c.code = code) (hret : meth.sig.returnType = none) (hlk : meth.locks = false) {Q : Option Value → Heap → List Loc → Prop} {C S : Nat} (hd : Ins1 code pc .return_ 1 pn) (hc : cells ≤ C) (hs : slots ≤ S) (hQ : Q none T.heap locs) : Gd p e below (Fin1 s below C S Q) T (mkF m pc Ls []) := by
  obtain ⟨fs, hr, hrun, hended, hW, hsame⟩ := X.leave (v := none) (fun _ => rfl) hlk
  exact ⟨_, X.returnOut hx hret (hb hby hd.1) hr, _, hrun, hended, _, _, rfl, hQ, ⟨_, rfl⟩, hW, hsame.mono hc hs⟩
theorem own_stat {C n d K : String} (hx : (Jvm.Cond.exactly (.static C n d) K).value args Z none Z [] = some true) (w1 : (Jvm.Cond.initialized C).before args Z = true) (w2 : (Jvm.Cond.laysStatic C n d).before args Z = true) : ∃ a, (Term.static C n d).eval args Z none [] Z = some (.ref a) ∧ Sta Z Z.heap C n d (.ref a) ∧ Exa Z Z.heap a K := by
  obtain ⟨a, c', cell, k, e1, -⟩ := Cond.exactly_spec (Cond.before_iff.mpr hx)
  exact ⟨a, e1, Sta.start e1 (Or.inr ⟨w1, w2⟩), Exa.start e1 hx⟩
theorem own_sfld {t : Term} {a : Addr} {C f dd : String} {n : Int32} (ev : t.eval args Z none [] Z = some (.ref a)) (q : (Jvm.Cond.eq (.field t C f dd) (.int n)).value args Z none Z [] = some true) : Fld Z Z.heap a C f dd (.int n) := Fld.start (by rw [← fld_at (C := C) (n := f) (dd := dd) ev]; exact eqv_i (Term.int_eval n) q)
end K
end Jvm.OwnG
namespace Jvm.Pilot.@@N@@
open Jvm Jvm.ClassFile Sem Op Lib Jvm.Free Jvm.Stand Jvm.LawKit Jvm.RoadKit Jvm.OwnG Bundle Jvm.Pilot.@@N@@.Jvm.D
theorem own_pos {v x : Int32} (hv : v = (x &&& (2147483647 : Int32))) (c : ¬ v = (0 : Int32)) : ¬ v < (1 : Int32) := by
  have m := c_mask x 2147483647 31 (by decide) (by decide)
  have e0 : (0 : Int32).toInt = 0 := by decide
  have e1 : (1 : Int32).toInt = 1 := by decide
  rw [← hv] at m
  rw [← Int32.toInt_inj, e0] at c
  rw [Int32.lt_iff_toInt_lt, e1]
  omega
theorem own_nn {v x : Int32} (hv : v = (x &&& (2147483647 : Int32))) : ¬ v < (0 : Int32) := by
  have m := c_mask x 2147483647 31 (by decide) (by decide)
  have e0 : (0 : Int32).toInt = 0 := by decide
  rw [← hv] at m
  rw [Int32.lt_iff_toInt_lt, e0]
  omega
theorem own_posL {v x : Int64} (hv : v = (x &&& (9223372036854775807 : Int64))) (c : ¬ v = (0 : Int64)) : ¬ v < (1 : Int64) := by
  have m := c_maskL x 9223372036854775807 63 (by decide) (by decide)
  have e0 : (0 : Int64).toInt = 0 := by decide
  have e1 : (1 : Int64).toInt = 1 := by decide
  rw [← hv] at m
  rw [← Int64.toInt_inj, e0] at c
  rw [Int64.lt_iff_toInt_lt, e1]
  omega
theorem own_size {v x : Int32} (hv : v = ((x &&& (2147483647 : Int32)) % (2147483640 : Int32))) : ¬ v < (0 : Int32) ∧ ¬ (2147483639 : Int32) < v := by
  have m := c_mask x 2147483647 31 (by decide) (by decide)
  have e0 : (0 : Int32).toInt = 0 := by decide
  have e1 : (2147483639 : Int32).toInt = 2147483639 := by decide
  have r := (c_irem (x &&& 2147483647) 2147483640 2147483640 (by decide)).1 (by omega)
  rw [← hv] at r
  rw [Int32.lt_iff_toInt_lt, Int32.lt_iff_toInt_lt, e0, e1]
  omega
theorem i2_0 : Ins1 jdk_30_method_1_code 0 (.aload_n 0) 1 1 := ⟨by decide +kernel, rfl⟩
theorem i2_1 : Ins1 jdk_30_method_1_code 1 (.invokespecial 1) 3 4 := ⟨by decide +kernel, rfl⟩
theorem i2_4 : Ins1 jdk_30_method_1_code 4 (.return_) 1 5 := ⟨by decide +kernel, rfl⟩
theorem pn_java_lang_Record : plainName "java/lang/Record" = true := by first | (simp [plainName, overriddenIn]; done) | decide +kernel
theorem ef_2 (m : MethodId) (o0 : Addr) : entryFrame m #[(.ref o0)] 1 = mkF m 0 #[.val (.ref o0)] [] := by first | (simp [entryFrame, mkF, argsToLocals, Value.category]; done) | rfl
set_option maxRecDepth 65536 in
set_option maxHeartbeats 40000000 in
theorem rm2 (l : Launch) (Z : State) (a0 : Array Value) (hw : ∀ d ∈ tables_1, d.before a0 Z = true) (ws : List Jvm.Cond) (o0 : Addr)  (h0 : Heap) (n0 : Nat) (Z0 : n0 ≤ h0.size)  :
    Met1 l (⟨"java/lang/Record", "<init>", "()V"⟩ : MethodName) jdk_30_method_1_code 1 none ws ({ frames := 1, cells := 0, slots := 0, locals := 12 } : Room) #[(.ref o0)] Z h0 (RN fun h L => h = h0 ∧ Fr n0 L) := by
  refine met_of (plainFor_of_name pn_java_lang_Record) ?_
  intro p e s m below meth c T0 X0 hx hby hml hZ hown hnm hret hlk e0 es
  have N0 := Fr.nil n0
  refine Gd.cast (ef_2 m o0) ?_
  refine g_aloadN X0 hx hby i2_0 rfl rfl ?_
  refine g_objInit X0 hx hby hZ hown (hw _ (List.mem_of_getElem? (i := 14) rfl)) (hw _ (List.mem_of_getElem? (i := 15) rfl)) (hw _ (List.mem_of_getElem? (i := 16) rfl)) e0 (by rw [hml]; rfl) i2_1 0 rfl (by decide) (by decide) fun T1 X1 e1 => ?_
  refine g_return X1 hx hby hret hlk i2_4 (by decide) (by decide) ?_
  exact ⟨rfl, e1, N0⟩
theorem i1_0 : Ins1 prog_8_method_1_code 0 (.aload_n 0) 1 1 := ⟨by decide +kernel, rfl⟩
theorem i1_1 : Ins1 prog_8_method_1_code 1 (.invokespecial 1) 3 4 := ⟨by decide +kernel, rfl⟩
theorem i1_4 : Ins1 prog_8_method_1_code 4 (.iload_n 1) 1 5 := ⟨by decide +kernel, rfl⟩
theorem i1_5 : Ins1 prog_8_method_1_code 5 (.iconst 1) 1 6 := ⟨by decide +kernel, rfl⟩
theorem i1_6 : InsB prog_8_method_1_code 6 (.if_icmp .ge 17) 17 9 23 := ⟨by decide +kernel, rfl, by decide, by decide⟩
theorem i1_9 : Ins1 prog_8_method_1_code 9 (.new 7) 3 12 := ⟨by decide +kernel, rfl⟩
theorem i1_12 : Ins1 prog_8_method_1_code 12 (.dup) 1 13 := ⟨by decide +kernel, rfl⟩
theorem i1_13 : Ins1 prog_8_method_1_code 13 (.iload_n 1) 1 14 := ⟨by decide +kernel, rfl⟩
theorem i1_19 : Ins1 prog_8_method_1_code 19 (.invokespecial 13) 3 22 := ⟨by decide +kernel, rfl⟩
theorem i1_22 : Ins1 prog_8_method_1_code 22 (.athrow) 1 23 := ⟨by decide +kernel, rfl⟩
theorem i1_23 : Ins1 prog_8_method_1_code 23 (.iload_n 2) 1 24 := ⟨by decide +kernel, rfl⟩
theorem i1_24 : InsB prog_8_method_1_code 24 (.ifCond .lt 9) 9 27 33 := ⟨by decide +kernel, rfl, by decide, by decide⟩
theorem i1_27 : Ins1 prog_8_method_1_code 27 (.iload_n 2) 1 28 := ⟨by decide +kernel, rfl⟩
theorem i1_28 : Ins1 prog_8_method_1_code 28 (.ldc 18) 2 30 := ⟨by decide +kernel, rfl⟩
theorem i1_30 : InsB prog_8_method_1_code 30 (.if_icmp .le 17) 17 33 47 := ⟨by decide +kernel, rfl, by decide, by decide⟩
theorem i1_33 : Ins1 prog_8_method_1_code 33 (.new 7) 3 36 := ⟨by decide +kernel, rfl⟩
theorem i1_36 : Ins1 prog_8_method_1_code 36 (.dup) 1 37 := ⟨by decide +kernel, rfl⟩
theorem i1_37 : Ins1 prog_8_method_1_code 37 (.iload_n 2) 1 38 := ⟨by decide +kernel, rfl⟩
theorem i1_43 : Ins1 prog_8_method_1_code 43 (.invokespecial 13) 3 46 := ⟨by decide +kernel, rfl⟩
theorem i1_46 : Ins1 prog_8_method_1_code 46 (.athrow) 1 47 := ⟨by decide +kernel, rfl⟩
theorem i1_47 : Ins1 prog_8_method_1_code 47 (.iload_n 3) 1 48 := ⟨by decide +kernel, rfl⟩
theorem i1_48 : InsB prog_8_method_1_code 48 (.ifCond .ge 17) 17 51 65 := ⟨by decide +kernel, rfl, by decide, by decide⟩
theorem i1_51 : Ins1 prog_8_method_1_code 51 (.new 7) 3 54 := ⟨by decide +kernel, rfl⟩
theorem i1_54 : Ins1 prog_8_method_1_code 54 (.dup) 1 55 := ⟨by decide +kernel, rfl⟩
theorem i1_55 : Ins1 prog_8_method_1_code 55 (.iload_n 3) 1 56 := ⟨by decide +kernel, rfl⟩
theorem i1_61 : Ins1 prog_8_method_1_code 61 (.invokespecial 13) 3 64 := ⟨by decide +kernel, rfl⟩
theorem i1_64 : Ins1 prog_8_method_1_code 64 (.athrow) 1 65 := ⟨by decide +kernel, rfl⟩
theorem i1_65 : Ins1 prog_8_method_1_code 65 (.lload 4) 2 67 := ⟨by decide +kernel, rfl⟩
theorem i1_67 : Ins1 prog_8_method_1_code 67 (.lconst 1) 1 68 := ⟨by decide +kernel, rfl⟩
theorem i1_68 : Ins1 prog_8_method_1_code 68 (.lcmp) 1 69 := ⟨by decide +kernel, rfl⟩
theorem i1_69 : InsB prog_8_method_1_code 69 (.ifCond .ge 18) 18 72 87 := ⟨by decide +kernel, rfl, by decide, by decide⟩
theorem i1_72 : Ins1 prog_8_method_1_code 72 (.new 7) 3 75 := ⟨by decide +kernel, rfl⟩
theorem i1_75 : Ins1 prog_8_method_1_code 75 (.dup) 1 76 := ⟨by decide +kernel, rfl⟩
theorem i1_76 : Ins1 prog_8_method_1_code 76 (.lload 4) 2 78 := ⟨by decide +kernel, rfl⟩
theorem i1_83 : Ins1 prog_8_method_1_code 83 (.invokespecial 13) 3 86 := ⟨by decide +kernel, rfl⟩
theorem i1_86 : Ins1 prog_8_method_1_code 86 (.athrow) 1 87 := ⟨by decide +kernel, rfl⟩
theorem i1_87 : Ins1 prog_8_method_1_code 87 (.aload_n 0) 1 88 := ⟨by decide +kernel, rfl⟩
theorem i1_88 : Ins1 prog_8_method_1_code 88 (.iload_n 1) 1 89 := ⟨by decide +kernel, rfl⟩
theorem i1_89 : Ins1 prog_8_method_1_code 89 (.putfield 24) 3 92 := ⟨by decide +kernel, rfl⟩
theorem i1_92 : Ins1 prog_8_method_1_code 92 (.aload_n 0) 1 93 := ⟨by decide +kernel, rfl⟩
theorem i1_93 : Ins1 prog_8_method_1_code 93 (.iload_n 2) 1 94 := ⟨by decide +kernel, rfl⟩
theorem i1_94 : Ins1 prog_8_method_1_code 94 (.putfield 30) 3 97 := ⟨by decide +kernel, rfl⟩
theorem i1_97 : Ins1 prog_8_method_1_code 97 (.aload_n 0) 1 98 := ⟨by decide +kernel, rfl⟩
theorem i1_98 : Ins1 prog_8_method_1_code 98 (.iload_n 3) 1 99 := ⟨by decide +kernel, rfl⟩
theorem i1_99 : Ins1 prog_8_method_1_code 99 (.putfield 33) 3 102 := ⟨by decide +kernel, rfl⟩
theorem i1_102 : Ins1 prog_8_method_1_code 102 (.aload_n 0) 1 103 := ⟨by decide +kernel, rfl⟩
theorem i1_103 : Ins1 prog_8_method_1_code 103 (.lload 4) 2 105 := ⟨by decide +kernel, rfl⟩
theorem i1_105 : Ins1 prog_8_method_1_code 105 (.putfield 36) 3 108 := ⟨by decide +kernel, rfl⟩
theorem i1_108 : Ins1 prog_8_method_1_code 108 (.return_) 1 109 := ⟨by decide +kernel, rfl⟩
theorem pn_com_example_plantain_plantain_codec_Limits : plainName "com/example/plantain/plantain/codec/Limits" = true := by first | (simp [plainName, overriddenIn]; done) | decide +kernel
theorem ef_1 (m : MethodId) (a0' : Addr) (p1 : Int32) (p2 : Int32) (p3 : Int32) (q4 : Int64) : entryFrame m #[(.ref a0'), (.int p1), (.int p2), (.int p3), (.long q4)] 6 = mkF m 0 #[.val (.ref a0'), .val (.int p1), .val (.int p2), .val (.int p3), .val (.long q4), .second] [] := by first | (simp [entryFrame, mkF, argsToLocals, Value.category]; done) | rfl
theorem pd_0 : parseMethodDescriptor "()V" = some ⟨[], none⟩ := by decide +kernel
set_option maxRecDepth 65536 in
set_option maxHeartbeats 40000000 in
theorem rm1 (l : Launch) (Z : State) (a0 : Array Value) (hw : ∀ d ∈ tables_1, d.before a0 Z = true) (ws : List Jvm.Cond) (a0' : Addr) (p1 : Int32) (p2 : Int32) (p3 : Int32) (q4 : Int64)  (h0 : Heap) (n0 : Nat) (Z0 : n0 ≤ h0.size) (E_a : Exa Z h0 a0' "com/example/plantain/plantain/codec/Limits") (F_maxLengthBytes : Fld Z h0 a0' "com/example/plantain/plantain/codec/Limits" "maxLengthBytes" "I" (.int (0 : Int32))) (F_maxSize : Fld Z h0 a0' "com/example/plantain/plantain/codec/Limits" "maxSize" "I" (.int (0 : Int32))) (F_maxDepth : Fld Z h0 a0' "com/example/plantain/plantain/codec/Limits" "maxDepth" "I" (.int (0 : Int32))) (F_maxElementBytes : Fld Z h0 a0' "com/example/plantain/plantain/codec/Limits" "maxElementBytes" "J" (.long (0 : Int64))) (g_a0' : n0 ≤ a0') (bb1 : ¬ p1 < (1 : Int32)) (bb2 : ¬ p2 < (0 : Int32)) (bb2' : ¬ (2147483639 : Int32) < p2) (bb3 : ¬ p3 < (0 : Int32)) (bb4 : ¬ q4 < (1 : Int64)) :
    Met1 l (⟨"com/example/plantain/plantain/codec/Limits", "<init>", "(IIIJ)V"⟩ : MethodName) prog_8_method_1_code 6 none ws ({ frames := 2, cells := 0, slots := 0, locals := 24 } : Room) #[(.ref a0'), (.int p1), (.int p2), (.int p3), (.long q4)] Z h0 (RN fun h L => Keep h0 h [a0'] ∧ Exa Z h a0' "com/example/plantain/plantain/codec/Limits" ∧ Fld Z h a0' "com/example/plantain/plantain/codec/Limits" "maxLengthBytes" "I" (.int p1) ∧ Fld Z h a0' "com/example/plantain/plantain/codec/Limits" "maxSize" "I" (.int p2) ∧ Fld Z h a0' "com/example/plantain/plantain/codec/Limits" "maxDepth" "I" (.int p3) ∧ Fld Z h a0' "com/example/plantain/plantain/codec/Limits" "maxElementBytes" "J" (.long q4) ∧ Fr n0 L) := by
  refine met_of (plainFor_of_name pn_com_example_plantain_plantain_codec_Limits) ?_
  intro p e s m below meth c T0 X0 hx hby hml hZ hown hnm hret hlk e0 es
  have N0 := Fr.nil n0
  refine Gd.cast (ef_1 m a0' p1 p2 p3 q4) ?_
  have K0 : Keep h0 h0 [a0'] := Keep.refl _ _
  refine g_aloadN X0 hx hby i1_0 rfl rfl ?_
  refine g_callInit0 X0 hx hby hZ (y := (⟨"java/lang/Record", "<init>", "()V"⟩ : MethodName)) (argsL := []) (rest := []) rfl hown (hw _ (List.mem_of_getElem? (i := 9) rfl)) (hw _ (List.mem_of_getElem? (i := 10) rfl)) (hw _ (List.mem_of_getElem? (i := 12) rfl)) (hw _ (List.mem_of_getElem? (i := 13) rfl)) (by decide) (a := a0') (rm2 l Z a0 hw [] a0' h0 n0 Z0) e0 (by rw [hml]; rfl) pd_0 rfl rfl i1_1 (by decide) 0 rfl (by decide) (by decide) (by decide) fun T1 v1 L1 X1 q1 => ?_
  obtain ⟨rfl, e1, N1⟩ := q1
  have N0 := Fr.app N0 N1
  show Gd p e below _ T1 (mkF m 4 #[.val (.ref a0'), .val (.int p1), .val (.int p2), .val (.int p3), .val (.long q4), .second] [])
  refine g_iloadN X1 hx hby i1_4 rfl ?_
  refine g_iconst X1 hx hby i1_5 (z := (1 : Int32)) (by decide) ?_
  refine g_icmp_ge X1 hx hby i1_6 (fun c6_2 => ?_) (fun c6_2 => False.elim (bb1 c6_2))
  refine g_iloadN X1 hx hby i1_23 rfl ?_
  refine g_if_lt X1 hx hby i1_24 (fun c24_3 => False.elim (bb2 c24_3)) fun c24_3 => ?_
  refine g_iloadN X1 hx hby i1_27 rfl ?_
  refine g_ldcInt X1 hx hby hZ hown (hw _ (List.mem_of_getElem? (i := 17) rfl)) i1_28 ?_
  refine g_icmp_le X1 hx hby i1_30 (fun c30_4 => ?_) (fun c30_4 => False.elim (bb2' c30_4))
  refine g_iloadN X1 hx hby i1_47 rfl ?_
  refine g_if_ge X1 hx hby i1_48 (fun c48_5 => ?_) (fun c48_5 => False.elim (bb3 c48_5))
  refine g_lload X1 hx hby i1_65 rfl ?_
  refine g_lconst X1 hx hby i1_67 (z := (1 : Int64)) (by decide) ?_
  refine g_lcmp_ge X1 hx hby i1_68 i1_69 (fun c68_6 => ?_) (fun c68_6 => False.elim (bb4 c68_6))
  refine g_aloadN X1 hx hby i1_87 rfl rfl ?_
  refine g_iloadN X1 hx hby i1_88 rfl ?_
  refine g_putfield X1 hx hby hZ hown (host := "") (Or.inl (hw _ (List.mem_of_getElem? (i := 18) rfl))) Via.refl e1 F_maxLengthBytes E_a (Or.inr ⟨(hw _ (List.mem_of_getElem? (i := 19) rfl)), rfl, hnm⟩) (hw _ (List.mem_of_getElem? (i := 4) rfl)) (ty := .int) (by decide) rfl rfl i1_89 fun T7 h7 X7 e7 W7 => ?_
  have F_maxLengthBytes := F_maxLengthBytes.same W7
  have E_a := E_a.wr W7
  have F_maxSize := F_maxSize.other W7 (Or.inr (slot_ne (Or.inr (hw _ (List.mem_of_getElem? (i := 21) rfl))) (Or.inr (hw _ (List.mem_of_getElem? (i := 19) rfl))) (by decide) (t := .int) (t' := .int) (by decide) (by decide)))
  have F_maxDepth := F_maxDepth.other W7 (Or.inr (slot_ne (Or.inr (hw _ (List.mem_of_getElem? (i := 23) rfl))) (Or.inr (hw _ (List.mem_of_getElem? (i := 19) rfl))) (by decide) (t := .int) (t' := .int) (by decide) (by decide)))
  have F_maxElementBytes := F_maxElementBytes.other W7 (Or.inr (slot_ne (Or.inr (hw _ (List.mem_of_getElem? (i := 25) rfl))) (Or.inr (hw _ (List.mem_of_getElem? (i := 19) rfl))) (by decide) (t := .long) (t' := .int) (by decide) (by decide)))
  have Z0 : n0 ≤ h7.size := Nat.le_trans Z0 (Nat.le_of_eq W7.size.symm)
  have N0 := Fr.snoc X7 N0 g_a0'
  have K0 := K0.wr W7 (Or.inl (List.mem_singleton.mpr rfl))
  refine g_aloadN X7 hx hby i1_92 rfl rfl ?_
  refine g_iloadN X7 hx hby i1_93 rfl ?_
  refine g_putfield X7 hx hby hZ hown (host := "") (Or.inl (hw _ (List.mem_of_getElem? (i := 20) rfl))) Via.refl e7 F_maxSize E_a (Or.inr ⟨(hw _ (List.mem_of_getElem? (i := 21) rfl)), rfl, hnm⟩) (hw _ (List.mem_of_getElem? (i := 4) rfl)) (ty := .int) (by decide) rfl rfl i1_94 fun T8 h8 X8 e8 W8 => ?_
  have F_maxSize := F_maxSize.same W8
  have E_a := E_a.wr W8
  have F_maxLengthBytes := F_maxLengthBytes.other W8 (Or.inr (slot_ne (Or.inr (hw _ (List.mem_of_getElem? (i := 19) rfl))) (Or.inr (hw _ (List.mem_of_getElem? (i := 21) rfl))) (by decide) (t := .int) (t' := .int) (by decide) (by decide)))
  have F_maxDepth := F_maxDepth.other W8 (Or.inr (slot_ne (Or.inr (hw _ (List.mem_of_getElem? (i := 23) rfl))) (Or.inr (hw _ (List.mem_of_getElem? (i := 21) rfl))) (by decide) (t := .int) (t' := .int) (by decide) (by decide)))
  have F_maxElementBytes := F_maxElementBytes.other W8 (Or.inr (slot_ne (Or.inr (hw _ (List.mem_of_getElem? (i := 25) rfl))) (Or.inr (hw _ (List.mem_of_getElem? (i := 21) rfl))) (by decide) (t := .long) (t' := .int) (by decide) (by decide)))
  have Z0 : n0 ≤ h8.size := Nat.le_trans Z0 (Nat.le_of_eq W8.size.symm)
  have N0 := Fr.snoc X8 N0 g_a0'
  have K0 := K0.wr W8 (Or.inl (List.mem_singleton.mpr rfl))
  refine g_aloadN X8 hx hby i1_97 rfl rfl ?_
  refine g_iloadN X8 hx hby i1_98 rfl ?_
  refine g_putfield X8 hx hby hZ hown (host := "") (Or.inl (hw _ (List.mem_of_getElem? (i := 22) rfl))) Via.refl e8 F_maxDepth E_a (Or.inr ⟨(hw _ (List.mem_of_getElem? (i := 23) rfl)), rfl, hnm⟩) (hw _ (List.mem_of_getElem? (i := 4) rfl)) (ty := .int) (by decide) rfl rfl i1_99 fun T9 h9 X9 e9 W9 => ?_
  have F_maxDepth := F_maxDepth.same W9
  have E_a := E_a.wr W9
  have F_maxLengthBytes := F_maxLengthBytes.other W9 (Or.inr (slot_ne (Or.inr (hw _ (List.mem_of_getElem? (i := 19) rfl))) (Or.inr (hw _ (List.mem_of_getElem? (i := 23) rfl))) (by decide) (t := .int) (t' := .int) (by decide) (by decide)))
  have F_maxSize := F_maxSize.other W9 (Or.inr (slot_ne (Or.inr (hw _ (List.mem_of_getElem? (i := 21) rfl))) (Or.inr (hw _ (List.mem_of_getElem? (i := 23) rfl))) (by decide) (t := .int) (t' := .int) (by decide) (by decide)))
  have F_maxElementBytes := F_maxElementBytes.other W9 (Or.inr (slot_ne (Or.inr (hw _ (List.mem_of_getElem? (i := 25) rfl))) (Or.inr (hw _ (List.mem_of_getElem? (i := 23) rfl))) (by decide) (t := .long) (t' := .int) (by decide) (by decide)))
  have Z0 : n0 ≤ h9.size := Nat.le_trans Z0 (Nat.le_of_eq W9.size.symm)
  have N0 := Fr.snoc X9 N0 g_a0'
  have K0 := K0.wr W9 (Or.inl (List.mem_singleton.mpr rfl))
  refine g_aloadN X9 hx hby i1_102 rfl rfl ?_
  refine g_lload X9 hx hby i1_103 rfl ?_
  refine g_putfield X9 hx hby hZ hown (host := "") (Or.inl (hw _ (List.mem_of_getElem? (i := 24) rfl))) Via.refl e9 F_maxElementBytes E_a (Or.inr ⟨(hw _ (List.mem_of_getElem? (i := 25) rfl)), rfl, hnm⟩) (hw _ (List.mem_of_getElem? (i := 4) rfl)) (ty := .long) (by decide) rfl rfl i1_105 fun T10 h10 X10 e10 W10 => ?_
  have F_maxElementBytes := F_maxElementBytes.same W10
  have E_a := E_a.wr W10
  have F_maxLengthBytes := F_maxLengthBytes.other W10 (Or.inr (slot_ne (Or.inr (hw _ (List.mem_of_getElem? (i := 19) rfl))) (Or.inr (hw _ (List.mem_of_getElem? (i := 25) rfl))) (by decide) (t := .int) (t' := .long) (by decide) (by decide)))
  have F_maxSize := F_maxSize.other W10 (Or.inr (slot_ne (Or.inr (hw _ (List.mem_of_getElem? (i := 21) rfl))) (Or.inr (hw _ (List.mem_of_getElem? (i := 25) rfl))) (by decide) (t := .int) (t' := .long) (by decide) (by decide)))
  have F_maxDepth := F_maxDepth.other W10 (Or.inr (slot_ne (Or.inr (hw _ (List.mem_of_getElem? (i := 23) rfl))) (Or.inr (hw _ (List.mem_of_getElem? (i := 25) rfl))) (by decide) (t := .int) (t' := .long) (by decide) (by decide)))
  have Z0 : n0 ≤ h10.size := Nat.le_trans Z0 (Nat.le_of_eq W10.size.symm)
  have N0 := Fr.snoc X10 N0 g_a0'
  have K0 := K0.wr W10 (Or.inl (List.mem_singleton.mpr rfl))
  refine g_return X10 hx hby hret hlk i1_108 (by decide) (by decide) ?_
  rw [e10]
  exact ⟨rfl, K0, E_a, F_maxLengthBytes, F_maxSize, F_maxDepth, F_maxElementBytes, N0⟩
theorem i4_0 : Ins1 prog_8_method_4_code 0 (.new 25) 3 3 := ⟨by decide +kernel, rfl⟩
theorem i4_3 : Ins1 prog_8_method_4_code 3 (.dup) 1 4 := ⟨by decide +kernel, rfl⟩
theorem i4_4 : Ins1 prog_8_method_4_code 4 (.aload_n 0) 1 5 := ⟨by decide +kernel, rfl⟩
theorem i4_5 : Ins1 prog_8_method_4_code 5 (.getfield 24) 3 8 := ⟨by decide +kernel, rfl⟩
theorem i4_8 : Ins1 prog_8_method_4_code 8 (.aload_n 0) 1 9 := ⟨by decide +kernel, rfl⟩
theorem i4_9 : Ins1 prog_8_method_4_code 9 (.getfield 30) 3 12 := ⟨by decide +kernel, rfl⟩
theorem i4_12 : Ins1 prog_8_method_4_code 12 (.iload_n 1) 1 13 := ⟨by decide +kernel, rfl⟩
theorem i4_13 : Ins1 prog_8_method_4_code 13 (.aload_n 0) 1 14 := ⟨by decide +kernel, rfl⟩
theorem i4_14 : Ins1 prog_8_method_4_code 14 (.getfield 36) 3 17 := ⟨by decide +kernel, rfl⟩
theorem i4_17 : Ins1 prog_8_method_4_code 17 (.invokespecial 40) 3 20 := ⟨by decide +kernel, rfl⟩
theorem i4_20 : Ins1 prog_8_method_4_code 20 (.areturn) 1 21 := ⟨by decide +kernel, rfl⟩
theorem ef_4 (m : MethodId) (a0' : Addr) (p1 : Int32) : entryFrame m #[(.ref a0'), (.int p1)] 2 = mkF m 0 #[.val (.ref a0'), .val (.int p1)] [] := by first | (simp [entryFrame, mkF, argsToLocals, Value.category]; done) | rfl
theorem pd_1 : parseMethodDescriptor "(IIIJ)V" = some ⟨[.int, .int, .int, .long], none⟩ := by decide +kernel
set_option maxRecDepth 65536 in
set_option maxHeartbeats 40000000 in
theorem rm4 (l : Launch) (Z : State) (a0 : Array Value) (hw : ∀ d ∈ tables_1, d.before a0 Z = true) (ws : List Jvm.Cond) (a0' : Addr) (p1 : Int32) (w1 w2 : Int32) (w4 : Int64) (h0 : Heap) (n0 : Nat) (Z0 : n0 ≤ h0.size) (F_1 : Fld Z h0 a0' "com/example/plantain/plantain/codec/Limits" "maxLengthBytes" "I" (.int w1)) (F_2 : Fld Z h0 a0' "com/example/plantain/plantain/codec/Limits" "maxSize" "I" (.int w2)) (F_4 : Fld Z h0 a0' "com/example/plantain/plantain/codec/Limits" "maxElementBytes" "J" (.long w4)) (bb1 : ¬ w1 < (1 : Int32)) (bb2 : ¬ w2 < (0 : Int32)) (bb2' : ¬ (2147483639 : Int32) < w2) (bb3 : ¬ p1 < (0 : Int32)) (bb4 : ¬ w4 < (1 : Int64)) :
    Met1 l (⟨"com/example/plantain/plantain/codec/Limits", "withMaxDepth", "(I)Lcom/example/plantain/plantain/codec/Limits;"⟩ : MethodName) prog_8_method_4_code 2 (some (.object "com/example/plantain/plantain/codec/Limits")) ws ({ frames := 3, cells := 1, slots := 4, locals := 42 } : Room) #[(.ref a0'), (.int p1)] Z h0 (RV fun z h L => ∃ b, z = .ref b ∧ Keep h0 h [] ∧ Exa Z h b "com/example/plantain/plantain/codec/Limits" ∧ Fld Z h b "com/example/plantain/plantain/codec/Limits" "maxLengthBytes" "I" (.int w1) ∧ Fld Z h b "com/example/plantain/plantain/codec/Limits" "maxSize" "I" (.int w2) ∧ Fld Z h b "com/example/plantain/plantain/codec/Limits" "maxDepth" "I" (.int p1) ∧ Fld Z h b "com/example/plantain/plantain/codec/Limits" "maxElementBytes" "J" (.long w4) ∧ n0 ≤ b ∧ h0.size ≤ b ∧ Fr n0 L) := by
  refine met_of (plainFor_of_name pn_com_example_plantain_plantain_codec_Limits) ?_
  intro p e s m below meth c T0 X0 hx hby hml hZ hown hnm hret hlk e0 es
  have N0 := Fr.nil n0
  refine Gd.cast (ef_4 m a0' p1) ?_
  have K0 : Keep h0 h0 [] := Keep.refl _ _
  refine g_new X0 hx hby hZ hown (hw _ (List.mem_of_getElem? (i := 31) rfl)) (hw _ (List.mem_of_getElem? (i := 4) rfl)) (hw _ (List.mem_of_getElem? (i := 5) rfl)) e0 i4_0 (by decide) (by decide) fun T1 h1 b1 X1 e1 E1 hb1 A1 D1 => ?_
  have ne_a0'_b1 : a0' ≠ b1 := Nat.ne_of_lt (Nat.lt_of_lt_of_le F_1.lt (Nat.le_of_eq hb1.symm))
  have g_b1 : n0 ≤ b1 := Nat.le_trans Z0 (Nat.le_of_eq hb1.symm)
  have F_1 := F_1.ext E1
  have F_2 := F_2.ext E1
  have F_4 := F_4.ext E1
  have sz_b1 : h0.size ≤ b1 := Nat.le_trans K0.1 (Nat.le_of_eq hb1.symm)
  have K0 := K0.ext E1
  have Z0 : n0 ≤ h1.size := Nat.le_trans Z0 E1.1
  have F1_maxLengthBytes : Fld Z h1 b1 "com/example/plantain/plantain/codec/Limits" "maxLengthBytes" "I" (.int (0 : Int32)) := D1 (Or.inr (hw _ (List.mem_of_getElem? (i := 19) rfl))) (ty := .int) (by decide)
  have F1_maxSize : Fld Z h1 b1 "com/example/plantain/plantain/codec/Limits" "maxSize" "I" (.int (0 : Int32)) := D1 (Or.inr (hw _ (List.mem_of_getElem? (i := 21) rfl))) (ty := .int) (by decide)
  have F1_maxDepth : Fld Z h1 b1 "com/example/plantain/plantain/codec/Limits" "maxDepth" "I" (.int (0 : Int32)) := D1 (Or.inr (hw _ (List.mem_of_getElem? (i := 23) rfl))) (ty := .int) (by decide)
  have F1_maxElementBytes : Fld Z h1 b1 "com/example/plantain/plantain/codec/Limits" "maxElementBytes" "J" (.long (0 : Int64)) := D1 (Or.inr (hw _ (List.mem_of_getElem? (i := 25) rfl))) (ty := .long) (by decide)
  refine g_dup X1 hx hby i4_3 rfl ?_
  refine g_aloadN X1 hx hby i4_4 rfl rfl ?_
  refine g_getfield X1 hx hby hZ hown (host := "") (Or.inl (hw _ (List.mem_of_getElem? (i := 18) rfl))) Via.refl e1 F_1 i4_5 fun T2 X2 e2 => ?_
  refine g_aloadN X2 hx hby i4_8 rfl rfl ?_
  refine g_getfield X2 hx hby hZ hown (host := "") (Or.inl (hw _ (List.mem_of_getElem? (i := 20) rfl))) Via.refl e2 F_2 i4_9 fun T3 X3 e3 => ?_
  refine g_iloadN X3 hx hby i4_12 rfl ?_
  refine g_aloadN X3 hx hby i4_13 rfl rfl ?_
  refine g_getfield X3 hx hby hZ hown (host := "") (Or.inl (hw _ (List.mem_of_getElem? (i := 24) rfl))) Via.refl e3 F_4 i4_14 fun T4 X4 e4 => ?_
  refine g_callInit0 X4 hx hby hZ (y := (⟨"com/example/plantain/plantain/codec/Limits", "<init>", "(IIIJ)V"⟩ : MethodName)) (argsL := [(.int w1), (.int w2), (.int p1), (.long w4)]) (rest := [(.ref b1)]) rfl hown (hw _ (List.mem_of_getElem? (i := 32) rfl)) (hw _ (List.mem_of_getElem? (i := 7) rfl)) (hw _ (List.mem_of_getElem? (i := 5) rfl)) (hw _ (List.mem_of_getElem? (i := 8) rfl)) (by decide) (a := b1) (rm1 l Z a0 hw [] b1 w1 w2 p1 w4 h1 n0 Z0 A1 F1_maxLengthBytes F1_maxSize F1_maxDepth F1_maxElementBytes g_b1 bb1 bb2 bb2' bb3 bb4) e4 (by rw [hml]; rfl) pd_1 rfl rfl i4_17 (by decide) 1 rfl (by decide) (by decide) (by decide) fun T5 v5 L5 X5 q5 => ?_
  obtain ⟨rfl, K5, E5, F5_maxLengthBytes, F5_maxSize, F5_maxDepth, F5_maxElementBytes, N5⟩ := q5
  have N0 := Fr.app N0 N5
  have K0 := K0.trans K5 (fun x hx => Or.inr (by cases hx with | head => exact sz_b1 | tail _ q => cases q))
  have F_1 := F_1.keep K5 (ninS ne_a0'_b1 nin0)
  have F_2 := F_2.keep K5 (ninS ne_a0'_b1 nin0)
  have F_4 := F_4.keep K5 (ninS ne_a0'_b1 nin0)
  have A1 := A1.keep K5
  have Z0 : n0 ≤ T5.heap.size := Nat.le_trans Z0 K5.1
  show Gd p e below _ T5 (mkF m 20 #[.val (.ref a0'), .val (.int p1)] [(.ref b1)])
  refine g_areturn X5 hx hby hret rfl (fun _ => rfl) hlk rfl i4_20 (by decide) (by decide) ?_
  exact ⟨_, rfl, b1, rfl, K0, A1, F5_maxLengthBytes, F5_maxSize, F5_maxDepth, F5_maxElementBytes, g_b1, sz_b1, N0⟩
theorem i5_0 : Ins1 prog_8_method_11_code 0 (.aload_n 0) 1 1 := ⟨by decide +kernel, rfl⟩
theorem i5_1 : Ins1 prog_8_method_11_code 1 (.getfield 33) 3 4 := ⟨by decide +kernel, rfl⟩
theorem i5_4 : Ins1 prog_8_method_11_code 4 (.ireturn) 1 5 := ⟨by decide +kernel, rfl⟩
theorem ef_5 (m : MethodId) (a0' : Addr) : entryFrame m #[(.ref a0')] 1 = mkF m 0 #[.val (.ref a0')] [] := by first | (simp [entryFrame, mkF, argsToLocals, Value.category]; done) | rfl
set_option maxRecDepth 65536 in
set_option maxHeartbeats 40000000 in
theorem rm5 (l : Launch) (Z : State) (a0 : Array Value) (hw : ∀ d ∈ tables_1, d.before a0 Z = true) (ws : List Jvm.Cond) (a0' : Addr) (w : Int32) (h0 : Heap) (n0 : Nat) (Z0 : n0 ≤ h0.size) (F : Fld Z h0 a0' "com/example/plantain/plantain/codec/Limits" "maxDepth" "I" (.int w)) :
    Met1 l (⟨"com/example/plantain/plantain/codec/Limits", "maxDepth", "()I"⟩ : MethodName) prog_8_method_11_code 1 (some .int) ws ({ frames := 0, cells := 0, slots := 0, locals := 0 } : Room) #[(.ref a0')] Z h0 (RV fun z h L => z = (.int w) ∧ h = h0 ∧ Fr n0 L) := by
  refine met_of (plainFor_of_name pn_com_example_plantain_plantain_codec_Limits) ?_
  intro p e s m below meth c T0 X0 hx hby hml hZ hown hnm hret hlk e0 es
  have N0 := Fr.nil n0
  refine Gd.cast (ef_5 m a0') ?_
  refine g_aloadN X0 hx hby i5_0 rfl rfl ?_
  refine g_getfield X0 hx hby hZ hown (host := "") (Or.inl (hw _ (List.mem_of_getElem? (i := 22) rfl))) Via.refl e0 F i5_1 fun T1 X1 e1 => ?_
  refine g_ireturn X1 hx hby hret hlk i5_4 (by decide) (by decide) ?_
  exact ⟨_, rfl, rfl, e1, N0⟩
theorem i6_0 : Ins1 prog_8_method_9_code 0 (.aload_n 0) 1 1 := ⟨by decide +kernel, rfl⟩
theorem i6_1 : Ins1 prog_8_method_9_code 1 (.getfield 24) 3 4 := ⟨by decide +kernel, rfl⟩
theorem i6_4 : Ins1 prog_8_method_9_code 4 (.ireturn) 1 5 := ⟨by decide +kernel, rfl⟩
theorem ef_6 (m : MethodId) (a0' : Addr) : entryFrame m #[(.ref a0')] 1 = mkF m 0 #[.val (.ref a0')] [] := by first | (simp [entryFrame, mkF, argsToLocals, Value.category]; done) | rfl
set_option maxRecDepth 65536 in
set_option maxHeartbeats 40000000 in
theorem rm6 (l : Launch) (Z : State) (a0 : Array Value) (hw : ∀ d ∈ tables_1, d.before a0 Z = true) (ws : List Jvm.Cond) (a0' : Addr) (w : Int32) (h0 : Heap) (n0 : Nat) (Z0 : n0 ≤ h0.size) (F : Fld Z h0 a0' "com/example/plantain/plantain/codec/Limits" "maxLengthBytes" "I" (.int w)) :
    Met1 l (⟨"com/example/plantain/plantain/codec/Limits", "maxLengthBytes", "()I"⟩ : MethodName) prog_8_method_9_code 1 (some .int) ws ({ frames := 0, cells := 0, slots := 0, locals := 0 } : Room) #[(.ref a0')] Z h0 (RV fun z h L => z = (.int w) ∧ h = h0 ∧ Fr n0 L) := by
  refine met_of (plainFor_of_name pn_com_example_plantain_plantain_codec_Limits) ?_
  intro p e s m below meth c T0 X0 hx hby hml hZ hown hnm hret hlk e0 es
  have N0 := Fr.nil n0
  refine Gd.cast (ef_6 m a0') ?_
  refine g_aloadN X0 hx hby i6_0 rfl rfl ?_
  refine g_getfield X0 hx hby hZ hown (host := "") (Or.inl (hw _ (List.mem_of_getElem? (i := 18) rfl))) Via.refl e0 F i6_1 fun T1 X1 e1 => ?_
  refine g_ireturn X1 hx hby hret hlk i6_4 (by decide) (by decide) ?_
  exact ⟨_, rfl, rfl, e1, N0⟩
theorem i7_0 : Ins1 prog_8_method_10_code 0 (.aload_n 0) 1 1 := ⟨by decide +kernel, rfl⟩
theorem i7_1 : Ins1 prog_8_method_10_code 1 (.getfield 30) 3 4 := ⟨by decide +kernel, rfl⟩
theorem i7_4 : Ins1 prog_8_method_10_code 4 (.ireturn) 1 5 := ⟨by decide +kernel, rfl⟩
theorem ef_7 (m : MethodId) (a0' : Addr) : entryFrame m #[(.ref a0')] 1 = mkF m 0 #[.val (.ref a0')] [] := by first | (simp [entryFrame, mkF, argsToLocals, Value.category]; done) | rfl
set_option maxRecDepth 65536 in
set_option maxHeartbeats 40000000 in
theorem rm7 (l : Launch) (Z : State) (a0 : Array Value) (hw : ∀ d ∈ tables_1, d.before a0 Z = true) (ws : List Jvm.Cond) (a0' : Addr) (w : Int32) (h0 : Heap) (n0 : Nat) (Z0 : n0 ≤ h0.size) (F : Fld Z h0 a0' "com/example/plantain/plantain/codec/Limits" "maxSize" "I" (.int w)) :
    Met1 l (⟨"com/example/plantain/plantain/codec/Limits", "maxSize", "()I"⟩ : MethodName) prog_8_method_10_code 1 (some .int) ws ({ frames := 0, cells := 0, slots := 0, locals := 0 } : Room) #[(.ref a0')] Z h0 (RV fun z h L => z = (.int w) ∧ h = h0 ∧ Fr n0 L) := by
  refine met_of (plainFor_of_name pn_com_example_plantain_plantain_codec_Limits) ?_
  intro p e s m below meth c T0 X0 hx hby hml hZ hown hnm hret hlk e0 es
  have N0 := Fr.nil n0
  refine Gd.cast (ef_7 m a0') ?_
  refine g_aloadN X0 hx hby i7_0 rfl rfl ?_
  refine g_getfield X0 hx hby hZ hown (host := "") (Or.inl (hw _ (List.mem_of_getElem? (i := 20) rfl))) Via.refl e0 F i7_1 fun T1 X1 e1 => ?_
  refine g_ireturn X1 hx hby hret hlk i7_4 (by decide) (by decide) ?_
  exact ⟨_, rfl, rfl, e1, N0⟩
theorem i8_0 : Ins1 prog_8_method_12_code 0 (.aload_n 0) 1 1 := ⟨by decide +kernel, rfl⟩
theorem i8_1 : Ins1 prog_8_method_12_code 1 (.getfield 36) 3 4 := ⟨by decide +kernel, rfl⟩
theorem i8_4 : Ins1 prog_8_method_12_code 4 (.lreturn) 1 5 := ⟨by decide +kernel, rfl⟩
theorem ef_8 (m : MethodId) (a0' : Addr) : entryFrame m #[(.ref a0')] 1 = mkF m 0 #[.val (.ref a0')] [] := by first | (simp [entryFrame, mkF, argsToLocals, Value.category]; done) | rfl
set_option maxRecDepth 65536 in
set_option maxHeartbeats 40000000 in
theorem rm8 (l : Launch) (Z : State) (a0 : Array Value) (hw : ∀ d ∈ tables_1, d.before a0 Z = true) (ws : List Jvm.Cond) (a0' : Addr) (w : Int64) (h0 : Heap) (n0 : Nat) (Z0 : n0 ≤ h0.size) (F : Fld Z h0 a0' "com/example/plantain/plantain/codec/Limits" "maxElementBytes" "J" (.long w)) :
    Met1 l (⟨"com/example/plantain/plantain/codec/Limits", "maxElementBytes", "()J"⟩ : MethodName) prog_8_method_12_code 1 (some .long) ws ({ frames := 0, cells := 0, slots := 0, locals := 0 } : Room) #[(.ref a0')] Z h0 (RV fun z h L => z = (.long w) ∧ h = h0 ∧ Fr n0 L) := by
  refine met_of (plainFor_of_name pn_com_example_plantain_plantain_codec_Limits) ?_
  intro p e s m below meth c T0 X0 hx hby hml hZ hown hnm hret hlk e0 es
  have N0 := Fr.nil n0
  refine Gd.cast (ef_8 m a0') ?_
  refine g_aloadN X0 hx hby i8_0 rfl rfl ?_
  refine g_getfield X0 hx hby hZ hown (host := "") (Or.inl (hw _ (List.mem_of_getElem? (i := 24) rfl))) Via.refl e0 F i8_1 fun T1 X1 e1 => ?_
  refine g_lreturn X1 hx hby hret hlk i8_4 (by decide) (by decide) ?_
  exact ⟨_, rfl, rfl, e1, N0⟩
theorem i0_0 : Ins1 code 0 (.iload_n 0) 1 1 := ⟨at_0, rfl⟩
theorem i0_1 : Ins1 code 1 (.ldc 7) 2 3 := ⟨at_1, rfl⟩
theorem i0_3 : Ins1 code 3 (.iand) 1 4 := ⟨at_3, rfl⟩
theorem i0_4 : Ins1 code 4 (.istore 6) 2 6 := ⟨at_4, rfl⟩
theorem i0_6 : Ins1 code 6 (.iload 6) 2 8 := ⟨at_6, rfl⟩
theorem i0_8 : InsB code 8 (.ifCond .ne 6) 6 11 14 := ⟨at_8, rfl, by decide, by decide⟩
theorem i0_11 : Ins1 code 11 (.iconst 1) 1 12 := ⟨at_11, rfl⟩
theorem i0_12 : Ins1 code 12 (.istore 6) 2 14 := ⟨at_12, rfl⟩
theorem i0_14 : Ins1 code 14 (.iload_n 1) 1 15 := ⟨at_14, rfl⟩
theorem i0_15 : Ins1 code 15 (.ldc 7) 2 17 := ⟨at_15, rfl⟩
theorem i0_17 : Ins1 code 17 (.iand) 1 18 := ⟨at_17, rfl⟩
theorem i0_18 : Ins1 code 18 (.ldc 8) 2 20 := ⟨at_18, rfl⟩
theorem i0_20 : Ins1 code 20 (.irem) 1 21 := ⟨at_20, rfl⟩
theorem i0_21 : Ins1 code 21 (.istore 7) 2 23 := ⟨at_21, rfl⟩
theorem i0_23 : Ins1 code 23 (.iload_n 2) 1 24 := ⟨at_23, rfl⟩
theorem i0_24 : Ins1 code 24 (.ldc 7) 2 26 := ⟨at_24, rfl⟩
theorem i0_26 : Ins1 code 26 (.iand) 1 27 := ⟨at_26, rfl⟩
theorem i0_27 : Ins1 code 27 (.istore 8) 2 29 := ⟨at_27, rfl⟩
theorem i0_29 : Ins1 code 29 (.lload_n 3) 1 30 := ⟨at_29, rfl⟩
theorem i0_30 : Ins1 code 30 (.ldc2_w 9) 3 33 := ⟨at_30, rfl⟩
theorem i0_33 : Ins1 code 33 (.land) 1 34 := ⟨at_33, rfl⟩
theorem i0_34 : Ins1 code 34 (.lstore 9) 2 36 := ⟨at_34, rfl⟩
theorem i0_36 : Ins1 code 36 (.lload 9) 2 38 := ⟨at_36, rfl⟩
theorem i0_38 : Ins1 code 38 (.lconst 0) 1 39 := ⟨at_38, rfl⟩
theorem i0_39 : Ins1 code 39 (.lcmp) 1 40 := ⟨at_39, rfl⟩
theorem i0_40 : InsB code 40 (.ifCond .ne 6) 6 43 46 := ⟨at_40, rfl, by decide, by decide⟩
theorem i0_43 : Ins1 code 43 (.lconst 1) 1 44 := ⟨at_43, rfl⟩
theorem i0_44 : Ins1 code 44 (.lstore 9) 2 46 := ⟨at_44, rfl⟩
theorem i0_46 : Ins1 code 46 (.iload 5) 2 48 := ⟨at_46, rfl⟩
theorem i0_48 : Ins1 code 48 (.ldc 7) 2 50 := ⟨at_48, rfl⟩
theorem i0_50 : Ins1 code 50 (.iand) 1 51 := ⟨at_50, rfl⟩
theorem i0_51 : Ins1 code 51 (.istore 11) 2 53 := ⟨at_51, rfl⟩
theorem i0_53 : Ins1 code 53 (.new 11) 3 56 := ⟨at_53, rfl⟩
theorem i0_56 : Ins1 code 56 (.dup) 1 57 := ⟨at_56, rfl⟩
theorem i0_57 : Ins1 code 57 (.iload 6) 2 59 := ⟨at_57, rfl⟩
theorem i0_59 : Ins1 code 59 (.iload 7) 2 61 := ⟨at_59, rfl⟩
theorem i0_61 : Ins1 code 61 (.iload 8) 2 63 := ⟨at_61, rfl⟩
theorem i0_63 : Ins1 code 63 (.lload 9) 2 65 := ⟨at_63, rfl⟩
theorem i0_65 : Ins1 code 65 (.invokespecial 13) 3 68 := ⟨at_65, rfl⟩
theorem i0_68 : Ins1 code 68 (.astore 12) 2 70 := ⟨at_68, rfl⟩
theorem i0_70 : Ins1 code 70 (.aload 12) 2 72 := ⟨at_70, rfl⟩
theorem i0_72 : Ins1 code 72 (.iload 11) 2 74 := ⟨at_72, rfl⟩
theorem i0_74 : Ins1 code 74 (.invokevirtual 16) 3 77 := ⟨at_74, rfl⟩
theorem i0_77 : Ins1 code 77 (.astore 13) 2 79 := ⟨at_77, rfl⟩
theorem i0_79 : Ins1 code 79 (.aload 13) 2 81 := ⟨at_79, rfl⟩
theorem i0_81 : Ins1 code 81 (.invokevirtual 20) 3 84 := ⟨at_81, rfl⟩
theorem i0_84 : Ins1 code 84 (.iload 11) 2 86 := ⟨at_84, rfl⟩
theorem i0_86 : InsB code 86 (.if_icmp .ne 48) 48 89 134 := ⟨at_86, rfl, by decide, by decide⟩
theorem i0_89 : Ins1 code 89 (.aload 13) 2 91 := ⟨at_89, rfl⟩
theorem i0_91 : Ins1 code 91 (.invokevirtual 24) 3 94 := ⟨at_91, rfl⟩
theorem i0_94 : Ins1 code 94 (.iload 6) 2 96 := ⟨at_94, rfl⟩
theorem i0_96 : InsB code 96 (.if_icmp .ne 38) 38 99 134 := ⟨at_96, rfl, by decide, by decide⟩
theorem i0_99 : Ins1 code 99 (.aload 13) 2 101 := ⟨at_99, rfl⟩
theorem i0_101 : Ins1 code 101 (.invokevirtual 27) 3 104 := ⟨at_101, rfl⟩
theorem i0_104 : Ins1 code 104 (.iload 7) 2 106 := ⟨at_104, rfl⟩
theorem i0_106 : InsB code 106 (.if_icmp .ne 28) 28 109 134 := ⟨at_106, rfl, by decide, by decide⟩
theorem i0_109 : Ins1 code 109 (.aload 13) 2 111 := ⟨at_109, rfl⟩
theorem i0_111 : Ins1 code 111 (.invokevirtual 30) 3 114 := ⟨at_111, rfl⟩
theorem i0_114 : Ins1 code 114 (.lload 9) 2 116 := ⟨at_114, rfl⟩
theorem i0_116 : Ins1 code 116 (.lcmp) 1 117 := ⟨at_116, rfl⟩
theorem i0_117 : InsB code 117 (.ifCond .ne 17) 17 120 134 := ⟨at_117, rfl, by decide, by decide⟩
theorem i0_120 : Ins1 code 120 (.aload 12) 2 122 := ⟨at_120, rfl⟩
theorem i0_122 : Ins1 code 122 (.invokevirtual 20) 3 125 := ⟨at_122, rfl⟩
theorem i0_125 : Ins1 code 125 (.iload 8) 2 127 := ⟨at_125, rfl⟩
theorem i0_127 : InsB code 127 (.if_icmp .ne 7) 7 130 134 := ⟨at_127, rfl, by decide, by decide⟩
theorem i0_130 : Ins1 code 130 (.iconst 1) 1 131 := ⟨at_130, rfl⟩
theorem i0_131 : InsB code 131 (.goto 4) 4 134 135 := ⟨at_131, rfl, by decide, by decide⟩
theorem i0_134 : Ins1 code 134 (.iconst 0) 1 135 := ⟨at_134, rfl⟩
theorem i0_135 : Ins1 code 135 (.ireturn) 1 136 := ⟨at_135, rfl⟩
theorem pn_com_example_plantain_plantain_codec_LimitsWithMaxDepthPinLaw : plainName "com/example/plantain/plantain/codec/LimitsWithMaxDepthPinLaw" = true := by first | (simp [plainName, overriddenIn]; done) | decide +kernel
theorem ef_0 (m : MethodId) (p0 : Int32) (p1 : Int32) (p2 : Int32) (q3 : Int64) (p4 : Int32) : entryFrame m #[(.int p0), (.int p1), (.int p2), (.long q3), (.int p4)] maxLocals = mkF m 0 #[.val (.int p0), .val (.int p1), .val (.int p2), .val (.long q3), .second, .val (.int p4), .unset, .unset, .unset, .unset, .unset, .unset, .unset, .unset] [] := by first | (simp [entryFrame, mkF, argsToLocals, Value.category, maxLocals]; done) | rfl
theorem pd_2 : parseMethodDescriptor "(I)Lcom/example/plantain/plantain/codec/Limits;" = some ⟨[.int], some (.object "com/example/plantain/plantain/codec/Limits")⟩ := by decide +kernel
theorem pd_3 : parseMethodDescriptor "()I" = some ⟨[], some .int⟩ := by decide +kernel
theorem pd_4 : parseMethodDescriptor "()J" = some ⟨[], some .long⟩ := by decide +kernel
set_option maxRecDepth 65536 in
set_option maxHeartbeats 40000000 in
theorem rm0 (l : Launch) (Z : State) (a0 : Array Value) (hw : ∀ d ∈ tables_1, d.before a0 Z = true) (ws : List Jvm.Cond) (p0 : Int32) (p1 : Int32) (p2 : Int32) (q3 : Int64) (p4 : Int32)  (h0 : Heap) (n0 : Nat) (Z0 : n0 ≤ h0.size)  :
    Met1 l x code maxLocals ret ws room_1 #[(.int p0), (.int p1), (.int p2), (.long q3), (.int p4)] Z h0 (RV fun z _ L => z = .int 1 ∧ Fr n0 L) := by
  refine met_of (plainFor_of_name pn_com_example_plantain_plantain_codec_LimitsWithMaxDepthPinLaw) ?_
  intro p e s m below meth c T0 X0 hx hby hml hZ hown hnm hret hlk e0 es
  have N0 := Fr.nil n0
  refine Gd.cast (ef_0 m p0 p1 p2 q3 p4) ?_
  replace hown : s.vm.findClass "com/example/plantain/plantain/codec/LimitsWithMaxDepthPinLaw" = some m.cls := hown
  refine g_iloadN X0 hx hby i0_0 rfl ?_
  refine g_ldcInt X0 hx hby hZ hown (hw _ (List.mem_of_getElem? (i := 0) rfl)) i0_1 ?_
  refine g_iand X0 hx hby i0_3 ?_
  refine g_istoreW X0 hx hby i0_4 (l' := fun v1 => #[.val (.int p0), .val (.int p1), .val (.int p2), .val (.long q3), .second, .val (.int p4), .val (.int v1), .unset, .unset, .unset, .unset, .unset, .unset, .unset]) (fun _ => rfl) fun v1 hv1 => ?_
  refine g_iload X0 hx hby i0_6 rfl ?_
  refine g_if_ne X0 hx hby i0_8 (fun c8_2 => ?_) (fun c8_2 => ?_)
  · refine g_iloadN X0 hx hby i0_14 rfl ?_
    refine g_ldcInt X0 hx hby hZ hown (hw _ (List.mem_of_getElem? (i := 0) rfl)) i0_15 ?_
    refine g_iand X0 hx hby i0_17 ?_
    refine g_ldcInt X0 hx hby hZ hown (hw _ (List.mem_of_getElem? (i := 1) rfl)) i0_18 ?_
    refine g_irem X0 hx hby i0_20 (by decide) ?_
    refine g_istoreW X0 hx hby i0_21 (l' := fun v3 => #[.val (.int p0), .val (.int p1), .val (.int p2), .val (.long q3), .second, .val (.int p4), .val (.int v1), .val (.int v3), .unset, .unset, .unset, .unset, .unset, .unset]) (fun _ => rfl) fun v3 hv3 => ?_
    refine g_iloadN X0 hx hby i0_23 rfl ?_
    refine g_ldcInt X0 hx hby hZ hown (hw _ (List.mem_of_getElem? (i := 0) rfl)) i0_24 ?_
    refine g_iand X0 hx hby i0_26 ?_
    refine g_istoreW X0 hx hby i0_27 (l' := fun v4 => #[.val (.int p0), .val (.int p1), .val (.int p2), .val (.long q3), .second, .val (.int p4), .val (.int v1), .val (.int v3), .val (.int v4), .unset, .unset, .unset, .unset, .unset]) (fun _ => rfl) fun v4 hv4 => ?_
    refine g_lloadN X0 hx hby i0_29 rfl ?_
    refine g_ldc2Long X0 hx hby hZ hown (hw _ (List.mem_of_getElem? (i := 2) rfl)) i0_30 ?_
    refine g_land X0 hx hby i0_33 ?_
    refine g_lstoreW X0 hx hby i0_34 (l' := fun v5 => #[.val (.int p0), .val (.int p1), .val (.int p2), .val (.long q3), .second, .val (.int p4), .val (.int v1), .val (.int v3), .val (.int v4), .val (.long v5), .second, .unset, .unset, .unset]) (fun _ => rfl) fun v5 hv5 => ?_
    refine g_lload X0 hx hby i0_36 rfl ?_
    refine g_lconst X0 hx hby i0_38 (z := (0 : Int64)) (by decide) ?_
    refine g_lcmp_ne X0 hx hby i0_39 i0_40 (fun c39_6 => ?_) (fun c39_6 => ?_)
    · refine g_iload X0 hx hby i0_46 rfl ?_
      refine g_ldcInt X0 hx hby hZ hown (hw _ (List.mem_of_getElem? (i := 0) rfl)) i0_48 ?_
      refine g_iand X0 hx hby i0_50 ?_
      refine g_istoreW X0 hx hby i0_51 (l' := fun v7 => #[.val (.int p0), .val (.int p1), .val (.int p2), .val (.long q3), .second, .val (.int p4), .val (.int v1), .val (.int v3), .val (.int v4), .val (.long v5), .second, .val (.int v7), .unset, .unset]) (fun _ => rfl) fun v7 hv7 => ?_
      refine g_new X0 hx hby hZ hown (hw _ (List.mem_of_getElem? (i := 3) rfl)) (hw _ (List.mem_of_getElem? (i := 4) rfl)) (hw _ (List.mem_of_getElem? (i := 5) rfl)) e0 i0_53 (by decide) (by decide) fun T8 h8 b8 X8 e8 E8 hb8 A8 D8 => ?_
      have g_b8 : n0 ≤ b8 := Nat.le_trans Z0 (Nat.le_of_eq hb8.symm)
      have Z0 : n0 ≤ h8.size := Nat.le_trans Z0 E8.1
      have F8_maxLengthBytes : Fld Z h8 b8 "com/example/plantain/plantain/codec/Limits" "maxLengthBytes" "I" (.int (0 : Int32)) := D8 (Or.inr (hw _ (List.mem_of_getElem? (i := 19) rfl))) (ty := .int) (by decide)
      have F8_maxSize : Fld Z h8 b8 "com/example/plantain/plantain/codec/Limits" "maxSize" "I" (.int (0 : Int32)) := D8 (Or.inr (hw _ (List.mem_of_getElem? (i := 21) rfl))) (ty := .int) (by decide)
      have F8_maxDepth : Fld Z h8 b8 "com/example/plantain/plantain/codec/Limits" "maxDepth" "I" (.int (0 : Int32)) := D8 (Or.inr (hw _ (List.mem_of_getElem? (i := 23) rfl))) (ty := .int) (by decide)
      have F8_maxElementBytes : Fld Z h8 b8 "com/example/plantain/plantain/codec/Limits" "maxElementBytes" "J" (.long (0 : Int64)) := D8 (Or.inr (hw _ (List.mem_of_getElem? (i := 25) rfl))) (ty := .long) (by decide)
      refine g_dup X8 hx hby i0_56 rfl ?_
      refine g_iload X8 hx hby i0_57 rfl ?_
      refine g_iload X8 hx hby i0_59 rfl ?_
      refine g_iload X8 hx hby i0_61 rfl ?_
      refine g_lload X8 hx hby i0_63 rfl ?_
      refine g_callInit0 X8 hx hby hZ (y := (⟨"com/example/plantain/plantain/codec/Limits", "<init>", "(IIIJ)V"⟩ : MethodName)) (argsL := [(.int v1), (.int v3), (.int v4), (.long v5)]) (rest := [(.ref b8)]) rfl hown (hw _ (List.mem_of_getElem? (i := 6) rfl)) (hw _ (List.mem_of_getElem? (i := 7) rfl)) (hw _ (List.mem_of_getElem? (i := 5) rfl)) (hw _ (List.mem_of_getElem? (i := 8) rfl)) (by decide) (a := b8) (rm1 l Z a0 hw [] b8 v1 v3 v4 v5 h8 n0 Z0 A8 F8_maxLengthBytes F8_maxSize F8_maxDepth F8_maxElementBytes g_b8 (own_pos hv1 c8_2) (own_size hv3).1 (own_size hv3).2 (own_nn hv4) (own_posL hv5 c39_6)) e8 (by rw [hml]; rfl) pd_1 rfl rfl i0_65 (by decide) 1 rfl (by decide) (by decide) (by decide) fun T9 v9 L9 X9 q9 => ?_
      obtain ⟨rfl, K9, E9, F9_maxLengthBytes, F9_maxSize, F9_maxDepth, F9_maxElementBytes, N9⟩ := q9
      have N0 := Fr.app N0 N9
      have A8 := A8.keep K9
      have Z0 : n0 ≤ T9.heap.size := Nat.le_trans Z0 K9.1
      show Gd p e below _ T9 (mkF m 68 #[.val (.int p0), .val (.int p1), .val (.int p2), .val (.long q3), .second, .val (.int p4), .val (.int v1), .val (.int v3), .val (.int v4), .val (.long v5), .second, .val (.int v7), .unset, .unset] [(.ref b8)])
      refine g_astore X9 hx hby i0_68 rfl (l' := #[.val (.int p0), .val (.int p1), .val (.int p2), .val (.long q3), .second, .val (.int p4), .val (.int v1), .val (.int v3), .val (.int v4), .val (.long v5), .second, .val (.int v7), .val (.ref b8), .unset]) rfl ?_
      refine g_aload X9 hx hby i0_70 rfl rfl ?_
      refine g_iload X9 hx hby i0_72 rfl ?_
      refine g_callV0 X9 hx hby hZ (y0 := (⟨"com/example/plantain/plantain/codec/Limits", "withMaxDepth", "(I)Lcom/example/plantain/plantain/codec/Limits;"⟩ : MethodName)) (y := (⟨"com/example/plantain/plantain/codec/Limits", "withMaxDepth", "(I)Lcom/example/plantain/plantain/codec/Limits;"⟩ : MethodName)) (argsL := [(.int v7)]) (rest := []) hown (hw _ (List.mem_of_getElem? (i := 26) rfl)) (hw _ (List.mem_of_getElem? (i := 27) rfl)) (notFace_of_selects (args := #[]) (mvT hZ (hw _ (List.mem_of_getElem? (i := 29) rfl)))) (hw _ (List.mem_of_getElem? (i := 29) rfl)) (hw _ (List.mem_of_getElem? (i := 28) rfl)) (hw _ (List.mem_of_getElem? (i := 5) rfl)) (hw _ (List.mem_of_getElem? (i := 30) rfl)) (by decide) (a := b8) A8 (rm4 l Z a0 hw [] b8 v7 v1 v3 v5 T9.heap n0 Z0 F9_maxLengthBytes F9_maxSize F9_maxElementBytes (own_pos hv1 c8_2) (own_size hv3).1 (own_size hv3).2 (own_nn hv7) (own_posL hv5 c39_6)) rfl (by rw [hml]; rfl) pd_2 rfl rfl i0_74 (by decide) 0 rfl (by decide) (by decide) (by decide) fun T10 v10 L10 X10 q10 => ?_
      obtain ⟨_, rfl, r10, rfl, K10, E10, F10_maxLengthBytes, F10_maxSize, F10_maxDepth, F10_maxElementBytes, g_r10, -, N10⟩ := q10
      have N0 := Fr.app N0 N10
      have A8 := A8.keep K10
      have F9_maxLengthBytes := F9_maxLengthBytes.keep K10 nin0
      have F9_maxSize := F9_maxSize.keep K10 nin0
      have F9_maxDepth := F9_maxDepth.keep K10 nin0
      have F9_maxElementBytes := F9_maxElementBytes.keep K10 nin0
      have Z0 : n0 ≤ T10.heap.size := Nat.le_trans Z0 K10.1
      show Gd p e below _ T10 (mkF m 77 #[.val (.int p0), .val (.int p1), .val (.int p2), .val (.long q3), .second, .val (.int p4), .val (.int v1), .val (.int v3), .val (.int v4), .val (.long v5), .second, .val (.int v7), .val (.ref b8), .unset] [(.ref r10)])
      refine g_astore X10 hx hby i0_77 rfl (l' := #[.val (.int p0), .val (.int p1), .val (.int p2), .val (.long q3), .second, .val (.int p4), .val (.int v1), .val (.int v3), .val (.int v4), .val (.long v5), .second, .val (.int v7), .val (.ref b8), .val (.ref r10)]) rfl ?_
      refine g_aload X10 hx hby i0_79 rfl rfl ?_
      refine g_callV0 X10 hx hby hZ (y0 := (⟨"com/example/plantain/plantain/codec/Limits", "maxDepth", "()I"⟩ : MethodName)) (y := (⟨"com/example/plantain/plantain/codec/Limits", "maxDepth", "()I"⟩ : MethodName)) (argsL := []) (rest := []) hown (hw _ (List.mem_of_getElem? (i := 33) rfl)) (hw _ (List.mem_of_getElem? (i := 34) rfl)) (notFace_of_selects (args := #[]) (mvT hZ (hw _ (List.mem_of_getElem? (i := 36) rfl)))) (hw _ (List.mem_of_getElem? (i := 36) rfl)) (hw _ (List.mem_of_getElem? (i := 35) rfl)) (hw _ (List.mem_of_getElem? (i := 5) rfl)) (hw _ (List.mem_of_getElem? (i := 37) rfl)) (by decide) (a := r10) E10 (rm5 l Z a0 hw [] r10 v7 T10.heap n0 Z0 F10_maxDepth) rfl (by rw [hml]; rfl) pd_3 rfl rfl i0_81 (by decide) 0 rfl (by decide) (by decide) (by decide) fun T11 v11 L11 X11 q11 => ?_
      obtain ⟨_, rfl, rfl, e11, N11⟩ := q11
      have N0 := Fr.app N0 N11
      show Gd p e below _ T11 (mkF m 84 #[.val (.int p0), .val (.int p1), .val (.int p2), .val (.long q3), .second, .val (.int p4), .val (.int v1), .val (.int v3), .val (.int v4), .val (.long v5), .second, .val (.int v7), .val (.ref b8), .val (.ref r10)] [(.int v7)])
      refine g_iload X11 hx hby i0_84 rfl ?_
      refine g_icmp_ne X11 hx hby i0_86 (fun c86_12 => False.elim (c86_12 rfl)) fun c86_12 => ?_
      refine g_aload X11 hx hby i0_89 rfl rfl ?_
      refine g_callV0 X11 hx hby hZ (y0 := (⟨"com/example/plantain/plantain/codec/Limits", "maxLengthBytes", "()I"⟩ : MethodName)) (y := (⟨"com/example/plantain/plantain/codec/Limits", "maxLengthBytes", "()I"⟩ : MethodName)) (argsL := []) (rest := []) hown (hw _ (List.mem_of_getElem? (i := 38) rfl)) (hw _ (List.mem_of_getElem? (i := 39) rfl)) (notFace_of_selects (args := #[]) (mvT hZ (hw _ (List.mem_of_getElem? (i := 41) rfl)))) (hw _ (List.mem_of_getElem? (i := 41) rfl)) (hw _ (List.mem_of_getElem? (i := 40) rfl)) (hw _ (List.mem_of_getElem? (i := 5) rfl)) (hw _ (List.mem_of_getElem? (i := 42) rfl)) (by decide) (a := r10) E10 (rm6 l Z a0 hw [] r10 v1 T10.heap n0 Z0 F10_maxLengthBytes) e11 (by rw [hml]; rfl) pd_3 rfl rfl i0_91 (by decide) 0 rfl (by decide) (by decide) (by decide) fun T13 v13 L13 X13 q13 => ?_
      obtain ⟨_, rfl, rfl, e13, N13⟩ := q13
      have N0 := Fr.app N0 N13
      show Gd p e below _ T13 (mkF m 94 #[.val (.int p0), .val (.int p1), .val (.int p2), .val (.long q3), .second, .val (.int p4), .val (.int v1), .val (.int v3), .val (.int v4), .val (.long v5), .second, .val (.int v7), .val (.ref b8), .val (.ref r10)] [(.int v1)])
      refine g_iload X13 hx hby i0_94 rfl ?_
      refine g_icmp_ne X13 hx hby i0_96 (fun c96_14 => False.elim (c96_14 rfl)) fun c96_14 => ?_
      refine g_aload X13 hx hby i0_99 rfl rfl ?_
      refine g_callV0 X13 hx hby hZ (y0 := (⟨"com/example/plantain/plantain/codec/Limits", "maxSize", "()I"⟩ : MethodName)) (y := (⟨"com/example/plantain/plantain/codec/Limits", "maxSize", "()I"⟩ : MethodName)) (argsL := []) (rest := []) hown (hw _ (List.mem_of_getElem? (i := 43) rfl)) (hw _ (List.mem_of_getElem? (i := 44) rfl)) (notFace_of_selects (args := #[]) (mvT hZ (hw _ (List.mem_of_getElem? (i := 46) rfl)))) (hw _ (List.mem_of_getElem? (i := 46) rfl)) (hw _ (List.mem_of_getElem? (i := 45) rfl)) (hw _ (List.mem_of_getElem? (i := 5) rfl)) (hw _ (List.mem_of_getElem? (i := 47) rfl)) (by decide) (a := r10) E10 (rm7 l Z a0 hw [] r10 v3 T10.heap n0 Z0 F10_maxSize) e13 (by rw [hml]; rfl) pd_3 rfl rfl i0_101 (by decide) 0 rfl (by decide) (by decide) (by decide) fun T15 v15 L15 X15 q15 => ?_
      obtain ⟨_, rfl, rfl, e15, N15⟩ := q15
      have N0 := Fr.app N0 N15
      show Gd p e below _ T15 (mkF m 104 #[.val (.int p0), .val (.int p1), .val (.int p2), .val (.long q3), .second, .val (.int p4), .val (.int v1), .val (.int v3), .val (.int v4), .val (.long v5), .second, .val (.int v7), .val (.ref b8), .val (.ref r10)] [(.int v3)])
      refine g_iload X15 hx hby i0_104 rfl ?_
      refine g_icmp_ne X15 hx hby i0_106 (fun c106_16 => False.elim (c106_16 rfl)) fun c106_16 => ?_
      refine g_aload X15 hx hby i0_109 rfl rfl ?_
      refine g_callV0 X15 hx hby hZ (y0 := (⟨"com/example/plantain/plantain/codec/Limits", "maxElementBytes", "()J"⟩ : MethodName)) (y := (⟨"com/example/plantain/plantain/codec/Limits", "maxElementBytes", "()J"⟩ : MethodName)) (argsL := []) (rest := []) hown (hw _ (List.mem_of_getElem? (i := 48) rfl)) (hw _ (List.mem_of_getElem? (i := 49) rfl)) (notFace_of_selects (args := #[]) (mvT hZ (hw _ (List.mem_of_getElem? (i := 51) rfl)))) (hw _ (List.mem_of_getElem? (i := 51) rfl)) (hw _ (List.mem_of_getElem? (i := 50) rfl)) (hw _ (List.mem_of_getElem? (i := 5) rfl)) (hw _ (List.mem_of_getElem? (i := 52) rfl)) (by decide) (a := r10) E10 (rm8 l Z a0 hw [] r10 v5 T10.heap n0 Z0 F10_maxElementBytes) e15 (by rw [hml]; rfl) pd_4 rfl rfl i0_111 (by decide) 0 rfl (by decide) (by decide) (by decide) fun T17 v17 L17 X17 q17 => ?_
      obtain ⟨_, rfl, rfl, e17, N17⟩ := q17
      have N0 := Fr.app N0 N17
      show Gd p e below _ T17 (mkF m 114 #[.val (.int p0), .val (.int p1), .val (.int p2), .val (.long q3), .second, .val (.int p4), .val (.int v1), .val (.int v3), .val (.int v4), .val (.long v5), .second, .val (.int v7), .val (.ref b8), .val (.ref r10)] [(.long v5)])
      refine g_lload X17 hx hby i0_114 rfl ?_
      refine g_lcmp_ne X17 hx hby i0_116 i0_117 (fun c116_18 => False.elim (c116_18 rfl)) fun c116_18 => ?_
      refine g_aload X17 hx hby i0_120 rfl rfl ?_
      refine g_callV0 X17 hx hby hZ (y0 := (⟨"com/example/plantain/plantain/codec/Limits", "maxDepth", "()I"⟩ : MethodName)) (y := (⟨"com/example/plantain/plantain/codec/Limits", "maxDepth", "()I"⟩ : MethodName)) (argsL := []) (rest := []) hown (hw _ (List.mem_of_getElem? (i := 33) rfl)) (hw _ (List.mem_of_getElem? (i := 34) rfl)) (notFace_of_selects (args := #[]) (mvT hZ (hw _ (List.mem_of_getElem? (i := 36) rfl)))) (hw _ (List.mem_of_getElem? (i := 36) rfl)) (hw _ (List.mem_of_getElem? (i := 35) rfl)) (hw _ (List.mem_of_getElem? (i := 5) rfl)) (hw _ (List.mem_of_getElem? (i := 37) rfl)) (by decide) (a := b8) A8 (rm5 l Z a0 hw [] b8 v4 T10.heap n0 Z0 F9_maxDepth) e17 (by rw [hml]; rfl) pd_3 rfl rfl i0_122 (by decide) 0 rfl (by decide) (by decide) (by decide) fun T19 v19 L19 X19 q19 => ?_
      obtain ⟨_, rfl, rfl, e19, N19⟩ := q19
      have N0 := Fr.app N0 N19
      show Gd p e below _ T19 (mkF m 125 #[.val (.int p0), .val (.int p1), .val (.int p2), .val (.long q3), .second, .val (.int p4), .val (.int v1), .val (.int v3), .val (.int v4), .val (.long v5), .second, .val (.int v7), .val (.ref b8), .val (.ref r10)] [(.int v4)])
      refine g_iload X19 hx hby i0_125 rfl ?_
      refine g_icmp_ne X19 hx hby i0_127 (fun c127_20 => False.elim (c127_20 rfl)) fun c127_20 => ?_
      refine g_iconst X19 hx hby i0_130 (z := (1 : Int32)) (by decide) ?_
      refine g_goto X19 hx hby i0_131 ?_
      refine g_ireturnN X19 hx hby (ty := .boolean) hret (by simp) hlk i0_135 (by decide) (by decide) ?_
      exact ⟨_, rfl, rfl, N0⟩
    · refine g_lconst X0 hx hby i0_43 (z := (1 : Int64)) (by decide) ?_
      refine g_lstore X0 hx hby i0_44 (l' := #[.val (.int p0), .val (.int p1), .val (.int p2), .val (.long q3), .second, .val (.int p4), .val (.int v1), .val (.int v3), .val (.int v4), .val (.long (1 : Int64)), .second, .unset, .unset, .unset]) rfl ?_
      refine g_iload X0 hx hby i0_46 rfl ?_
      refine g_ldcInt X0 hx hby hZ hown (hw _ (List.mem_of_getElem? (i := 0) rfl)) i0_48 ?_
      refine g_iand X0 hx hby i0_50 ?_
      refine g_istoreW X0 hx hby i0_51 (l' := fun v21 => #[.val (.int p0), .val (.int p1), .val (.int p2), .val (.long q3), .second, .val (.int p4), .val (.int v1), .val (.int v3), .val (.int v4), .val (.long (1 : Int64)), .second, .val (.int v21), .unset, .unset]) (fun _ => rfl) fun v21 hv21 => ?_
      refine g_new X0 hx hby hZ hown (hw _ (List.mem_of_getElem? (i := 3) rfl)) (hw _ (List.mem_of_getElem? (i := 4) rfl)) (hw _ (List.mem_of_getElem? (i := 5) rfl)) e0 i0_53 (by decide) (by decide) fun T22 h22 b22 X22 e22 E22 hb22 A22 D22 => ?_
      have g_b22 : n0 ≤ b22 := Nat.le_trans Z0 (Nat.le_of_eq hb22.symm)
      have Z0 : n0 ≤ h22.size := Nat.le_trans Z0 E22.1
      have F22_maxLengthBytes : Fld Z h22 b22 "com/example/plantain/plantain/codec/Limits" "maxLengthBytes" "I" (.int (0 : Int32)) := D22 (Or.inr (hw _ (List.mem_of_getElem? (i := 19) rfl))) (ty := .int) (by decide)
      have F22_maxSize : Fld Z h22 b22 "com/example/plantain/plantain/codec/Limits" "maxSize" "I" (.int (0 : Int32)) := D22 (Or.inr (hw _ (List.mem_of_getElem? (i := 21) rfl))) (ty := .int) (by decide)
      have F22_maxDepth : Fld Z h22 b22 "com/example/plantain/plantain/codec/Limits" "maxDepth" "I" (.int (0 : Int32)) := D22 (Or.inr (hw _ (List.mem_of_getElem? (i := 23) rfl))) (ty := .int) (by decide)
      have F22_maxElementBytes : Fld Z h22 b22 "com/example/plantain/plantain/codec/Limits" "maxElementBytes" "J" (.long (0 : Int64)) := D22 (Or.inr (hw _ (List.mem_of_getElem? (i := 25) rfl))) (ty := .long) (by decide)
      refine g_dup X22 hx hby i0_56 rfl ?_
      refine g_iload X22 hx hby i0_57 rfl ?_
      refine g_iload X22 hx hby i0_59 rfl ?_
      refine g_iload X22 hx hby i0_61 rfl ?_
      refine g_lload X22 hx hby i0_63 rfl ?_
      refine g_callInit0 X22 hx hby hZ (y := (⟨"com/example/plantain/plantain/codec/Limits", "<init>", "(IIIJ)V"⟩ : MethodName)) (argsL := [(.int v1), (.int v3), (.int v4), (.long (1 : Int64))]) (rest := [(.ref b22)]) rfl hown (hw _ (List.mem_of_getElem? (i := 6) rfl)) (hw _ (List.mem_of_getElem? (i := 7) rfl)) (hw _ (List.mem_of_getElem? (i := 5) rfl)) (hw _ (List.mem_of_getElem? (i := 8) rfl)) (by decide) (a := b22) (rm1 l Z a0 hw [] b22 v1 v3 v4 (1 : Int64) h22 n0 Z0 A22 F22_maxLengthBytes F22_maxSize F22_maxDepth F22_maxElementBytes g_b22 (own_pos hv1 c8_2) (own_size hv3).1 (own_size hv3).2 (own_nn hv4) (by decide)) e22 (by rw [hml]; rfl) pd_1 rfl rfl i0_65 (by decide) 1 rfl (by decide) (by decide) (by decide) fun T23 v23 L23 X23 q23 => ?_
      obtain ⟨rfl, K23, E23, F23_maxLengthBytes, F23_maxSize, F23_maxDepth, F23_maxElementBytes, N23⟩ := q23
      have N0 := Fr.app N0 N23
      have A22 := A22.keep K23
      have Z0 : n0 ≤ T23.heap.size := Nat.le_trans Z0 K23.1
      show Gd p e below _ T23 (mkF m 68 #[.val (.int p0), .val (.int p1), .val (.int p2), .val (.long q3), .second, .val (.int p4), .val (.int v1), .val (.int v3), .val (.int v4), .val (.long (1 : Int64)), .second, .val (.int v21), .unset, .unset] [(.ref b22)])
      refine g_astore X23 hx hby i0_68 rfl (l' := #[.val (.int p0), .val (.int p1), .val (.int p2), .val (.long q3), .second, .val (.int p4), .val (.int v1), .val (.int v3), .val (.int v4), .val (.long (1 : Int64)), .second, .val (.int v21), .val (.ref b22), .unset]) rfl ?_
      refine g_aload X23 hx hby i0_70 rfl rfl ?_
      refine g_iload X23 hx hby i0_72 rfl ?_
      refine g_callV0 X23 hx hby hZ (y0 := (⟨"com/example/plantain/plantain/codec/Limits", "withMaxDepth", "(I)Lcom/example/plantain/plantain/codec/Limits;"⟩ : MethodName)) (y := (⟨"com/example/plantain/plantain/codec/Limits", "withMaxDepth", "(I)Lcom/example/plantain/plantain/codec/Limits;"⟩ : MethodName)) (argsL := [(.int v21)]) (rest := []) hown (hw _ (List.mem_of_getElem? (i := 26) rfl)) (hw _ (List.mem_of_getElem? (i := 27) rfl)) (notFace_of_selects (args := #[]) (mvT hZ (hw _ (List.mem_of_getElem? (i := 29) rfl)))) (hw _ (List.mem_of_getElem? (i := 29) rfl)) (hw _ (List.mem_of_getElem? (i := 28) rfl)) (hw _ (List.mem_of_getElem? (i := 5) rfl)) (hw _ (List.mem_of_getElem? (i := 30) rfl)) (by decide) (a := b22) A22 (rm4 l Z a0 hw [] b22 v21 v1 v3 (1 : Int64) T23.heap n0 Z0 F23_maxLengthBytes F23_maxSize F23_maxElementBytes (own_pos hv1 c8_2) (own_size hv3).1 (own_size hv3).2 (own_nn hv21) (by decide)) rfl (by rw [hml]; rfl) pd_2 rfl rfl i0_74 (by decide) 0 rfl (by decide) (by decide) (by decide) fun T24 v24 L24 X24 q24 => ?_
      obtain ⟨_, rfl, r24, rfl, K24, E24, F24_maxLengthBytes, F24_maxSize, F24_maxDepth, F24_maxElementBytes, g_r24, -, N24⟩ := q24
      have N0 := Fr.app N0 N24
      have A22 := A22.keep K24
      have F23_maxLengthBytes := F23_maxLengthBytes.keep K24 nin0
      have F23_maxSize := F23_maxSize.keep K24 nin0
      have F23_maxDepth := F23_maxDepth.keep K24 nin0
      have F23_maxElementBytes := F23_maxElementBytes.keep K24 nin0
      have Z0 : n0 ≤ T24.heap.size := Nat.le_trans Z0 K24.1
      show Gd p e below _ T24 (mkF m 77 #[.val (.int p0), .val (.int p1), .val (.int p2), .val (.long q3), .second, .val (.int p4), .val (.int v1), .val (.int v3), .val (.int v4), .val (.long (1 : Int64)), .second, .val (.int v21), .val (.ref b22), .unset] [(.ref r24)])
      refine g_astore X24 hx hby i0_77 rfl (l' := #[.val (.int p0), .val (.int p1), .val (.int p2), .val (.long q3), .second, .val (.int p4), .val (.int v1), .val (.int v3), .val (.int v4), .val (.long (1 : Int64)), .second, .val (.int v21), .val (.ref b22), .val (.ref r24)]) rfl ?_
      refine g_aload X24 hx hby i0_79 rfl rfl ?_
      refine g_callV0 X24 hx hby hZ (y0 := (⟨"com/example/plantain/plantain/codec/Limits", "maxDepth", "()I"⟩ : MethodName)) (y := (⟨"com/example/plantain/plantain/codec/Limits", "maxDepth", "()I"⟩ : MethodName)) (argsL := []) (rest := []) hown (hw _ (List.mem_of_getElem? (i := 33) rfl)) (hw _ (List.mem_of_getElem? (i := 34) rfl)) (notFace_of_selects (args := #[]) (mvT hZ (hw _ (List.mem_of_getElem? (i := 36) rfl)))) (hw _ (List.mem_of_getElem? (i := 36) rfl)) (hw _ (List.mem_of_getElem? (i := 35) rfl)) (hw _ (List.mem_of_getElem? (i := 5) rfl)) (hw _ (List.mem_of_getElem? (i := 37) rfl)) (by decide) (a := r24) E24 (rm5 l Z a0 hw [] r24 v21 T24.heap n0 Z0 F24_maxDepth) rfl (by rw [hml]; rfl) pd_3 rfl rfl i0_81 (by decide) 0 rfl (by decide) (by decide) (by decide) fun T25 v25 L25 X25 q25 => ?_
      obtain ⟨_, rfl, rfl, e25, N25⟩ := q25
      have N0 := Fr.app N0 N25
      show Gd p e below _ T25 (mkF m 84 #[.val (.int p0), .val (.int p1), .val (.int p2), .val (.long q3), .second, .val (.int p4), .val (.int v1), .val (.int v3), .val (.int v4), .val (.long (1 : Int64)), .second, .val (.int v21), .val (.ref b22), .val (.ref r24)] [(.int v21)])
      refine g_iload X25 hx hby i0_84 rfl ?_
      refine g_icmp_ne X25 hx hby i0_86 (fun c86_26 => False.elim (c86_26 rfl)) fun c86_26 => ?_
      refine g_aload X25 hx hby i0_89 rfl rfl ?_
      refine g_callV0 X25 hx hby hZ (y0 := (⟨"com/example/plantain/plantain/codec/Limits", "maxLengthBytes", "()I"⟩ : MethodName)) (y := (⟨"com/example/plantain/plantain/codec/Limits", "maxLengthBytes", "()I"⟩ : MethodName)) (argsL := []) (rest := []) hown (hw _ (List.mem_of_getElem? (i := 38) rfl)) (hw _ (List.mem_of_getElem? (i := 39) rfl)) (notFace_of_selects (args := #[]) (mvT hZ (hw _ (List.mem_of_getElem? (i := 41) rfl)))) (hw _ (List.mem_of_getElem? (i := 41) rfl)) (hw _ (List.mem_of_getElem? (i := 40) rfl)) (hw _ (List.mem_of_getElem? (i := 5) rfl)) (hw _ (List.mem_of_getElem? (i := 42) rfl)) (by decide) (a := r24) E24 (rm6 l Z a0 hw [] r24 v1 T24.heap n0 Z0 F24_maxLengthBytes) e25 (by rw [hml]; rfl) pd_3 rfl rfl i0_91 (by decide) 0 rfl (by decide) (by decide) (by decide) fun T27 v27 L27 X27 q27 => ?_
      obtain ⟨_, rfl, rfl, e27, N27⟩ := q27
      have N0 := Fr.app N0 N27
      show Gd p e below _ T27 (mkF m 94 #[.val (.int p0), .val (.int p1), .val (.int p2), .val (.long q3), .second, .val (.int p4), .val (.int v1), .val (.int v3), .val (.int v4), .val (.long (1 : Int64)), .second, .val (.int v21), .val (.ref b22), .val (.ref r24)] [(.int v1)])
      refine g_iload X27 hx hby i0_94 rfl ?_
      refine g_icmp_ne X27 hx hby i0_96 (fun c96_28 => False.elim (c96_28 rfl)) fun c96_28 => ?_
      refine g_aload X27 hx hby i0_99 rfl rfl ?_
      refine g_callV0 X27 hx hby hZ (y0 := (⟨"com/example/plantain/plantain/codec/Limits", "maxSize", "()I"⟩ : MethodName)) (y := (⟨"com/example/plantain/plantain/codec/Limits", "maxSize", "()I"⟩ : MethodName)) (argsL := []) (rest := []) hown (hw _ (List.mem_of_getElem? (i := 43) rfl)) (hw _ (List.mem_of_getElem? (i := 44) rfl)) (notFace_of_selects (args := #[]) (mvT hZ (hw _ (List.mem_of_getElem? (i := 46) rfl)))) (hw _ (List.mem_of_getElem? (i := 46) rfl)) (hw _ (List.mem_of_getElem? (i := 45) rfl)) (hw _ (List.mem_of_getElem? (i := 5) rfl)) (hw _ (List.mem_of_getElem? (i := 47) rfl)) (by decide) (a := r24) E24 (rm7 l Z a0 hw [] r24 v3 T24.heap n0 Z0 F24_maxSize) e27 (by rw [hml]; rfl) pd_3 rfl rfl i0_101 (by decide) 0 rfl (by decide) (by decide) (by decide) fun T29 v29 L29 X29 q29 => ?_
      obtain ⟨_, rfl, rfl, e29, N29⟩ := q29
      have N0 := Fr.app N0 N29
      show Gd p e below _ T29 (mkF m 104 #[.val (.int p0), .val (.int p1), .val (.int p2), .val (.long q3), .second, .val (.int p4), .val (.int v1), .val (.int v3), .val (.int v4), .val (.long (1 : Int64)), .second, .val (.int v21), .val (.ref b22), .val (.ref r24)] [(.int v3)])
      refine g_iload X29 hx hby i0_104 rfl ?_
      refine g_icmp_ne X29 hx hby i0_106 (fun c106_30 => False.elim (c106_30 rfl)) fun c106_30 => ?_
      refine g_aload X29 hx hby i0_109 rfl rfl ?_
      refine g_callV0 X29 hx hby hZ (y0 := (⟨"com/example/plantain/plantain/codec/Limits", "maxElementBytes", "()J"⟩ : MethodName)) (y := (⟨"com/example/plantain/plantain/codec/Limits", "maxElementBytes", "()J"⟩ : MethodName)) (argsL := []) (rest := []) hown (hw _ (List.mem_of_getElem? (i := 48) rfl)) (hw _ (List.mem_of_getElem? (i := 49) rfl)) (notFace_of_selects (args := #[]) (mvT hZ (hw _ (List.mem_of_getElem? (i := 51) rfl)))) (hw _ (List.mem_of_getElem? (i := 51) rfl)) (hw _ (List.mem_of_getElem? (i := 50) rfl)) (hw _ (List.mem_of_getElem? (i := 5) rfl)) (hw _ (List.mem_of_getElem? (i := 52) rfl)) (by decide) (a := r24) E24 (rm8 l Z a0 hw [] r24 (1 : Int64) T24.heap n0 Z0 F24_maxElementBytes) e29 (by rw [hml]; rfl) pd_4 rfl rfl i0_111 (by decide) 0 rfl (by decide) (by decide) (by decide) fun T31 v31 L31 X31 q31 => ?_
      obtain ⟨_, rfl, rfl, e31, N31⟩ := q31
      have N0 := Fr.app N0 N31
      show Gd p e below _ T31 (mkF m 114 #[.val (.int p0), .val (.int p1), .val (.int p2), .val (.long q3), .second, .val (.int p4), .val (.int v1), .val (.int v3), .val (.int v4), .val (.long (1 : Int64)), .second, .val (.int v21), .val (.ref b22), .val (.ref r24)] [(.long (1 : Int64))])
      refine g_lload X31 hx hby i0_114 rfl ?_
      refine g_lcmp_ne X31 hx hby i0_116 i0_117 (fun c116_32 => False.elim (c116_32 rfl)) fun c116_32 => ?_
      refine g_aload X31 hx hby i0_120 rfl rfl ?_
      refine g_callV0 X31 hx hby hZ (y0 := (⟨"com/example/plantain/plantain/codec/Limits", "maxDepth", "()I"⟩ : MethodName)) (y := (⟨"com/example/plantain/plantain/codec/Limits", "maxDepth", "()I"⟩ : MethodName)) (argsL := []) (rest := []) hown (hw _ (List.mem_of_getElem? (i := 33) rfl)) (hw _ (List.mem_of_getElem? (i := 34) rfl)) (notFace_of_selects (args := #[]) (mvT hZ (hw _ (List.mem_of_getElem? (i := 36) rfl)))) (hw _ (List.mem_of_getElem? (i := 36) rfl)) (hw _ (List.mem_of_getElem? (i := 35) rfl)) (hw _ (List.mem_of_getElem? (i := 5) rfl)) (hw _ (List.mem_of_getElem? (i := 37) rfl)) (by decide) (a := b22) A22 (rm5 l Z a0 hw [] b22 v4 T24.heap n0 Z0 F23_maxDepth) e31 (by rw [hml]; rfl) pd_3 rfl rfl i0_122 (by decide) 0 rfl (by decide) (by decide) (by decide) fun T33 v33 L33 X33 q33 => ?_
      obtain ⟨_, rfl, rfl, e33, N33⟩ := q33
      have N0 := Fr.app N0 N33
      show Gd p e below _ T33 (mkF m 125 #[.val (.int p0), .val (.int p1), .val (.int p2), .val (.long q3), .second, .val (.int p4), .val (.int v1), .val (.int v3), .val (.int v4), .val (.long (1 : Int64)), .second, .val (.int v21), .val (.ref b22), .val (.ref r24)] [(.int v4)])
      refine g_iload X33 hx hby i0_125 rfl ?_
      refine g_icmp_ne X33 hx hby i0_127 (fun c127_34 => False.elim (c127_34 rfl)) fun c127_34 => ?_
      refine g_iconst X33 hx hby i0_130 (z := (1 : Int32)) (by decide) ?_
      refine g_goto X33 hx hby i0_131 ?_
      refine g_ireturnN X33 hx hby (ty := .boolean) hret (by simp) hlk i0_135 (by decide) (by decide) ?_
      exact ⟨_, rfl, rfl, N0⟩
  · refine g_iconst X0 hx hby i0_11 (z := (1 : Int32)) (by decide) ?_
    refine g_istore X0 hx hby i0_12 (l' := #[.val (.int p0), .val (.int p1), .val (.int p2), .val (.long q3), .second, .val (.int p4), .val (.int (1 : Int32)), .unset, .unset, .unset, .unset, .unset, .unset, .unset]) rfl ?_
    refine g_iloadN X0 hx hby i0_14 rfl ?_
    refine g_ldcInt X0 hx hby hZ hown (hw _ (List.mem_of_getElem? (i := 0) rfl)) i0_15 ?_
    refine g_iand X0 hx hby i0_17 ?_
    refine g_ldcInt X0 hx hby hZ hown (hw _ (List.mem_of_getElem? (i := 1) rfl)) i0_18 ?_
    refine g_irem X0 hx hby i0_20 (by decide) ?_
    refine g_istoreW X0 hx hby i0_21 (l' := fun v35 => #[.val (.int p0), .val (.int p1), .val (.int p2), .val (.long q3), .second, .val (.int p4), .val (.int (1 : Int32)), .val (.int v35), .unset, .unset, .unset, .unset, .unset, .unset]) (fun _ => rfl) fun v35 hv35 => ?_
    refine g_iloadN X0 hx hby i0_23 rfl ?_
    refine g_ldcInt X0 hx hby hZ hown (hw _ (List.mem_of_getElem? (i := 0) rfl)) i0_24 ?_
    refine g_iand X0 hx hby i0_26 ?_
    refine g_istoreW X0 hx hby i0_27 (l' := fun v36 => #[.val (.int p0), .val (.int p1), .val (.int p2), .val (.long q3), .second, .val (.int p4), .val (.int (1 : Int32)), .val (.int v35), .val (.int v36), .unset, .unset, .unset, .unset, .unset]) (fun _ => rfl) fun v36 hv36 => ?_
    refine g_lloadN X0 hx hby i0_29 rfl ?_
    refine g_ldc2Long X0 hx hby hZ hown (hw _ (List.mem_of_getElem? (i := 2) rfl)) i0_30 ?_
    refine g_land X0 hx hby i0_33 ?_
    refine g_lstoreW X0 hx hby i0_34 (l' := fun v37 => #[.val (.int p0), .val (.int p1), .val (.int p2), .val (.long q3), .second, .val (.int p4), .val (.int (1 : Int32)), .val (.int v35), .val (.int v36), .val (.long v37), .second, .unset, .unset, .unset]) (fun _ => rfl) fun v37 hv37 => ?_
    refine g_lload X0 hx hby i0_36 rfl ?_
    refine g_lconst X0 hx hby i0_38 (z := (0 : Int64)) (by decide) ?_
    refine g_lcmp_ne X0 hx hby i0_39 i0_40 (fun c39_38 => ?_) (fun c39_38 => ?_)
    · refine g_iload X0 hx hby i0_46 rfl ?_
      refine g_ldcInt X0 hx hby hZ hown (hw _ (List.mem_of_getElem? (i := 0) rfl)) i0_48 ?_
      refine g_iand X0 hx hby i0_50 ?_
      refine g_istoreW X0 hx hby i0_51 (l' := fun v39 => #[.val (.int p0), .val (.int p1), .val (.int p2), .val (.long q3), .second, .val (.int p4), .val (.int (1 : Int32)), .val (.int v35), .val (.int v36), .val (.long v37), .second, .val (.int v39), .unset, .unset]) (fun _ => rfl) fun v39 hv39 => ?_
      refine g_new X0 hx hby hZ hown (hw _ (List.mem_of_getElem? (i := 3) rfl)) (hw _ (List.mem_of_getElem? (i := 4) rfl)) (hw _ (List.mem_of_getElem? (i := 5) rfl)) e0 i0_53 (by decide) (by decide) fun T40 h40 b40 X40 e40 E40 hb40 A40 D40 => ?_
      have g_b40 : n0 ≤ b40 := Nat.le_trans Z0 (Nat.le_of_eq hb40.symm)
      have Z0 : n0 ≤ h40.size := Nat.le_trans Z0 E40.1
      have F40_maxLengthBytes : Fld Z h40 b40 "com/example/plantain/plantain/codec/Limits" "maxLengthBytes" "I" (.int (0 : Int32)) := D40 (Or.inr (hw _ (List.mem_of_getElem? (i := 19) rfl))) (ty := .int) (by decide)
      have F40_maxSize : Fld Z h40 b40 "com/example/plantain/plantain/codec/Limits" "maxSize" "I" (.int (0 : Int32)) := D40 (Or.inr (hw _ (List.mem_of_getElem? (i := 21) rfl))) (ty := .int) (by decide)
      have F40_maxDepth : Fld Z h40 b40 "com/example/plantain/plantain/codec/Limits" "maxDepth" "I" (.int (0 : Int32)) := D40 (Or.inr (hw _ (List.mem_of_getElem? (i := 23) rfl))) (ty := .int) (by decide)
      have F40_maxElementBytes : Fld Z h40 b40 "com/example/plantain/plantain/codec/Limits" "maxElementBytes" "J" (.long (0 : Int64)) := D40 (Or.inr (hw _ (List.mem_of_getElem? (i := 25) rfl))) (ty := .long) (by decide)
      refine g_dup X40 hx hby i0_56 rfl ?_
      refine g_iload X40 hx hby i0_57 rfl ?_
      refine g_iload X40 hx hby i0_59 rfl ?_
      refine g_iload X40 hx hby i0_61 rfl ?_
      refine g_lload X40 hx hby i0_63 rfl ?_
      refine g_callInit0 X40 hx hby hZ (y := (⟨"com/example/plantain/plantain/codec/Limits", "<init>", "(IIIJ)V"⟩ : MethodName)) (argsL := [(.int (1 : Int32)), (.int v35), (.int v36), (.long v37)]) (rest := [(.ref b40)]) rfl hown (hw _ (List.mem_of_getElem? (i := 6) rfl)) (hw _ (List.mem_of_getElem? (i := 7) rfl)) (hw _ (List.mem_of_getElem? (i := 5) rfl)) (hw _ (List.mem_of_getElem? (i := 8) rfl)) (by decide) (a := b40) (rm1 l Z a0 hw [] b40 (1 : Int32) v35 v36 v37 h40 n0 Z0 A40 F40_maxLengthBytes F40_maxSize F40_maxDepth F40_maxElementBytes g_b40 (by decide) (own_size hv35).1 (own_size hv35).2 (own_nn hv36) (own_posL hv37 c39_38)) e40 (by rw [hml]; rfl) pd_1 rfl rfl i0_65 (by decide) 1 rfl (by decide) (by decide) (by decide) fun T41 v41 L41 X41 q41 => ?_
      obtain ⟨rfl, K41, E41, F41_maxLengthBytes, F41_maxSize, F41_maxDepth, F41_maxElementBytes, N41⟩ := q41
      have N0 := Fr.app N0 N41
      have A40 := A40.keep K41
      have Z0 : n0 ≤ T41.heap.size := Nat.le_trans Z0 K41.1
      show Gd p e below _ T41 (mkF m 68 #[.val (.int p0), .val (.int p1), .val (.int p2), .val (.long q3), .second, .val (.int p4), .val (.int (1 : Int32)), .val (.int v35), .val (.int v36), .val (.long v37), .second, .val (.int v39), .unset, .unset] [(.ref b40)])
      refine g_astore X41 hx hby i0_68 rfl (l' := #[.val (.int p0), .val (.int p1), .val (.int p2), .val (.long q3), .second, .val (.int p4), .val (.int (1 : Int32)), .val (.int v35), .val (.int v36), .val (.long v37), .second, .val (.int v39), .val (.ref b40), .unset]) rfl ?_
      refine g_aload X41 hx hby i0_70 rfl rfl ?_
      refine g_iload X41 hx hby i0_72 rfl ?_
      refine g_callV0 X41 hx hby hZ (y0 := (⟨"com/example/plantain/plantain/codec/Limits", "withMaxDepth", "(I)Lcom/example/plantain/plantain/codec/Limits;"⟩ : MethodName)) (y := (⟨"com/example/plantain/plantain/codec/Limits", "withMaxDepth", "(I)Lcom/example/plantain/plantain/codec/Limits;"⟩ : MethodName)) (argsL := [(.int v39)]) (rest := []) hown (hw _ (List.mem_of_getElem? (i := 26) rfl)) (hw _ (List.mem_of_getElem? (i := 27) rfl)) (notFace_of_selects (args := #[]) (mvT hZ (hw _ (List.mem_of_getElem? (i := 29) rfl)))) (hw _ (List.mem_of_getElem? (i := 29) rfl)) (hw _ (List.mem_of_getElem? (i := 28) rfl)) (hw _ (List.mem_of_getElem? (i := 5) rfl)) (hw _ (List.mem_of_getElem? (i := 30) rfl)) (by decide) (a := b40) A40 (rm4 l Z a0 hw [] b40 v39 (1 : Int32) v35 v37 T41.heap n0 Z0 F41_maxLengthBytes F41_maxSize F41_maxElementBytes (by decide) (own_size hv35).1 (own_size hv35).2 (own_nn hv39) (own_posL hv37 c39_38)) rfl (by rw [hml]; rfl) pd_2 rfl rfl i0_74 (by decide) 0 rfl (by decide) (by decide) (by decide) fun T42 v42 L42 X42 q42 => ?_
      obtain ⟨_, rfl, r42, rfl, K42, E42, F42_maxLengthBytes, F42_maxSize, F42_maxDepth, F42_maxElementBytes, g_r42, -, N42⟩ := q42
      have N0 := Fr.app N0 N42
      have A40 := A40.keep K42
      have F41_maxLengthBytes := F41_maxLengthBytes.keep K42 nin0
      have F41_maxSize := F41_maxSize.keep K42 nin0
      have F41_maxDepth := F41_maxDepth.keep K42 nin0
      have F41_maxElementBytes := F41_maxElementBytes.keep K42 nin0
      have Z0 : n0 ≤ T42.heap.size := Nat.le_trans Z0 K42.1
      show Gd p e below _ T42 (mkF m 77 #[.val (.int p0), .val (.int p1), .val (.int p2), .val (.long q3), .second, .val (.int p4), .val (.int (1 : Int32)), .val (.int v35), .val (.int v36), .val (.long v37), .second, .val (.int v39), .val (.ref b40), .unset] [(.ref r42)])
      refine g_astore X42 hx hby i0_77 rfl (l' := #[.val (.int p0), .val (.int p1), .val (.int p2), .val (.long q3), .second, .val (.int p4), .val (.int (1 : Int32)), .val (.int v35), .val (.int v36), .val (.long v37), .second, .val (.int v39), .val (.ref b40), .val (.ref r42)]) rfl ?_
      refine g_aload X42 hx hby i0_79 rfl rfl ?_
      refine g_callV0 X42 hx hby hZ (y0 := (⟨"com/example/plantain/plantain/codec/Limits", "maxDepth", "()I"⟩ : MethodName)) (y := (⟨"com/example/plantain/plantain/codec/Limits", "maxDepth", "()I"⟩ : MethodName)) (argsL := []) (rest := []) hown (hw _ (List.mem_of_getElem? (i := 33) rfl)) (hw _ (List.mem_of_getElem? (i := 34) rfl)) (notFace_of_selects (args := #[]) (mvT hZ (hw _ (List.mem_of_getElem? (i := 36) rfl)))) (hw _ (List.mem_of_getElem? (i := 36) rfl)) (hw _ (List.mem_of_getElem? (i := 35) rfl)) (hw _ (List.mem_of_getElem? (i := 5) rfl)) (hw _ (List.mem_of_getElem? (i := 37) rfl)) (by decide) (a := r42) E42 (rm5 l Z a0 hw [] r42 v39 T42.heap n0 Z0 F42_maxDepth) rfl (by rw [hml]; rfl) pd_3 rfl rfl i0_81 (by decide) 0 rfl (by decide) (by decide) (by decide) fun T43 v43 L43 X43 q43 => ?_
      obtain ⟨_, rfl, rfl, e43, N43⟩ := q43
      have N0 := Fr.app N0 N43
      show Gd p e below _ T43 (mkF m 84 #[.val (.int p0), .val (.int p1), .val (.int p2), .val (.long q3), .second, .val (.int p4), .val (.int (1 : Int32)), .val (.int v35), .val (.int v36), .val (.long v37), .second, .val (.int v39), .val (.ref b40), .val (.ref r42)] [(.int v39)])
      refine g_iload X43 hx hby i0_84 rfl ?_
      refine g_icmp_ne X43 hx hby i0_86 (fun c86_44 => False.elim (c86_44 rfl)) fun c86_44 => ?_
      refine g_aload X43 hx hby i0_89 rfl rfl ?_
      refine g_callV0 X43 hx hby hZ (y0 := (⟨"com/example/plantain/plantain/codec/Limits", "maxLengthBytes", "()I"⟩ : MethodName)) (y := (⟨"com/example/plantain/plantain/codec/Limits", "maxLengthBytes", "()I"⟩ : MethodName)) (argsL := []) (rest := []) hown (hw _ (List.mem_of_getElem? (i := 38) rfl)) (hw _ (List.mem_of_getElem? (i := 39) rfl)) (notFace_of_selects (args := #[]) (mvT hZ (hw _ (List.mem_of_getElem? (i := 41) rfl)))) (hw _ (List.mem_of_getElem? (i := 41) rfl)) (hw _ (List.mem_of_getElem? (i := 40) rfl)) (hw _ (List.mem_of_getElem? (i := 5) rfl)) (hw _ (List.mem_of_getElem? (i := 42) rfl)) (by decide) (a := r42) E42 (rm6 l Z a0 hw [] r42 (1 : Int32) T42.heap n0 Z0 F42_maxLengthBytes) e43 (by rw [hml]; rfl) pd_3 rfl rfl i0_91 (by decide) 0 rfl (by decide) (by decide) (by decide) fun T45 v45 L45 X45 q45 => ?_
      obtain ⟨_, rfl, rfl, e45, N45⟩ := q45
      have N0 := Fr.app N0 N45
      show Gd p e below _ T45 (mkF m 94 #[.val (.int p0), .val (.int p1), .val (.int p2), .val (.long q3), .second, .val (.int p4), .val (.int (1 : Int32)), .val (.int v35), .val (.int v36), .val (.long v37), .second, .val (.int v39), .val (.ref b40), .val (.ref r42)] [(.int (1 : Int32))])
      refine g_iload X45 hx hby i0_94 rfl ?_
      refine g_icmp_ne X45 hx hby i0_96 (fun c96_46 => False.elim (c96_46 rfl)) fun c96_46 => ?_
      refine g_aload X45 hx hby i0_99 rfl rfl ?_
      refine g_callV0 X45 hx hby hZ (y0 := (⟨"com/example/plantain/plantain/codec/Limits", "maxSize", "()I"⟩ : MethodName)) (y := (⟨"com/example/plantain/plantain/codec/Limits", "maxSize", "()I"⟩ : MethodName)) (argsL := []) (rest := []) hown (hw _ (List.mem_of_getElem? (i := 43) rfl)) (hw _ (List.mem_of_getElem? (i := 44) rfl)) (notFace_of_selects (args := #[]) (mvT hZ (hw _ (List.mem_of_getElem? (i := 46) rfl)))) (hw _ (List.mem_of_getElem? (i := 46) rfl)) (hw _ (List.mem_of_getElem? (i := 45) rfl)) (hw _ (List.mem_of_getElem? (i := 5) rfl)) (hw _ (List.mem_of_getElem? (i := 47) rfl)) (by decide) (a := r42) E42 (rm7 l Z a0 hw [] r42 v35 T42.heap n0 Z0 F42_maxSize) e45 (by rw [hml]; rfl) pd_3 rfl rfl i0_101 (by decide) 0 rfl (by decide) (by decide) (by decide) fun T47 v47 L47 X47 q47 => ?_
      obtain ⟨_, rfl, rfl, e47, N47⟩ := q47
      have N0 := Fr.app N0 N47
      show Gd p e below _ T47 (mkF m 104 #[.val (.int p0), .val (.int p1), .val (.int p2), .val (.long q3), .second, .val (.int p4), .val (.int (1 : Int32)), .val (.int v35), .val (.int v36), .val (.long v37), .second, .val (.int v39), .val (.ref b40), .val (.ref r42)] [(.int v35)])
      refine g_iload X47 hx hby i0_104 rfl ?_
      refine g_icmp_ne X47 hx hby i0_106 (fun c106_48 => False.elim (c106_48 rfl)) fun c106_48 => ?_
      refine g_aload X47 hx hby i0_109 rfl rfl ?_
      refine g_callV0 X47 hx hby hZ (y0 := (⟨"com/example/plantain/plantain/codec/Limits", "maxElementBytes", "()J"⟩ : MethodName)) (y := (⟨"com/example/plantain/plantain/codec/Limits", "maxElementBytes", "()J"⟩ : MethodName)) (argsL := []) (rest := []) hown (hw _ (List.mem_of_getElem? (i := 48) rfl)) (hw _ (List.mem_of_getElem? (i := 49) rfl)) (notFace_of_selects (args := #[]) (mvT hZ (hw _ (List.mem_of_getElem? (i := 51) rfl)))) (hw _ (List.mem_of_getElem? (i := 51) rfl)) (hw _ (List.mem_of_getElem? (i := 50) rfl)) (hw _ (List.mem_of_getElem? (i := 5) rfl)) (hw _ (List.mem_of_getElem? (i := 52) rfl)) (by decide) (a := r42) E42 (rm8 l Z a0 hw [] r42 v37 T42.heap n0 Z0 F42_maxElementBytes) e47 (by rw [hml]; rfl) pd_4 rfl rfl i0_111 (by decide) 0 rfl (by decide) (by decide) (by decide) fun T49 v49 L49 X49 q49 => ?_
      obtain ⟨_, rfl, rfl, e49, N49⟩ := q49
      have N0 := Fr.app N0 N49
      show Gd p e below _ T49 (mkF m 114 #[.val (.int p0), .val (.int p1), .val (.int p2), .val (.long q3), .second, .val (.int p4), .val (.int (1 : Int32)), .val (.int v35), .val (.int v36), .val (.long v37), .second, .val (.int v39), .val (.ref b40), .val (.ref r42)] [(.long v37)])
      refine g_lload X49 hx hby i0_114 rfl ?_
      refine g_lcmp_ne X49 hx hby i0_116 i0_117 (fun c116_50 => False.elim (c116_50 rfl)) fun c116_50 => ?_
      refine g_aload X49 hx hby i0_120 rfl rfl ?_
      refine g_callV0 X49 hx hby hZ (y0 := (⟨"com/example/plantain/plantain/codec/Limits", "maxDepth", "()I"⟩ : MethodName)) (y := (⟨"com/example/plantain/plantain/codec/Limits", "maxDepth", "()I"⟩ : MethodName)) (argsL := []) (rest := []) hown (hw _ (List.mem_of_getElem? (i := 33) rfl)) (hw _ (List.mem_of_getElem? (i := 34) rfl)) (notFace_of_selects (args := #[]) (mvT hZ (hw _ (List.mem_of_getElem? (i := 36) rfl)))) (hw _ (List.mem_of_getElem? (i := 36) rfl)) (hw _ (List.mem_of_getElem? (i := 35) rfl)) (hw _ (List.mem_of_getElem? (i := 5) rfl)) (hw _ (List.mem_of_getElem? (i := 37) rfl)) (by decide) (a := b40) A40 (rm5 l Z a0 hw [] b40 v36 T42.heap n0 Z0 F41_maxDepth) e49 (by rw [hml]; rfl) pd_3 rfl rfl i0_122 (by decide) 0 rfl (by decide) (by decide) (by decide) fun T51 v51 L51 X51 q51 => ?_
      obtain ⟨_, rfl, rfl, e51, N51⟩ := q51
      have N0 := Fr.app N0 N51
      show Gd p e below _ T51 (mkF m 125 #[.val (.int p0), .val (.int p1), .val (.int p2), .val (.long q3), .second, .val (.int p4), .val (.int (1 : Int32)), .val (.int v35), .val (.int v36), .val (.long v37), .second, .val (.int v39), .val (.ref b40), .val (.ref r42)] [(.int v36)])
      refine g_iload X51 hx hby i0_125 rfl ?_
      refine g_icmp_ne X51 hx hby i0_127 (fun c127_52 => False.elim (c127_52 rfl)) fun c127_52 => ?_
      refine g_iconst X51 hx hby i0_130 (z := (1 : Int32)) (by decide) ?_
      refine g_goto X51 hx hby i0_131 ?_
      refine g_ireturnN X51 hx hby (ty := .boolean) hret (by simp) hlk i0_135 (by decide) (by decide) ?_
      exact ⟨_, rfl, rfl, N0⟩
    · refine g_lconst X0 hx hby i0_43 (z := (1 : Int64)) (by decide) ?_
      refine g_lstore X0 hx hby i0_44 (l' := #[.val (.int p0), .val (.int p1), .val (.int p2), .val (.long q3), .second, .val (.int p4), .val (.int (1 : Int32)), .val (.int v35), .val (.int v36), .val (.long (1 : Int64)), .second, .unset, .unset, .unset]) rfl ?_
      refine g_iload X0 hx hby i0_46 rfl ?_
      refine g_ldcInt X0 hx hby hZ hown (hw _ (List.mem_of_getElem? (i := 0) rfl)) i0_48 ?_
      refine g_iand X0 hx hby i0_50 ?_
      refine g_istoreW X0 hx hby i0_51 (l' := fun v53 => #[.val (.int p0), .val (.int p1), .val (.int p2), .val (.long q3), .second, .val (.int p4), .val (.int (1 : Int32)), .val (.int v35), .val (.int v36), .val (.long (1 : Int64)), .second, .val (.int v53), .unset, .unset]) (fun _ => rfl) fun v53 hv53 => ?_
      refine g_new X0 hx hby hZ hown (hw _ (List.mem_of_getElem? (i := 3) rfl)) (hw _ (List.mem_of_getElem? (i := 4) rfl)) (hw _ (List.mem_of_getElem? (i := 5) rfl)) e0 i0_53 (by decide) (by decide) fun T54 h54 b54 X54 e54 E54 hb54 A54 D54 => ?_
      have g_b54 : n0 ≤ b54 := Nat.le_trans Z0 (Nat.le_of_eq hb54.symm)
      have Z0 : n0 ≤ h54.size := Nat.le_trans Z0 E54.1
      have F54_maxLengthBytes : Fld Z h54 b54 "com/example/plantain/plantain/codec/Limits" "maxLengthBytes" "I" (.int (0 : Int32)) := D54 (Or.inr (hw _ (List.mem_of_getElem? (i := 19) rfl))) (ty := .int) (by decide)
      have F54_maxSize : Fld Z h54 b54 "com/example/plantain/plantain/codec/Limits" "maxSize" "I" (.int (0 : Int32)) := D54 (Or.inr (hw _ (List.mem_of_getElem? (i := 21) rfl))) (ty := .int) (by decide)
      have F54_maxDepth : Fld Z h54 b54 "com/example/plantain/plantain/codec/Limits" "maxDepth" "I" (.int (0 : Int32)) := D54 (Or.inr (hw _ (List.mem_of_getElem? (i := 23) rfl))) (ty := .int) (by decide)
      have F54_maxElementBytes : Fld Z h54 b54 "com/example/plantain/plantain/codec/Limits" "maxElementBytes" "J" (.long (0 : Int64)) := D54 (Or.inr (hw _ (List.mem_of_getElem? (i := 25) rfl))) (ty := .long) (by decide)
      refine g_dup X54 hx hby i0_56 rfl ?_
      refine g_iload X54 hx hby i0_57 rfl ?_
      refine g_iload X54 hx hby i0_59 rfl ?_
      refine g_iload X54 hx hby i0_61 rfl ?_
      refine g_lload X54 hx hby i0_63 rfl ?_
      refine g_callInit0 X54 hx hby hZ (y := (⟨"com/example/plantain/plantain/codec/Limits", "<init>", "(IIIJ)V"⟩ : MethodName)) (argsL := [(.int (1 : Int32)), (.int v35), (.int v36), (.long (1 : Int64))]) (rest := [(.ref b54)]) rfl hown (hw _ (List.mem_of_getElem? (i := 6) rfl)) (hw _ (List.mem_of_getElem? (i := 7) rfl)) (hw _ (List.mem_of_getElem? (i := 5) rfl)) (hw _ (List.mem_of_getElem? (i := 8) rfl)) (by decide) (a := b54) (rm1 l Z a0 hw [] b54 (1 : Int32) v35 v36 (1 : Int64) h54 n0 Z0 A54 F54_maxLengthBytes F54_maxSize F54_maxDepth F54_maxElementBytes g_b54 (by decide) (own_size hv35).1 (own_size hv35).2 (own_nn hv36) (by decide)) e54 (by rw [hml]; rfl) pd_1 rfl rfl i0_65 (by decide) 1 rfl (by decide) (by decide) (by decide) fun T55 v55 L55 X55 q55 => ?_
      obtain ⟨rfl, K55, E55, F55_maxLengthBytes, F55_maxSize, F55_maxDepth, F55_maxElementBytes, N55⟩ := q55
      have N0 := Fr.app N0 N55
      have A54 := A54.keep K55
      have Z0 : n0 ≤ T55.heap.size := Nat.le_trans Z0 K55.1
      show Gd p e below _ T55 (mkF m 68 #[.val (.int p0), .val (.int p1), .val (.int p2), .val (.long q3), .second, .val (.int p4), .val (.int (1 : Int32)), .val (.int v35), .val (.int v36), .val (.long (1 : Int64)), .second, .val (.int v53), .unset, .unset] [(.ref b54)])
      refine g_astore X55 hx hby i0_68 rfl (l' := #[.val (.int p0), .val (.int p1), .val (.int p2), .val (.long q3), .second, .val (.int p4), .val (.int (1 : Int32)), .val (.int v35), .val (.int v36), .val (.long (1 : Int64)), .second, .val (.int v53), .val (.ref b54), .unset]) rfl ?_
      refine g_aload X55 hx hby i0_70 rfl rfl ?_
      refine g_iload X55 hx hby i0_72 rfl ?_
      refine g_callV0 X55 hx hby hZ (y0 := (⟨"com/example/plantain/plantain/codec/Limits", "withMaxDepth", "(I)Lcom/example/plantain/plantain/codec/Limits;"⟩ : MethodName)) (y := (⟨"com/example/plantain/plantain/codec/Limits", "withMaxDepth", "(I)Lcom/example/plantain/plantain/codec/Limits;"⟩ : MethodName)) (argsL := [(.int v53)]) (rest := []) hown (hw _ (List.mem_of_getElem? (i := 26) rfl)) (hw _ (List.mem_of_getElem? (i := 27) rfl)) (notFace_of_selects (args := #[]) (mvT hZ (hw _ (List.mem_of_getElem? (i := 29) rfl)))) (hw _ (List.mem_of_getElem? (i := 29) rfl)) (hw _ (List.mem_of_getElem? (i := 28) rfl)) (hw _ (List.mem_of_getElem? (i := 5) rfl)) (hw _ (List.mem_of_getElem? (i := 30) rfl)) (by decide) (a := b54) A54 (rm4 l Z a0 hw [] b54 v53 (1 : Int32) v35 (1 : Int64) T55.heap n0 Z0 F55_maxLengthBytes F55_maxSize F55_maxElementBytes (by decide) (own_size hv35).1 (own_size hv35).2 (own_nn hv53) (by decide)) rfl (by rw [hml]; rfl) pd_2 rfl rfl i0_74 (by decide) 0 rfl (by decide) (by decide) (by decide) fun T56 v56 L56 X56 q56 => ?_
      obtain ⟨_, rfl, r56, rfl, K56, E56, F56_maxLengthBytes, F56_maxSize, F56_maxDepth, F56_maxElementBytes, g_r56, -, N56⟩ := q56
      have N0 := Fr.app N0 N56
      have A54 := A54.keep K56
      have F55_maxLengthBytes := F55_maxLengthBytes.keep K56 nin0
      have F55_maxSize := F55_maxSize.keep K56 nin0
      have F55_maxDepth := F55_maxDepth.keep K56 nin0
      have F55_maxElementBytes := F55_maxElementBytes.keep K56 nin0
      have Z0 : n0 ≤ T56.heap.size := Nat.le_trans Z0 K56.1
      show Gd p e below _ T56 (mkF m 77 #[.val (.int p0), .val (.int p1), .val (.int p2), .val (.long q3), .second, .val (.int p4), .val (.int (1 : Int32)), .val (.int v35), .val (.int v36), .val (.long (1 : Int64)), .second, .val (.int v53), .val (.ref b54), .unset] [(.ref r56)])
      refine g_astore X56 hx hby i0_77 rfl (l' := #[.val (.int p0), .val (.int p1), .val (.int p2), .val (.long q3), .second, .val (.int p4), .val (.int (1 : Int32)), .val (.int v35), .val (.int v36), .val (.long (1 : Int64)), .second, .val (.int v53), .val (.ref b54), .val (.ref r56)]) rfl ?_
      refine g_aload X56 hx hby i0_79 rfl rfl ?_
      refine g_callV0 X56 hx hby hZ (y0 := (⟨"com/example/plantain/plantain/codec/Limits", "maxDepth", "()I"⟩ : MethodName)) (y := (⟨"com/example/plantain/plantain/codec/Limits", "maxDepth", "()I"⟩ : MethodName)) (argsL := []) (rest := []) hown (hw _ (List.mem_of_getElem? (i := 33) rfl)) (hw _ (List.mem_of_getElem? (i := 34) rfl)) (notFace_of_selects (args := #[]) (mvT hZ (hw _ (List.mem_of_getElem? (i := 36) rfl)))) (hw _ (List.mem_of_getElem? (i := 36) rfl)) (hw _ (List.mem_of_getElem? (i := 35) rfl)) (hw _ (List.mem_of_getElem? (i := 5) rfl)) (hw _ (List.mem_of_getElem? (i := 37) rfl)) (by decide) (a := r56) E56 (rm5 l Z a0 hw [] r56 v53 T56.heap n0 Z0 F56_maxDepth) rfl (by rw [hml]; rfl) pd_3 rfl rfl i0_81 (by decide) 0 rfl (by decide) (by decide) (by decide) fun T57 v57 L57 X57 q57 => ?_
      obtain ⟨_, rfl, rfl, e57, N57⟩ := q57
      have N0 := Fr.app N0 N57
      show Gd p e below _ T57 (mkF m 84 #[.val (.int p0), .val (.int p1), .val (.int p2), .val (.long q3), .second, .val (.int p4), .val (.int (1 : Int32)), .val (.int v35), .val (.int v36), .val (.long (1 : Int64)), .second, .val (.int v53), .val (.ref b54), .val (.ref r56)] [(.int v53)])
      refine g_iload X57 hx hby i0_84 rfl ?_
      refine g_icmp_ne X57 hx hby i0_86 (fun c86_58 => False.elim (c86_58 rfl)) fun c86_58 => ?_
      refine g_aload X57 hx hby i0_89 rfl rfl ?_
      refine g_callV0 X57 hx hby hZ (y0 := (⟨"com/example/plantain/plantain/codec/Limits", "maxLengthBytes", "()I"⟩ : MethodName)) (y := (⟨"com/example/plantain/plantain/codec/Limits", "maxLengthBytes", "()I"⟩ : MethodName)) (argsL := []) (rest := []) hown (hw _ (List.mem_of_getElem? (i := 38) rfl)) (hw _ (List.mem_of_getElem? (i := 39) rfl)) (notFace_of_selects (args := #[]) (mvT hZ (hw _ (List.mem_of_getElem? (i := 41) rfl)))) (hw _ (List.mem_of_getElem? (i := 41) rfl)) (hw _ (List.mem_of_getElem? (i := 40) rfl)) (hw _ (List.mem_of_getElem? (i := 5) rfl)) (hw _ (List.mem_of_getElem? (i := 42) rfl)) (by decide) (a := r56) E56 (rm6 l Z a0 hw [] r56 (1 : Int32) T56.heap n0 Z0 F56_maxLengthBytes) e57 (by rw [hml]; rfl) pd_3 rfl rfl i0_91 (by decide) 0 rfl (by decide) (by decide) (by decide) fun T59 v59 L59 X59 q59 => ?_
      obtain ⟨_, rfl, rfl, e59, N59⟩ := q59
      have N0 := Fr.app N0 N59
      show Gd p e below _ T59 (mkF m 94 #[.val (.int p0), .val (.int p1), .val (.int p2), .val (.long q3), .second, .val (.int p4), .val (.int (1 : Int32)), .val (.int v35), .val (.int v36), .val (.long (1 : Int64)), .second, .val (.int v53), .val (.ref b54), .val (.ref r56)] [(.int (1 : Int32))])
      refine g_iload X59 hx hby i0_94 rfl ?_
      refine g_icmp_ne X59 hx hby i0_96 (fun c96_60 => False.elim (c96_60 rfl)) fun c96_60 => ?_
      refine g_aload X59 hx hby i0_99 rfl rfl ?_
      refine g_callV0 X59 hx hby hZ (y0 := (⟨"com/example/plantain/plantain/codec/Limits", "maxSize", "()I"⟩ : MethodName)) (y := (⟨"com/example/plantain/plantain/codec/Limits", "maxSize", "()I"⟩ : MethodName)) (argsL := []) (rest := []) hown (hw _ (List.mem_of_getElem? (i := 43) rfl)) (hw _ (List.mem_of_getElem? (i := 44) rfl)) (notFace_of_selects (args := #[]) (mvT hZ (hw _ (List.mem_of_getElem? (i := 46) rfl)))) (hw _ (List.mem_of_getElem? (i := 46) rfl)) (hw _ (List.mem_of_getElem? (i := 45) rfl)) (hw _ (List.mem_of_getElem? (i := 5) rfl)) (hw _ (List.mem_of_getElem? (i := 47) rfl)) (by decide) (a := r56) E56 (rm7 l Z a0 hw [] r56 v35 T56.heap n0 Z0 F56_maxSize) e59 (by rw [hml]; rfl) pd_3 rfl rfl i0_101 (by decide) 0 rfl (by decide) (by decide) (by decide) fun T61 v61 L61 X61 q61 => ?_
      obtain ⟨_, rfl, rfl, e61, N61⟩ := q61
      have N0 := Fr.app N0 N61
      show Gd p e below _ T61 (mkF m 104 #[.val (.int p0), .val (.int p1), .val (.int p2), .val (.long q3), .second, .val (.int p4), .val (.int (1 : Int32)), .val (.int v35), .val (.int v36), .val (.long (1 : Int64)), .second, .val (.int v53), .val (.ref b54), .val (.ref r56)] [(.int v35)])
      refine g_iload X61 hx hby i0_104 rfl ?_
      refine g_icmp_ne X61 hx hby i0_106 (fun c106_62 => False.elim (c106_62 rfl)) fun c106_62 => ?_
      refine g_aload X61 hx hby i0_109 rfl rfl ?_
      refine g_callV0 X61 hx hby hZ (y0 := (⟨"com/example/plantain/plantain/codec/Limits", "maxElementBytes", "()J"⟩ : MethodName)) (y := (⟨"com/example/plantain/plantain/codec/Limits", "maxElementBytes", "()J"⟩ : MethodName)) (argsL := []) (rest := []) hown (hw _ (List.mem_of_getElem? (i := 48) rfl)) (hw _ (List.mem_of_getElem? (i := 49) rfl)) (notFace_of_selects (args := #[]) (mvT hZ (hw _ (List.mem_of_getElem? (i := 51) rfl)))) (hw _ (List.mem_of_getElem? (i := 51) rfl)) (hw _ (List.mem_of_getElem? (i := 50) rfl)) (hw _ (List.mem_of_getElem? (i := 5) rfl)) (hw _ (List.mem_of_getElem? (i := 52) rfl)) (by decide) (a := r56) E56 (rm8 l Z a0 hw [] r56 (1 : Int64) T56.heap n0 Z0 F56_maxElementBytes) e61 (by rw [hml]; rfl) pd_4 rfl rfl i0_111 (by decide) 0 rfl (by decide) (by decide) (by decide) fun T63 v63 L63 X63 q63 => ?_
      obtain ⟨_, rfl, rfl, e63, N63⟩ := q63
      have N0 := Fr.app N0 N63
      show Gd p e below _ T63 (mkF m 114 #[.val (.int p0), .val (.int p1), .val (.int p2), .val (.long q3), .second, .val (.int p4), .val (.int (1 : Int32)), .val (.int v35), .val (.int v36), .val (.long (1 : Int64)), .second, .val (.int v53), .val (.ref b54), .val (.ref r56)] [(.long (1 : Int64))])
      refine g_lload X63 hx hby i0_114 rfl ?_
      refine g_lcmp_ne X63 hx hby i0_116 i0_117 (fun c116_64 => False.elim (c116_64 rfl)) fun c116_64 => ?_
      refine g_aload X63 hx hby i0_120 rfl rfl ?_
      refine g_callV0 X63 hx hby hZ (y0 := (⟨"com/example/plantain/plantain/codec/Limits", "maxDepth", "()I"⟩ : MethodName)) (y := (⟨"com/example/plantain/plantain/codec/Limits", "maxDepth", "()I"⟩ : MethodName)) (argsL := []) (rest := []) hown (hw _ (List.mem_of_getElem? (i := 33) rfl)) (hw _ (List.mem_of_getElem? (i := 34) rfl)) (notFace_of_selects (args := #[]) (mvT hZ (hw _ (List.mem_of_getElem? (i := 36) rfl)))) (hw _ (List.mem_of_getElem? (i := 36) rfl)) (hw _ (List.mem_of_getElem? (i := 35) rfl)) (hw _ (List.mem_of_getElem? (i := 5) rfl)) (hw _ (List.mem_of_getElem? (i := 37) rfl)) (by decide) (a := b54) A54 (rm5 l Z a0 hw [] b54 v36 T56.heap n0 Z0 F55_maxDepth) e63 (by rw [hml]; rfl) pd_3 rfl rfl i0_122 (by decide) 0 rfl (by decide) (by decide) (by decide) fun T65 v65 L65 X65 q65 => ?_
      obtain ⟨_, rfl, rfl, e65, N65⟩ := q65
      have N0 := Fr.app N0 N65
      show Gd p e below _ T65 (mkF m 125 #[.val (.int p0), .val (.int p1), .val (.int p2), .val (.long q3), .second, .val (.int p4), .val (.int (1 : Int32)), .val (.int v35), .val (.int v36), .val (.long (1 : Int64)), .second, .val (.int v53), .val (.ref b54), .val (.ref r56)] [(.int v36)])
      refine g_iload X65 hx hby i0_125 rfl ?_
      refine g_icmp_ne X65 hx hby i0_127 (fun c127_66 => False.elim (c127_66 rfl)) fun c127_66 => ?_
      refine g_iconst X65 hx hby i0_130 (z := (1 : Int32)) (by decide) ?_
      refine g_goto X65 hx hby i0_131 ?_
      refine g_ireturnN X65 hx hby (ty := .boolean) hret (by simp) hlk i0_135 (by decide) (by decide) ?_
      exact ⟨_, rfl, rfl, N0⟩
set_option maxRecDepth 65536 in
set_option maxHeartbeats 40000000 in
theorem comes_1 {Post : Tables → Env → Array Value → State → Outcome → State → Prop} (hpost : ∀ tb e args s v u, (limb_1_1.after args s (.returned v) u = true ∧ limb_1_2.after args s (.returned v) u = true ∧ True) → FrameEnd s (.returned v) u (Jvm.fieldLocs frame_1_writes args s ++ Jvm.arrayLocs frame_1_arrays args s ++ Jvm.staticLocs frame_1_statics s) 16 128 → Post tb e args s (.returned v) u) :
    ArmFor flags0 classFile x code maxLocals ret World_1 tables_1 room_1 Calls_1 rest_1 Pre_1 Post := by
  intro l hfl _ _ p e ha hc hk s m args below hf hA hF happ hP
  obtain ⟨hcalls, hrest, hpre⟩ := hP
  obtain ⟨-, -, -, hnamed, -, -, -, hat⟩ := (Spec.applies_iff hf).mp happ
  obtain ⟨hg, hn⟩ := and_e (Cond.before_iff.mp (show (Jvm.Cond.and given_1 narrow_1).before args s = true from hpre))
  obtain ⟨hcount, g0⟩ := and_e hg
  obtain ⟨a0, g1⟩ := and_e g0
  obtain ⟨a1, g2⟩ := and_e g1
  obtain ⟨a2, g3⟩ := and_e g2
  obtain ⟨a3, g4⟩ := and_e g3
  obtain ⟨w0, w1, w2, w3, w4, rfl⟩ : ∃ w0 w1 w2 w3 w4 : Value, args = #[w0, w1, w2, w3, w4] := by
    have hs : args.size = 5 := by simpa [Cond.value, given_1] using hcount
    obtain ⟨L⟩ := args
    match L, hs with
    | [w0, w1, w2, w3, w4], _ => exact ⟨w0, w1, w2, w3, w4, rfl⟩
  have hw := fun d (hd : d ∈ tables_1) => atoms_spec (ws := Jvm.Cond.code x code maxLocals ret :: tables_1) hat d (List.mem_cons_of_mem _ hd)
  have hfit : Fit s := fun {y c} hc i hi => by
    obtain ⟨ha, rfl⟩ := Array.getElem?_eq_some_iff.mp hc
    have q := List.all_eq_true.mp ((Array.all_eq_true_iff_forall_mem.mp hF) _ (Array.getElem_mem ha)) i (List.mem_range.mpr hi)
    simpa [Array.getElem?_eq_getElem hi] using q
  obtain ⟨i0, ei0⟩ := is_v a0
  obtain rfl : w0 = (.int i0) := Option.some.inj ei0
  obtain ⟨i1, ei1⟩ := is_v a1
  obtain rfl : w1 = (.int i1) := Option.some.inj ei1
  obtain ⟨i2, ei2⟩ := is_v a2
  obtain rfl : w2 = (.int i2) := Option.some.inj ei2
  obtain ⟨i3, ei3⟩ := isL_v a3
  obtain rfl : w3 = (.long i3) := Option.some.inj ei3
  obtain ⟨i4, ei4⟩ := is_v g4
  obtain rfl : w4 = (.int i4) := Option.some.inj ei4
  obtain ⟨n, o, h1, h2, h3, _, L, rfl, ⟨_, rfl, rfl, N⟩, hq⟩ := rm0 l s _ hw tables_1 i0 i1 i2 i3 i4 s.heap s.heap.size (Nat.le_refl _)  p e ha hc hk s m _ below hf ((Spec.applies_iff_loose hf).mp happ).1 ⟨rfl, State.Warmed39.refl s, rfl⟩ trivial
  refine ⟨n, _, h1, h2, h3, hpost _ _ _ _ _ _ ⟨Cond.after_iff.mpr rfl, Cond.after_iff.mpr (eq_i res_at (Term.int_eval (1)) rfl), trivial⟩ ⟨hq.1, hq.2.1, (hq.2.2.sift fun y hy => Or.inr (N y hy)).mono (by decide) (by decide)⟩⟩
theorem main_1_1 : Claimed_1_1 := comes_1 fun _ _ _ _ _ _ h hF => ⟨h.1, hF⟩
theorem main_1_2 : Claimed_1_2 := comes_1 fun _ _ _ _ _ _ h hF => ⟨h.2.1, hF⟩
end Jvm.Pilot.@@N@@
namespace Jvm.Pilot.@@N@@
open Jvm Jvm.ClassFile Sem Op Lib Jvm.Free Jvm.Stand Jvm.Pilot.@@N@@.Jvm.D
/-! MADE BY PROGRAM (witnessworld.py) out of the Statement's table words and the real class files: 10 classes; the members and pool entries that the words name. The judged class is class 1, her method 1. -/
namespace start1
open Jvm.ClassFile
def u (s : String) : CpInfo := .utf8 (stringToUtf16 s)
/-- a pool by its gaps: so many unusable entries, then the entry; so many at the end -/
def gap : Nat → List CpInfo → List CpInfo
  | 0, r => r
  | n + 1, r => .unusable :: gap n r
def poolList (es : List (Nat × CpInfo)) (last : Nat) : List CpInfo := es.foldr (fun e r => gap e.1 (e.2 :: r)) (gap last [])
def pool (es : List (Nat × CpInfo)) (last : Nat) : Array CpInfo := ⟨poolList es last⟩
def fileOf (pool : Array CpInfo) (this : Nat) (attrs : Array Attribute := #[]) (ms : Array MethodInfo := #[]) (fl : Nat := 33) (sup : Nat := 0) (ifs : Array Nat := #[]) (fds : Array FieldInfo := #[]) : ClassFile where
  minorVersion := 0
  majorVersion := 65
  constantPool := pool
  accessFlags := fl
  thisClass := this
  superClass := sup
  interfaces := ifs
  fields := fds
  methods := ms
  attributes := attrs
def plain (name : String) (sup : Option ClassId) : Class where
  name := name
  kind := .ordinary
  loader := none
  accessFlags := 33
  super := sup
  interfaces := #[]
  cf := none
  fields := #[]
  methods := #[]
  instanceTypes := #[]
  staticTypes := #[]
  resolved := #[]
  callSites := []
  init := .initialized
  statics := none
  mirror := none

def pool0 : Array CpInfo := pool [(5, u "<init>"), (0, u "()V"), (1, .class_ 10), (1, u "java/lang/Object")] 113

def k0c0 : Code := { maxStack := 0, maxLocals := 1, code := object_method_1_code, exceptionTable := #[], attributes := #[] }
def k0m0 : Method := { name := "<init>", desc := "()V", sig := { parameters := [], returnType := none }, accessFlags := 1, code := some k0c0 }
/-- java/lang/Object -/
def k0 : Class := { plain "java/lang/Object" none with
  accessFlags := 33
  interfaces := #[]
  cf := some (fileOf pool0 8 #[] #[{ accessFlags := 1, nameIndex := 5, descriptorIndex := 6, attributes := #[] }] 33 0 #[] #[])
  fields := #[]
  methods := #[k0m0]
  instanceTypes := #[]
  staticTypes := #[]
  resolved := Array.replicate 124 none
  statics := none }

def pool1 : Array CpInfo := pool [(2, .class_ 4), (1, u "java/lang/Object"), (0, u "<init>"), (0, u "()V"), (0, .integer 2147483647), (0, .integer 2147483640), (0, .long 9223372036854775807), (1, .class_ 12), (0, u "com/example/plantain/plantain/codec/Limits"), (0, .methodref 11 14), (0, .nameAndType 5 15), (0, u "(IIIJ)V"), (0, .methodref 11 17), (0, .nameAndType 18 19), (0, u "withMaxDepth"), (0, u "(I)Lcom/example/plantain/plantain/codec/Limits;"), (0, .methodref 11 21), (0, .nameAndType 22 23), (0, u "maxDepth"), (0, u "()I"), (0, .methodref 11 25), (0, .nameAndType 26 23), (0, u "maxLengthBytes"), (0, .methodref 11 28), (0, .nameAndType 29 23), (0, u "maxSize"), (0, .methodref 11 31), (0, .nameAndType 32 33), (0, u "maxElementBytes"), (0, u "()J"), (0, .class_ 35), (0, u "com/example/plantain/plantain/codec/LimitsWithMaxDepthPinLaw"), (2, u "law"), (0, u "(IIIJI)Z")] 3

def k1m0 : Method := { name := "<init>", desc := "()V", sig := { parameters := [], returnType := none }, accessFlags := 1, code := none }
def k1c1 : Code := { maxStack := 7, maxLocals := 14, code := code, exceptionTable := #[], attributes := #[] }
def k1m1 : Method := { name := "law", desc := "(IIIJI)Z", sig := { parameters := [.int, .int, .int, .long, .int], returnType := some .boolean }, accessFlags := 9, code := some k1c1 }
/-- com/example/plantain/plantain/codec/LimitsWithMaxDepthPinLaw -/
def k1 : Class := { plain "com/example/plantain/plantain/codec/LimitsWithMaxDepthPinLaw" (some 0) with
  accessFlags := 49
  interfaces := #[]
  cf := some (fileOf pool1 34 #[] #[{ accessFlags := 1, nameIndex := 5, descriptorIndex := 6, attributes := #[] }, { accessFlags := 9, nameIndex := 38, descriptorIndex := 39, attributes := #[] }] 49 2 #[] #[])
  fields := #[]
  methods := #[k1m0, k1m1]
  instanceTypes := #[]
  staticTypes := #[]
  resolved := Array.replicate 43 none
  statics := none }

def pool2 : Array CpInfo := pool [(1, .methodref 2 3), (0, .class_ 4), (0, .nameAndType 5 6), (0, u "java/lang/Object"), (0, u "<init>"), (0, u "()V"), (0, .class_ 8), (0, u "java/lang/Record")] 13

def k2c0 : Code := { maxStack := 1, maxLocals := 1, code := jdk_30_method_1_code, exceptionTable := #[], attributes := #[] }
def k2m0 : Method := { name := "<init>", desc := "()V", sig := { parameters := [], returnType := none }, accessFlags := 4, code := some k2c0 }
/-- java/lang/Record -/
def k2 : Class := { plain "java/lang/Record" (some 0) with
  accessFlags := 1057
  interfaces := #[]
  cf := some (fileOf pool2 7 #[] #[{ accessFlags := 4, nameIndex := 5, descriptorIndex := 6, attributes := #[] }] 1057 2 #[] #[])
  fields := #[]
  methods := #[k2m0]
  instanceTypes := #[]
  staticTypes := #[]
  resolved := Array.replicate 22 none
  statics := none }

def pool3 : Array CpInfo := pool [(1, .methodref 2 3), (0, .class_ 4), (0, .nameAndType 5 6), (0, u "java/lang/Record"), (0, u "<init>"), (0, u "()V"), (11, .integer 2147483639), (5, .fieldref 25 26), (0, .class_ 27), (0, .nameAndType 28 29), (0, u "com/example/plantain/plantain/codec/Limits"), (0, u "maxLengthBytes"), (0, u "I"), (0, .fieldref 25 31), (0, .nameAndType 32 29), (0, u "maxSize"), (0, .fieldref 25 34), (0, .nameAndType 35 29), (0, u "maxDepth"), (0, .fieldref 25 37), (0, .nameAndType 38 39), (0, u "maxElementBytes"), (0, u "J"), (0, .methodref 25 41), (0, .nameAndType 5 42), (0, u "(IIIJ)V"), (17, u "DEFAULT"), (0, u "Lcom/example/plantain/plantain/codec/Limits;"), (0, u "BYTE_PRICE"), (2, u "CONTENT_BYTE_PRICE"), (6, u "(I)Lcom/example/plantain/plantain/codec/Limits;"), (1, u "withMaxDepth"), (3, u "()I"), (1, u "()J")] 38

def k3c0 : Code := { maxStack := 4, maxLocals := 6, code := prog_8_method_1_code, exceptionTable := #[], attributes := #[] }
def k3m0 : Method := { name := "<init>", desc := "(IIIJ)V", sig := { parameters := [.int, .int, .int, .long], returnType := none }, accessFlags := 1, code := some k3c0 }
def k3c1 : Code := { maxStack := 7, maxLocals := 2, code := prog_8_method_4_code, exceptionTable := #[], attributes := #[] }
def k3m1 : Method := { name := "withMaxDepth", desc := "(I)Lcom/example/plantain/plantain/codec/Limits;", sig := { parameters := [.int], returnType := some (.object "com/example/plantain/plantain/codec/Limits") }, accessFlags := 1, code := some k3c1 }
def k3c2 : Code := { maxStack := 1, maxLocals := 1, code := prog_8_method_9_code, exceptionTable := #[], attributes := #[] }
def k3m2 : Method := { name := "maxLengthBytes", desc := "()I", sig := { parameters := [], returnType := some .int }, accessFlags := 1, code := some k3c2 }
def k3c3 : Code := { maxStack := 1, maxLocals := 1, code := prog_8_method_10_code, exceptionTable := #[], attributes := #[] }
def k3m3 : Method := { name := "maxSize", desc := "()I", sig := { parameters := [], returnType := some .int }, accessFlags := 1, code := some k3c3 }
def k3c4 : Code := { maxStack := 1, maxLocals := 1, code := prog_8_method_11_code, exceptionTable := #[], attributes := #[] }
def k3m4 : Method := { name := "maxDepth", desc := "()I", sig := { parameters := [], returnType := some .int }, accessFlags := 1, code := some k3c4 }
def k3c5 : Code := { maxStack := 2, maxLocals := 1, code := prog_8_method_12_code, exceptionTable := #[], attributes := #[] }
def k3m5 : Method := { name := "maxElementBytes", desc := "()J", sig := { parameters := [], returnType := some .long }, accessFlags := 1, code := some k3c5 }
/-- com/example/plantain/plantain/codec/Limits -/
def k3 : Class := { plain "com/example/plantain/plantain/codec/Limits" (some 2) with
  accessFlags := 49
  interfaces := #[]
  cf := some (fileOf pool3 25 #[] #[{ accessFlags := 1, nameIndex := 5, descriptorIndex := 42, attributes := #[] }, { accessFlags := 1, nameIndex := 74, descriptorIndex := 72, attributes := #[] }, { accessFlags := 1, nameIndex := 28, descriptorIndex := 78, attributes := #[] }, { accessFlags := 1, nameIndex := 32, descriptorIndex := 78, attributes := #[] }, { accessFlags := 1, nameIndex := 35, descriptorIndex := 78, attributes := #[] }, { accessFlags := 1, nameIndex := 38, descriptorIndex := 80, attributes := #[] }] 49 2 #[] #[{ accessFlags := 18, nameIndex := 28, descriptorIndex := 29, attributes := #[] }, { accessFlags := 18, nameIndex := 32, descriptorIndex := 29, attributes := #[] }, { accessFlags := 18, nameIndex := 35, descriptorIndex := 29, attributes := #[] }, { accessFlags := 18, nameIndex := 38, descriptorIndex := 39, attributes := #[] }, { accessFlags := 25, nameIndex := 62, descriptorIndex := 29, attributes := #[] }, { accessFlags := 25, nameIndex := 65, descriptorIndex := 29, attributes := #[] }, { accessFlags := 25, nameIndex := 60, descriptorIndex := 61, attributes := #[] }])
  fields := #[{ name := "maxLengthBytes", type := .int, accessFlags := 18, slot := 0, constantValue := 0 }, { name := "maxSize", type := .int, accessFlags := 18, slot := 1, constantValue := 0 }, { name := "maxDepth", type := .int, accessFlags := 18, slot := 2, constantValue := 0 }, { name := "maxElementBytes", type := .long, accessFlags := 18, slot := 3, constantValue := 0 }, { name := "BYTE_PRICE", type := .int, accessFlags := 25, slot := 0, constantValue := 0 }, { name := "CONTENT_BYTE_PRICE", type := .int, accessFlags := 25, slot := 1, constantValue := 0 }, { name := "DEFAULT", type := (.object "com/example/plantain/plantain/codec/Limits"), accessFlags := 25, slot := 2, constantValue := 0 }]
  methods := #[k3m0, k3m1, k3m2, k3m3, k3m4, k3m5]
  instanceTypes := #[.int, .int, .int, .long]
  staticTypes := #[.int, .int, (.object "com/example/plantain/plantain/codec/Limits")]
  resolved := Array.replicate 119 none
  statics := none }

def pool4 : Array CpInfo := pool [(1, u "java/lang/Cloneable"), (0, .class_ 1), (0, u "java/lang/Object"), (0, .class_ 3)] 3

/-- java/lang/Cloneable -/
def k4 : Class := { plain "java/lang/Cloneable" (some 0) with
  accessFlags := 1537
  interfaces := #[]
  cf := some (fileOf pool4 2 #[] #[] 1537 4 #[] #[])
  fields := #[]
  methods := #[]
  instanceTypes := #[]
  staticTypes := #[]
  resolved := Array.replicate 8 none
  statics := none }

def pool5 : Array CpInfo := pool [(1, u "java/io/Serializable"), (0, .class_ 1), (0, u "java/lang/Object"), (0, .class_ 3)] 3

/-- java/io/Serializable -/
def k5 : Class := { plain "java/io/Serializable" (some 0) with
  accessFlags := 1537
  interfaces := #[]
  cf := some (fileOf pool5 2 #[] #[] 1537 4 #[] #[])
  fields := #[]
  methods := #[]
  instanceTypes := #[]
  staticTypes := #[]
  resolved := Array.replicate 8 none
  statics := none }

/-- the primitive byte -/
def k6 : Class := { plain "byte" none with kind := .primitive 'B', accessFlags := 0x411 }
/-- [B -/
def k7 : Class := { plain "[B" (some 0) with kind := .array 6 .byte, interfaces := #[4, 5], accessFlags := 1041 }

/-- the primitive int -/
def k8 : Class := { plain "int" none with kind := .primitive 'I', accessFlags := 0x411 }
/-- [I -/
def k9 : Class := { plain "[I" (some 0) with kind := .array 8 .int, interfaces := #[4, 5], accessFlags := 1041 }

def heap : Heap := #[]
def classes : Array Class := #[k0, k1, k2, k3, k4, k5, k6, k7, k8, k9]
def interned : List (Array UInt16 × Addr) := []
def slotsUsed : Nat := 0
def theMethod : MethodId := ⟨1, 1⟩
def args0 : Array Value := #[.int 5, .int 4, .int 6, .long 4, .int 1]
def aboutOver (below : List Frame) : State where
  vm := { classes := classes, interned := interned.toArray }
  heap := heap
  slotsUsed := slotsUsed
  threads := #[{ frames := .invoking theMethod args0 :: below }]
def below0 : List Frame := [.native { method := ⟨0, 0⟩, args := #[] }]
def about1 : State := aboutOver below0
def p0 : Program := .bare "" "" ""
def e0 : Env := launch0.env 0 0 0
theorem w_frames : about1.frames = Frame.invoking theMethod args0 :: below0 := rfl
set_option maxRecDepth 65536 in
theorem w_args : argsFit about1.vm theMethod args0 = true := by decide +kernel
set_option maxRecDepth 65536 in
theorem w_heap : heapFits about1 = true := by decide +kernel
set_option maxRecDepth 65536 in
theorem w_runnable : about1.curStatus? = some .runnable := by decide +kernel
set_option maxRecDepth 65536 in
theorem w_alone : about1.alone = true := by decide +kernel
set_option maxRecDepth 65536 in
theorem w_named : about1.methodNamed? x = some theMethod := by decide +kernel
set_option maxRecDepth 65536 in
theorem w_hears : about1.hears theMethod below0 = true := by decide +kernel
set_option maxRecDepth 65536 in
theorem w_ripe : about1.ripe theMethod args0 below0 = true := by decide +kernel
theorem w_running : about1.status = .running := rfl
set_option maxRecDepth 65536 in
theorem w_room : about1.hasRoom e0.platform room_1 = true :=
  launch0.hasRoom_least _ room_1 (by decide +kernel) (by decide +kernel) (by decide +kernel) (by decide +kernel) (by decide +kernel) (by decide +kernel)
theorem allAtoms_all (ts : List Jvm.Cond) (a : Array Jvm.Value) (st : Jvm.State) : (allAtoms ts).before a st = ts.all (fun c => c.before a st) := by
  induction ts with
  | nil => rfl
  | cons c t ih =>
    show (Jvm.Cond.and c (allAtoms t)).before a st = _
    rw [Jvm.Cond.before_and, ih, List.all_cons]
def words1 : List Jvm.Cond := Jvm.Cond.code x code maxLocals ret :: tables_1
/-- a 'code' word, met by the world's own term for the bytes: nothing is compared byte by byte -/
theorem code_word {y : MethodName} {bytes : ByteArray} {mx : Nat} {rt : Option FieldType} {a : Array Value} {s : State} {m : MethodId} {meth : Method} {c : Code} (h1 : s.methodNamed? y = some m) (h2 : s.vm.method? m = some meth) (h3 : meth.code = some c) (h4 : c.code = bytes)
    (h5 : (c.maxLocals == mx && c.exceptionTable.isEmpty && decide (c.maxStack ≤ mostOperands) && decide (meth.sig.returnType = rt) && !meth.locks && decide (parseMethodDescriptor y.desc = some meth.sig)) = true) : (Jvm.Cond.code y bytes mx rt).before a s = true := by
  simp only [Bool.and_eq_true, beq_iff_eq, Bool.not_eq_true', decide_eq_true_eq] at h5
  obtain ⟨⟨⟨⟨⟨g1, g2⟩, g3⟩, g4⟩, g5⟩, g6⟩ := h5
  simp [Cond.before, Cond.holds, Cond.value, h1, h2, h3, h4, g1, g2, g3, g4, g5, g6]
def isCode : Jvm.Cond → Bool
  | .code _ _ _ _ => true
  | _ => false
theorem all_split {L : List Jvm.Cond} {P : Jvm.Cond → Bool} (h1 : L.all (fun c => isCode c || P c) = true) (h2 : ∀ c ∈ L.filter isCode, P c = true) : L.all P = true := by
  refine List.all_eq_true.mpr fun c hc => ?_
  have h := List.all_eq_true.mp h1 c hc
  rcases Bool.eq_false_or_eq_true (isCode c) with hi | hi
  · exact h2 c (List.mem_filter.mpr ⟨hc, hi⟩)
  · simpa [hi] using h
set_option maxRecDepth 65536 in
theorem w_c0 : (Jvm.Cond.code x code maxLocals ret).before args0 about1 = true := code_word (m := ⟨1, 1⟩) (meth := k1m1) (c := k1c1) (by decide +kernel) rfl rfl rfl (by decide +kernel)
set_option maxRecDepth 65536 in
theorem w_c1 : (Jvm.Cond.code ({ cls := "com/example/plantain/plantain/codec/Limits", name := "<init>", desc := "(IIIJ)V" } : Jvm.MethodName) prog_8_method_1_code (6 : Nat) (Option.none : Option Jvm.ClassFile.FieldType)).before args0 about1 = true := code_word (m := ⟨3, 0⟩) (meth := k3m0) (c := k3c0) (by decide +kernel) rfl rfl rfl (by decide +kernel)
set_option maxRecDepth 65536 in
theorem w_c2 : (Jvm.Cond.code ({ cls := "java/lang/Record", name := "<init>", desc := "()V" } : Jvm.MethodName) jdk_30_method_1_code (1 : Nat) (Option.none : Option Jvm.ClassFile.FieldType)).before args0 about1 = true := code_word (m := ⟨2, 0⟩) (meth := k2m0) (c := k2c0) (by decide +kernel) rfl rfl rfl (by decide +kernel)
set_option maxRecDepth 65536 in
theorem w_c3 : (Jvm.Cond.code ({ cls := "java/lang/Object", name := "<init>", desc := "()V" } : Jvm.MethodName) object_method_1_code (1 : Nat) (Option.none : Option Jvm.ClassFile.FieldType)).before args0 about1 = true := code_word (m := ⟨0, 0⟩) (meth := k0m0) (c := k0c0) (by decide +kernel) rfl rfl rfl (by decide +kernel)
set_option maxRecDepth 65536 in
theorem w_c4 : (Jvm.Cond.code ({ cls := "com/example/plantain/plantain/codec/Limits", name := "withMaxDepth", desc := "(I)Lcom/example/plantain/plantain/codec/Limits;" } : Jvm.MethodName) prog_8_method_4_code (2 : Nat) (Option.some (Jvm.ClassFile.FieldType.object "com/example/plantain/plantain/codec/Limits"))).before args0 about1 = true := code_word (m := ⟨3, 1⟩) (meth := k3m1) (c := k3c1) (by decide +kernel) rfl rfl rfl (by decide +kernel)
set_option maxRecDepth 65536 in
theorem w_c5 : (Jvm.Cond.code ({ cls := "com/example/plantain/plantain/codec/Limits", name := "maxDepth", desc := "()I" } : Jvm.MethodName) prog_8_method_11_code (1 : Nat) (Option.some Jvm.ClassFile.FieldType.int)).before args0 about1 = true := code_word (m := ⟨3, 4⟩) (meth := k3m4) (c := k3c4) (by decide +kernel) rfl rfl rfl (by decide +kernel)
set_option maxRecDepth 65536 in
theorem w_c6 : (Jvm.Cond.code ({ cls := "com/example/plantain/plantain/codec/Limits", name := "maxLengthBytes", desc := "()I" } : Jvm.MethodName) prog_8_method_9_code (1 : Nat) (Option.some Jvm.ClassFile.FieldType.int)).before args0 about1 = true := code_word (m := ⟨3, 2⟩) (meth := k3m2) (c := k3c2) (by decide +kernel) rfl rfl rfl (by decide +kernel)
set_option maxRecDepth 65536 in
theorem w_c7 : (Jvm.Cond.code ({ cls := "com/example/plantain/plantain/codec/Limits", name := "maxSize", desc := "()I" } : Jvm.MethodName) prog_8_method_10_code (1 : Nat) (Option.some Jvm.ClassFile.FieldType.int)).before args0 about1 = true := code_word (m := ⟨3, 3⟩) (meth := k3m3) (c := k3c3) (by decide +kernel) rfl rfl rfl (by decide +kernel)
set_option maxRecDepth 65536 in
theorem w_c8 : (Jvm.Cond.code ({ cls := "com/example/plantain/plantain/codec/Limits", name := "maxElementBytes", desc := "()J" } : Jvm.MethodName) prog_8_method_12_code (1 : Nat) (Option.some Jvm.ClassFile.FieldType.long)).before args0 about1 = true := code_word (m := ⟨3, 5⟩) (meth := k3m5) (c := k3c5) (by decide +kernel) rfl rfl rfl (by decide +kernel)
def codes1 : List Jvm.Cond := [Jvm.Cond.code x code maxLocals ret, Jvm.Cond.code ({ cls := "com/example/plantain/plantain/codec/Limits", name := "<init>", desc := "(IIIJ)V" } : Jvm.MethodName) prog_8_method_1_code (6 : Nat) (Option.none : Option Jvm.ClassFile.FieldType), Jvm.Cond.code ({ cls := "java/lang/Record", name := "<init>", desc := "()V" } : Jvm.MethodName) jdk_30_method_1_code (1 : Nat) (Option.none : Option Jvm.ClassFile.FieldType), Jvm.Cond.code ({ cls := "java/lang/Object", name := "<init>", desc := "()V" } : Jvm.MethodName) object_method_1_code (1 : Nat) (Option.none : Option Jvm.ClassFile.FieldType), Jvm.Cond.code ({ cls := "com/example/plantain/plantain/codec/Limits", name := "withMaxDepth", desc := "(I)Lcom/example/plantain/plantain/codec/Limits;" } : Jvm.MethodName) prog_8_method_4_code (2 : Nat) (Option.some (Jvm.ClassFile.FieldType.object "com/example/plantain/plantain/codec/Limits")), Jvm.Cond.code ({ cls := "com/example/plantain/plantain/codec/Limits", name := "maxDepth", desc := "()I" } : Jvm.MethodName) prog_8_method_11_code (1 : Nat) (Option.some Jvm.ClassFile.FieldType.int), Jvm.Cond.code ({ cls := "com/example/plantain/plantain/codec/Limits", name := "maxLengthBytes", desc := "()I" } : Jvm.MethodName) prog_8_method_9_code (1 : Nat) (Option.some Jvm.ClassFile.FieldType.int), Jvm.Cond.code ({ cls := "com/example/plantain/plantain/codec/Limits", name := "maxSize", desc := "()I" } : Jvm.MethodName) prog_8_method_10_code (1 : Nat) (Option.some Jvm.ClassFile.FieldType.int), Jvm.Cond.code ({ cls := "com/example/plantain/plantain/codec/Limits", name := "maxElementBytes", desc := "()J" } : Jvm.MethodName) prog_8_method_12_code (1 : Nat) (Option.some Jvm.ClassFile.FieldType.long)]
set_option maxRecDepth 65536 in
theorem codes_eq : words1.filter isCode = codes1 := rfl
theorem w_codes : ∀ c ∈ words1.filter isCode, c.before args0 about1 = true := by
  rw [codes_eq]
  intro c hc
  simp only [codes1, List.mem_cons, List.not_mem_nil, or_false] at hc
  rcases hc with rfl | rfl | rfl | rfl | rfl | rfl | rfl | rfl | rfl
  · exact w_c0
  · exact w_c1
  · exact w_c2
  · exact w_c3
  · exact w_c4
  · exact w_c5
  · exact w_c6
  · exact w_c7
  · exact w_c8
set_option maxRecDepth 65536 in
theorem w_t1 : (words1.take 24).all (fun c => isCode c || c.before args0 about1) = true := by decide +kernel
set_option maxRecDepth 65536 in
theorem w_t2 : ((words1.drop 24).take 24).all (fun c => isCode c || c.before args0 about1) = true := by decide +kernel
set_option maxRecDepth 65536 in
theorem w_t3 : ((words1.drop 24).drop 24).all (fun c => isCode c || c.before args0 about1) = true := by decide +kernel
theorem w_tables : (allAtoms (Jvm.Cond.code x code maxLocals ret :: tables_1)).before args0 about1 = true := by
  rw [allAtoms_all]
  show words1.all (fun c => c.before args0 about1) = true
  refine all_split ?_ w_codes
  rw [← List.take_append_drop 24 words1, List.all_append, w_t1, ← List.take_append_drop 24 (words1.drop 24), List.all_append, w_t2, w_t3]
  rfl
set_option maxRecDepth 65536 in
theorem w_case : (Jvm.Cond.and given_1 narrow_1).before args0 about1 = true := by decide +kernel
theorem w_applies : (headSpec (Jvm.Cond.code x code maxLocals ret :: tables_1) room_1).applies x e0.platform about1 = true :=
  (Spec.applies_iff w_frames).mpr ⟨w_running, w_runnable, w_alone, w_named, w_hears, w_ripe, w_room, w_tables⟩
theorem atStart : AtStart classFile x code maxLocals ret World_1 tables_1 room_1 Calls_1 rest_1 Pre_1 launch0 p0 e0 about1 theMethod args0 below0 :=
  ⟨lists_1, trivial, launch0.admits_env _ _ _, launch0.least_env, fairChoices_fair.cas, fairChoices_fair.clock, w_frames, w_args, w_heap, w_applies, trivial, trivial, w_case⟩
end start1
theorem witness_1 : WitnessClaimed_1 := ⟨start1.p0, start1.e0, start1.about1, start1.theMethod, start1.args0, start1.below0, start1.atStart⟩
end Jvm.Pilot.@@N@@

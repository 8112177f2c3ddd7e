import JvmDerived
import JvmDerived.Pilot.@@N@@Statement
import JvmDerived.Pilot.@@N@@Code
set_option linter.unusedVariables false
set_option linter.unusedSimpArgs false
namespace Jvm.RoadKit
open Sem ClassFile Op Lib Jvm.Stand Jvm.Free Jvm.LawKit
section New
variable {p : Program} {l : Launch} {e : Env} {R : Room} {s : State} {m : MethodId} {args : Array Value} {below : List Frame} {meth : Method} {c : Code} {T : State} {locs : List Loc} {cells slots : Nat}
theorem retI (X : Stand p l e R s m args below meth c T locs cells slots) (hx : p.tables.exec = Jvm.exec) {pc : Nat} {Ls : Array Slot} {z : Int32} {rest : List Value} (hret : meth.sig.returnType = some .int) (hd : decode c.code pc = .ok (.ireturn, 1)) {fs : List Frame}
    (hl : ∀ (f : JFrame) (acts : List Action), f.method = m → f.locked = none → f.entered = [] → (doReturn e (T.setTop f) acts (some (.int z))).1 = T.setFrames fs) : Steps p.tables e below (T.setTop (mkF m pc Ls (.int z :: rest))) (T.setFrames fs) := by
  have hm' : T.vm.method? m = some meth := X.method'
  have hn : narrow .int (.int z) = .int z := rfl
  show Steps p.tables e below (T.setTop { method := m, pc := pc, locals := Ls, stack := _ :: rest, locked := none }) _
  jvm_step X.here [X.here.top, hx, hd, hm', hret, hn]
  first | (intro acts; rw [hl _ acts rfl rfl rfl]) | rw [hl _ _ rfl rfl rfl]
  exact Steps.refl _
end New
end Jvm.RoadKit
namespace Jvm.Own
open Sem ClassFile Op Lib Jvm.Stand Jvm.Free Jvm.LawKit Jvm.RoadKit
/-- the constants of one body's walk -/
abbrev KT := Program × Launch × Env × Room × State × MethodId × Array Value × List Frame × Method × Code × State × Nat
abbrev KT.p (K : KT) : Program := K.1
abbrev KT.l (K : KT) : Launch := K.2.1
abbrev KT.e (K : KT) : Env := K.2.2.1
abbrev KT.R (K : KT) : Room := K.2.2.2.1
abbrev KT.s (K : KT) : State := K.2.2.2.2.1
abbrev KT.m (K : KT) : MethodId := K.2.2.2.2.2.1
abbrev KT.args (K : KT) : Array Value := K.2.2.2.2.2.2.1
abbrev KT.below (K : KT) : List Frame := K.2.2.2.2.2.2.2.1
abbrev KT.meth (K : KT) : Method := K.2.2.2.2.2.2.2.2.1
abbrev KT.c (K : KT) : Code := K.2.2.2.2.2.2.2.2.2.1
abbrev KT.Z (K : KT) : State := K.2.2.2.2.2.2.2.2.2.2.1
abbrev KT.n0 (K : KT) : Nat := K.2.2.2.2.2.2.2.2.2.2.2
/-- what is known of the body -/
def Cx (K : KT) (y : MethodName) (bytes : ByteArray) (mx : Nat) (rt : Option FieldType) (R : Room) : Prop :=
  K.p.tables.exec = Jvm.exec ∧ K.Z.Warmed39 K.s.vm ∧ K.c.code = bytes ∧ K.c.maxLocals = mx ∧ K.s.vm.findClass y.cls = some K.m.cls ∧ K.meth.sig.returnType = rt ∧ K.meth.locks = false ∧ K.R = R ∧ K.meth.name = y.name
/-- where the walk stands: heap h, so many cells and slots made; nothing old written -/
def Sd (K : KT) (T : State) (h : Heap) (cl sl : Nat) : Prop := ∃ locs, Stand K.p K.l K.e K.R K.s K.m K.args K.below K.meth K.c T locs cl sl ∧ Fr K.n0 locs ∧ K.n0 ≤ h.size ∧ T.heap = h
/-- from here the body comes to its end, and Q holds of what it returns and of the heap then -/
def Run (K : KT) (Q : Option Value → Heap → Prop) (T : State) (g : JFrame) : Prop :=
  ∃ s₂ v L, Steps K.p.tables K.e K.below (T.setTop g) s₂ ∧ s₂.status = .running ∧ Ended s₂ K.below (.returned v) ∧ Q v s₂.heap ∧ Fr K.n0 L ∧ FrameEnd K.s (.returned v) s₂ L K.R.cells K.R.slots
theorem Run.st {K : KT} {Q : Option Value → Heap → Prop} {T T' : State} {g g' : JFrame} (st : ∀ t, Steps K.p.tables K.e K.below (T'.setTop g') t → Steps K.p.tables K.e K.below (T.setTop g) t) (k : Run K Q T' g') : Run K Q T g := by
  obtain ⟨s₂, v, L, h1, h2⟩ := k
  exact ⟨s₂, v, L, st _ h1, h2⟩
theorem Run.cast {K : KT} {Q : Option Value → Heap → Prop} {T : State} {g g' : JFrame} (q : g = g') (k : Run K Q T g') : Run K Q T g := q ▸ k
theorem Run.mono {K : KT} {Q Q' : Option Value → Heap → Prop} {T : State} {g : JFrame} (k : Run K Q T g) (q : ∀ v h, Q v h → Q' v h) : Run K Q' T g := by
  obtain ⟨s₂, v, L, h1, h2, h3, h4, h5⟩ := k
  exact ⟨s₂, v, L, h1, h2, h3, q _ _ h4, h5⟩
/-- the words of a sheet -/
def Tb (ws : List Jvm.Cond) (a0 : Array Value) (Z : State) : Prop := ∀ d ∈ ws, d.before a0 Z = true
theorem Tb.get {ws : List Jvm.Cond} {a0 : Array Value} {Z : State} (hw : Tb ws a0 Z) (i : Nat) {d : Jvm.Cond} (h : ws[i]? = some d) : d.before a0 Z = true := hw d (List.mem_of_getElem? h)
/-- an instruction, its length, the pc behind -/
def Dc (bytes : ByteArray) (pc : Nat) (i : Instr) (n pc' : Nat) : Prop := decode bytes pc = .ok (i, n) ∧ pc + n = pc'
/-- a branch: the pc behind, the pc that it goes to -/
def Db (bytes : ByteArray) (pc : Nat) (i : Instr) (o : Int) (pc' pt : Nat) : Prop := decode bytes pc = .ok (i, 3) ∧ pc + 3 = pc' ∧ 0 ≤ (pc : Int) + o ∧ ((pc : Int) + o).toNat = pt
theorem leb {a b : Nat} (h : Nat.ble a b = true) : a ≤ b := Nat.le_of_ble_eq_true h
theorem ltb {a b : Nat} (h : Nat.ble (a + 1) b = true) : a < b := Nat.le_of_ble_eq_true h
section Rules
variable {K : KT} {Q : Option Value → Heap → Prop} {T : State} {h : Heap} {cl sl : Nat} {y : MethodName} {bytes : ByteArray} {mx : Nat} {rt : Option FieldType} {R : Room} {pc pc' pt : Nat} {L : Array Slot} {S : List Value}
theorem r_top {v v' : Int32} (q : v = v') (k : Run K Q T (mkF K.m pc L (.int v' :: S))) : Run K Q T (mkF K.m pc L (.int v :: S)) := q ▸ k
theorem r_topL {v v' : Int64} (q : v = v') (k : Run K Q T (mkF K.m pc L (.long v' :: S))) : Run K Q T (mkF K.m pc L (.long v :: S)) := q ▸ k
theorem Sd.ge (X : Sd K T h cl sl) : K.n0 ≤ h.size := by obtain ⟨_, _, _, q, _⟩ := X; exact q
theorem r_iloadN {i : Fin 4} {v : Int32} (X : Sd K T h cl sl) (cx : Cx K y bytes mx rt R) (hd : Dc bytes pc (.iload_n i) 1 pc') (hl : L[i.val]? = some (.val (.int v))) (k : Run K Q T (mkF K.m pc' L (.int v :: S))) : Run K Q T (mkF K.m pc L (S)) := by
  obtain ⟨locs, X0, -⟩ := X; obtain ⟨hx, -, hby, -⟩ := cx; obtain ⟨d, rfl⟩ := hd
  exact Run.st (fun t q => XS.iloadN X0.here hx rfl (hb hby d) hl q) k
theorem r_iload {i : Nat} {v : Int32} (X : Sd K T h cl sl) (cx : Cx K y bytes mx rt R) (hd : Dc bytes pc (.iload i) 2 pc') (hl : L[i]? = some (.val (.int v))) (k : Run K Q T (mkF K.m pc' L (.int v :: S))) : Run K Q T (mkF K.m pc L (S)) := by
  obtain ⟨locs, X0, -⟩ := X; obtain ⟨hx, -, hby, -⟩ := cx; obtain ⟨d, rfl⟩ := hd
  exact Run.st (fun t q => XS.iload X0.here hx rfl (hb hby d) hl q) k
theorem r_lloadN {i : Fin 4} {v : Int64} (X : Sd K T h cl sl) (cx : Cx K y bytes mx rt R) (hd : Dc bytes pc (.lload_n i) 1 pc') (hl : L[i.val]? = some (.val (.long v))) (k : Run K Q T (mkF K.m pc' L (.long v :: S))) : Run K Q T (mkF K.m pc L (S)) := by
  obtain ⟨locs, X0, -⟩ := X; obtain ⟨hx, -, hby, -⟩ := cx; obtain ⟨d, rfl⟩ := hd
  exact Run.st (fun t q => XT.lloadN X0.here hx rfl (hb hby d) hl q) k
theorem r_lload {i : Nat} {v : Int64} (X : Sd K T h cl sl) (cx : Cx K y bytes mx rt R) (hd : Dc bytes pc (.lload i) 2 pc') (hl : L[i]? = some (.val (.long v))) (k : Run K Q T (mkF K.m pc' L (.long v :: S))) : Run K Q T (mkF K.m pc L (S)) := by
  obtain ⟨locs, X0, -⟩ := X; obtain ⟨hx, -, hby, -⟩ := cx; obtain ⟨d, rfl⟩ := hd
  exact Run.st (fun t q => XT.lload X0.here hx rfl (hb hby d) hl q) k
theorem r_aloadN {i : Fin 4} {v : Addr} (X : Sd K T h cl sl) (cx : Cx K y bytes mx rt R) (hd : Dc bytes pc (.aload_n i) 1 pc') (hl : L[i.val]? = some (.val (.ref v))) (k : Run K Q T (mkF K.m pc' L (.ref v :: S))) : Run K Q T (mkF K.m pc L (S)) := by
  obtain ⟨locs, X0, -⟩ := X; obtain ⟨hx, -, hby, -⟩ := cx; obtain ⟨d, rfl⟩ := hd
  exact Run.st (fun t q => XS.aloadN X0.here hx rfl (hb hby d) hl rfl q) k
theorem r_aload {i : Nat} {v : Addr} (X : Sd K T h cl sl) (cx : Cx K y bytes mx rt R) (hd : Dc bytes pc (.aload i) 2 pc') (hl : L[i]? = some (.val (.ref v))) (k : Run K Q T (mkF K.m pc' L (.ref v :: S))) : Run K Q T (mkF K.m pc L (S)) := by
  obtain ⟨locs, X0, -⟩ := X; obtain ⟨hx, -, hby, -⟩ := cx; obtain ⟨d, rfl⟩ := hd
  exact Run.st (fun t q => XS.aload X0.here hx rfl (hb hby d) hl rfl q) k
theorem r_iconst {i : Int} (v : Int32) (X : Sd K T h cl sl) (cx : Cx K y bytes mx rt R) (hd : Dc bytes pc (.iconst i) 1 pc') (hv : Int32.ofInt i = v) (k : Run K Q T (mkF K.m pc' L (.int v :: S))) : Run K Q T (mkF K.m pc L (S)) := by
  obtain ⟨locs, X0, -⟩ := X; obtain ⟨hx, -, hby, -⟩ := cx; obtain ⟨d, rfl⟩ := hd
  exact Run.st (fun t q => XT.iconstV X0.here hx rfl v (hb hby d) hv q) k
theorem r_bipush {i : Int} (v : Int32) (X : Sd K T h cl sl) (cx : Cx K y bytes mx rt R) (hd : Dc bytes pc (.bipush i) 2 pc') (hv : (Int8.ofInt i).toInt32 = v) (k : Run K Q T (mkF K.m pc' L (.int v :: S))) : Run K Q T (mkF K.m pc L (S)) := by
  obtain ⟨locs, X0, -⟩ := X; obtain ⟨hx, -, hby, -⟩ := cx; obtain ⟨d, rfl⟩ := hd
  exact Run.st (fun t q => XT.bipushV X0.here hx rfl v (hb hby d) hv q) k
theorem r_sipush {i : Int} (v : Int32) (X : Sd K T h cl sl) (cx : Cx K y bytes mx rt R) (hd : Dc bytes pc (.sipush i) 3 pc') (hv : (Int16.ofInt i).toInt32 = v) (k : Run K Q T (mkF K.m pc' L (.int v :: S))) : Run K Q T (mkF K.m pc L (S)) := by
  obtain ⟨locs, X0, -⟩ := X; obtain ⟨hx, -, hby, -⟩ := cx; obtain ⟨d, rfl⟩ := hd
  exact Run.st (fun t q => XT.sipushV X0.here hx rfl v (hb hby d) hv q) k
theorem r_lconst {i : Fin 2} (v : Int64) (X : Sd K T h cl sl) (cx : Cx K y bytes mx rt R) (hd : Dc bytes pc (.lconst i) 1 pc') (hv : Int64.ofNat i = v) (k : Run K Q T (mkF K.m pc' L (.long v :: S))) : Run K Q T (mkF K.m pc L (S)) := by
  obtain ⟨locs, X0, -⟩ := X; obtain ⟨hx, -, hby, -⟩ := cx; obtain ⟨d, rfl⟩ := hd
  exact Run.st (fun t q => XT.lconstV X0.here hx rfl v (hb hby d) hv q) k
theorem r_iadd {a b : Int32} (X : Sd K T h cl sl) (cx : Cx K y bytes mx rt R) (hd : Dc bytes pc .iadd 1 pc') (k : Run K Q T (mkF K.m pc' L (.int (a + b) :: S))) : Run K Q T (mkF K.m pc L (.int b :: .int a :: S)) := by
  obtain ⟨locs, X0, -⟩ := X; obtain ⟨hx, -, hby, -⟩ := cx; obtain ⟨d, rfl⟩ := hd
  exact Run.st (fun t q => XS.iadd X0.here hx rfl (hb hby d) rfl q) k
theorem r_isub {a b : Int32} (X : Sd K T h cl sl) (cx : Cx K y bytes mx rt R) (hd : Dc bytes pc .isub 1 pc') (k : Run K Q T (mkF K.m pc' L (.int (a - b) :: S))) : Run K Q T (mkF K.m pc L (.int b :: .int a :: S)) := by
  obtain ⟨locs, X0, -⟩ := X; obtain ⟨hx, -, hby, -⟩ := cx; obtain ⟨d, rfl⟩ := hd
  exact Run.st (fun t q => XS.isub X0.here hx rfl (hb hby d) rfl q) k
theorem r_imul {a b : Int32} (X : Sd K T h cl sl) (cx : Cx K y bytes mx rt R) (hd : Dc bytes pc .imul 1 pc') (k : Run K Q T (mkF K.m pc' L (.int (a * b) :: S))) : Run K Q T (mkF K.m pc L (.int b :: .int a :: S)) := by
  obtain ⟨locs, X0, -⟩ := X; obtain ⟨hx, -, hby, -⟩ := cx; obtain ⟨d, rfl⟩ := hd
  exact Run.st (fun t q => XS.imul X0.here hx rfl (hb hby d) rfl q) k
theorem r_iand {a b : Int32} (X : Sd K T h cl sl) (cx : Cx K y bytes mx rt R) (hd : Dc bytes pc .iand 1 pc') (k : Run K Q T (mkF K.m pc' L (.int (a &&& b) :: S))) : Run K Q T (mkF K.m pc L (.int b :: .int a :: S)) := by
  obtain ⟨locs, X0, -⟩ := X; obtain ⟨hx, -, hby, -⟩ := cx; obtain ⟨d, rfl⟩ := hd
  exact Run.st (fun t q => XS.iand X0.here hx rfl (hb hby d) rfl q) k
theorem r_ior {a b : Int32} (X : Sd K T h cl sl) (cx : Cx K y bytes mx rt R) (hd : Dc bytes pc .ior 1 pc') (k : Run K Q T (mkF K.m pc' L (.int (a ||| b) :: S))) : Run K Q T (mkF K.m pc L (.int b :: .int a :: S)) := by
  obtain ⟨locs, X0, -⟩ := X; obtain ⟨hx, -, hby, -⟩ := cx; obtain ⟨d, rfl⟩ := hd
  exact Run.st (fun t q => XT.ior X0.here hx rfl (hb hby d) rfl q) k
theorem r_ixor {a b : Int32} (X : Sd K T h cl sl) (cx : Cx K y bytes mx rt R) (hd : Dc bytes pc .ixor 1 pc') (k : Run K Q T (mkF K.m pc' L (.int (a ^^^ b) :: S))) : Run K Q T (mkF K.m pc L (.int b :: .int a :: S)) := by
  obtain ⟨locs, X0, -⟩ := X; obtain ⟨hx, -, hby, -⟩ := cx; obtain ⟨d, rfl⟩ := hd
  exact Run.st (fun t q => XT.ixor X0.here hx rfl (hb hby d) rfl q) k
theorem r_ishl {a b : Int32} (X : Sd K T h cl sl) (cx : Cx K y bytes mx rt R) (hd : Dc bytes pc .ishl 1 pc') (k : Run K Q T (mkF K.m pc' L (.int (a <<< (b &&& 31)) :: S))) : Run K Q T (mkF K.m pc L (.int b :: .int a :: S)) := by
  obtain ⟨locs, X0, -⟩ := X; obtain ⟨hx, -, hby, -⟩ := cx; obtain ⟨d, rfl⟩ := hd
  exact Run.st (fun t q => XT.ishl X0.here hx rfl (hb hby d) rfl q) k
theorem r_ishr {a b : Int32} (X : Sd K T h cl sl) (cx : Cx K y bytes mx rt R) (hd : Dc bytes pc .ishr 1 pc') (k : Run K Q T (mkF K.m pc' L (.int (a >>> (b &&& 31)) :: S))) : Run K Q T (mkF K.m pc L (.int b :: .int a :: S)) := by
  obtain ⟨locs, X0, -⟩ := X; obtain ⟨hx, -, hby, -⟩ := cx; obtain ⟨d, rfl⟩ := hd
  exact Run.st (fun t q => XT.ishr X0.here hx rfl (hb hby d) rfl q) k
theorem r_iushr {a b : Int32} (X : Sd K T h cl sl) (cx : Cx K y bytes mx rt R) (hd : Dc bytes pc .iushr 1 pc') (k : Run K Q T (mkF K.m pc' L (.int (XT.ushr a b) :: S))) : Run K Q T (mkF K.m pc L (.int b :: .int a :: S)) := by
  obtain ⟨locs, X0, -⟩ := X; obtain ⟨hx, -, hby, -⟩ := cx; obtain ⟨d, rfl⟩ := hd
  exact Run.st (fun t q => XT.iushr X0.here hx rfl (hb hby d) rfl q) k
theorem r_idiv {a b : Int32} (X : Sd K T h cl sl) (cx : Cx K y bytes mx rt R) (hd : Dc bytes pc .idiv 1 pc') (hne : b ≠ 0) (k : Run K Q T (mkF K.m pc' L (.int (a / b) :: S))) : Run K Q T (mkF K.m pc L (.int b :: .int a :: S)) := by
  obtain ⟨locs, X0, -⟩ := X; obtain ⟨hx, -, hby, -⟩ := cx; obtain ⟨d, rfl⟩ := hd
  exact Run.st (fun t q => XS.idiv X0.here hx rfl (hb hby d) rfl hne q) k
theorem r_irem {a b : Int32} (X : Sd K T h cl sl) (cx : Cx K y bytes mx rt R) (hd : Dc bytes pc .irem 1 pc') (hne : b ≠ 0) (k : Run K Q T (mkF K.m pc' L (.int (a - (a / b) * b) :: S))) : Run K Q T (mkF K.m pc L (.int b :: .int a :: S)) := by
  obtain ⟨locs, X0, -⟩ := X; obtain ⟨hx, -, hby, -⟩ := cx; obtain ⟨d, rfl⟩ := hd
  exact Run.st (fun t q => XS.irem X0.here hx rfl (hb hby d) rfl hne q) k
theorem r_ladd {a b : Int64} (X : Sd K T h cl sl) (cx : Cx K y bytes mx rt R) (hd : Dc bytes pc .ladd 1 pc') (k : Run K Q T (mkF K.m pc' L (.long (a + b) :: S))) : Run K Q T (mkF K.m pc L (.long b :: .long a :: S)) := by
  obtain ⟨locs, X0, -⟩ := X; obtain ⟨hx, -, hby, -⟩ := cx; obtain ⟨d, rfl⟩ := hd
  exact Run.st (fun t q => XT.ladd X0.here hx rfl (hb hby d) rfl q) k
theorem r_lsub {a b : Int64} (X : Sd K T h cl sl) (cx : Cx K y bytes mx rt R) (hd : Dc bytes pc .lsub 1 pc') (k : Run K Q T (mkF K.m pc' L (.long (a - b) :: S))) : Run K Q T (mkF K.m pc L (.long b :: .long a :: S)) := by
  obtain ⟨locs, X0, -⟩ := X; obtain ⟨hx, -, hby, -⟩ := cx; obtain ⟨d, rfl⟩ := hd
  exact Run.st (fun t q => XT.lsub X0.here hx rfl (hb hby d) rfl q) k
theorem r_lmul {a b : Int64} (X : Sd K T h cl sl) (cx : Cx K y bytes mx rt R) (hd : Dc bytes pc .lmul 1 pc') (k : Run K Q T (mkF K.m pc' L (.long (a * b) :: S))) : Run K Q T (mkF K.m pc L (.long b :: .long a :: S)) := by
  obtain ⟨locs, X0, -⟩ := X; obtain ⟨hx, -, hby, -⟩ := cx; obtain ⟨d, rfl⟩ := hd
  exact Run.st (fun t q => XT.lmul X0.here hx rfl (hb hby d) rfl q) k
theorem r_land {a b : Int64} (X : Sd K T h cl sl) (cx : Cx K y bytes mx rt R) (hd : Dc bytes pc .land 1 pc') (k : Run K Q T (mkF K.m pc' L (.long (a &&& b) :: S))) : Run K Q T (mkF K.m pc L (.long b :: .long a :: S)) := by
  obtain ⟨locs, X0, -⟩ := X; obtain ⟨hx, -, hby, -⟩ := cx; obtain ⟨d, rfl⟩ := hd
  exact Run.st (fun t q => XT.land X0.here hx rfl (hb hby d) rfl q) k
theorem r_lor {a b : Int64} (X : Sd K T h cl sl) (cx : Cx K y bytes mx rt R) (hd : Dc bytes pc .lor 1 pc') (k : Run K Q T (mkF K.m pc' L (.long (a ||| b) :: S))) : Run K Q T (mkF K.m pc L (.long b :: .long a :: S)) := by
  obtain ⟨locs, X0, -⟩ := X; obtain ⟨hx, -, hby, -⟩ := cx; obtain ⟨d, rfl⟩ := hd
  exact Run.st (fun t q => XT.lor X0.here hx rfl (hb hby d) rfl q) k
theorem r_lxor {a b : Int64} (X : Sd K T h cl sl) (cx : Cx K y bytes mx rt R) (hd : Dc bytes pc .lxor 1 pc') (k : Run K Q T (mkF K.m pc' L (.long (a ^^^ b) :: S))) : Run K Q T (mkF K.m pc L (.long b :: .long a :: S)) := by
  obtain ⟨locs, X0, -⟩ := X; obtain ⟨hx, -, hby, -⟩ := cx; obtain ⟨d, rfl⟩ := hd
  exact Run.st (fun t q => XT.lxor X0.here hx rfl (hb hby d) rfl q) k
theorem r_ldiv {a b : Int64} (X : Sd K T h cl sl) (cx : Cx K y bytes mx rt R) (hd : Dc bytes pc .ldiv 1 pc') (hne : b ≠ 0) (k : Run K Q T (mkF K.m pc' L (.long (a / b) :: S))) : Run K Q T (mkF K.m pc L (.long b :: .long a :: S)) := by
  obtain ⟨locs, X0, -⟩ := X; obtain ⟨hx, -, hby, -⟩ := cx; obtain ⟨d, rfl⟩ := hd
  exact Run.st (fun t q => XT.ldiv X0.here hx rfl (hb hby d) rfl hne q) k
theorem r_lrem {a b : Int64} (X : Sd K T h cl sl) (cx : Cx K y bytes mx rt R) (hd : Dc bytes pc .lrem 1 pc') (hne : b ≠ 0) (k : Run K Q T (mkF K.m pc' L (.long (a - (a / b) * b) :: S))) : Run K Q T (mkF K.m pc L (.long b :: .long a :: S)) := by
  obtain ⟨locs, X0, -⟩ := X; obtain ⟨hx, -, hby, -⟩ := cx; obtain ⟨d, rfl⟩ := hd
  exact Run.st (fun t q => XT.lrem X0.here hx rfl (hb hby d) rfl hne q) k
theorem r_lshl {a : Int64} {b : Int32} (X : Sd K T h cl sl) (cx : Cx K y bytes mx rt R) (hd : Dc bytes pc .lshl 1 pc') (k : Run K Q T (mkF K.m pc' L (.long (a <<< (b.toInt64 &&& 63)) :: S))) : Run K Q T (mkF K.m pc L (.int b :: .long a :: S)) := by
  obtain ⟨locs, X0, -⟩ := X; obtain ⟨hx, -, hby, -⟩ := cx; obtain ⟨d, rfl⟩ := hd
  exact Run.st (fun t q => XT.lshl X0.here hx rfl (hb hby d) rfl q) k
theorem r_lshr {a : Int64} {b : Int32} (X : Sd K T h cl sl) (cx : Cx K y bytes mx rt R) (hd : Dc bytes pc .lshr 1 pc') (k : Run K Q T (mkF K.m pc' L (.long (a >>> (b.toInt64 &&& 63)) :: S))) : Run K Q T (mkF K.m pc L (.int b :: .long a :: S)) := by
  obtain ⟨locs, X0, -⟩ := X; obtain ⟨hx, -, hby, -⟩ := cx; obtain ⟨d, rfl⟩ := hd
  exact Run.st (fun t q => XT.lshr X0.here hx rfl (hb hby d) rfl q) k
theorem r_lushr {a : Int64} {b : Int32} (X : Sd K T h cl sl) (cx : Cx K y bytes mx rt R) (hd : Dc bytes pc .lushr 1 pc') (k : Run K Q T (mkF K.m pc' L (.long (XT.ushrL a b) :: S))) : Run K Q T (mkF K.m pc L (.int b :: .long a :: S)) := by
  obtain ⟨locs, X0, -⟩ := X; obtain ⟨hx, -, hby, -⟩ := cx; obtain ⟨d, rfl⟩ := hd
  exact Run.st (fun t q => XT.lushr X0.here hx rfl (hb hby d) rfl q) k
theorem r_ineg {a : Int32} (X : Sd K T h cl sl) (cx : Cx K y bytes mx rt R) (hd : Dc bytes pc .ineg 1 pc') (k : Run K Q T (mkF K.m pc' L (.int (-a) :: S))) : Run K Q T (mkF K.m pc L (.int a :: S)) := by
  obtain ⟨locs, X0, -⟩ := X; obtain ⟨hx, -, hby, -⟩ := cx; obtain ⟨d, rfl⟩ := hd
  exact Run.st (fun t q => XS.ineg X0.here hx rfl (hb hby d) rfl q) k
theorem r_i2l {a : Int32} (X : Sd K T h cl sl) (cx : Cx K y bytes mx rt R) (hd : Dc bytes pc .i2l 1 pc') (k : Run K Q T (mkF K.m pc' L (.long a.toInt64 :: S))) : Run K Q T (mkF K.m pc L (.int a :: S)) := by
  obtain ⟨locs, X0, -⟩ := X; obtain ⟨hx, -, hby, -⟩ := cx; obtain ⟨d, rfl⟩ := hd
  exact Run.st (fun t q => XT.i2l X0.here hx rfl (hb hby d) rfl q) k
theorem r_l2i {a : Int64} (X : Sd K T h cl sl) (cx : Cx K y bytes mx rt R) (hd : Dc bytes pc .l2i 1 pc') (k : Run K Q T (mkF K.m pc' L (.int a.toInt32 :: S))) : Run K Q T (mkF K.m pc L (.long a :: S)) := by
  obtain ⟨locs, X0, -⟩ := X; obtain ⟨hx, -, hby, -⟩ := cx; obtain ⟨d, rfl⟩ := hd
  exact Run.st (fun t q => XT.l2i X0.here hx rfl (hb hby d) rfl q) k
theorem r_i2b {a : Int32} (X : Sd K T h cl sl) (cx : Cx K y bytes mx rt R) (hd : Dc bytes pc .i2b 1 pc') (k : Run K Q T (mkF K.m pc' L (.int a.toInt8.toInt32 :: S))) : Run K Q T (mkF K.m pc L (.int a :: S)) := by
  obtain ⟨locs, X0, -⟩ := X; obtain ⟨hx, -, hby, -⟩ := cx; obtain ⟨d, rfl⟩ := hd
  exact Run.st (fun t q => XT.i2b X0.here hx rfl (hb hby d) rfl q) k
theorem r_i2s {a : Int32} (X : Sd K T h cl sl) (cx : Cx K y bytes mx rt R) (hd : Dc bytes pc .i2s 1 pc') (k : Run K Q T (mkF K.m pc' L (.int a.toInt16.toInt32 :: S))) : Run K Q T (mkF K.m pc L (.int a :: S)) := by
  obtain ⟨locs, X0, -⟩ := X; obtain ⟨hx, -, hby, -⟩ := cx; obtain ⟨d, rfl⟩ := hd
  exact Run.st (fun t q => XT.i2s X0.here hx rfl (hb hby d) rfl q) k
theorem r_lcmp {a b : Int64} (X : Sd K T h cl sl) (cx : Cx K y bytes mx rt R) (hd : Dc bytes pc .lcmp 1 pc') (k : Run K Q T (mkF K.m pc' L (.int (XT.cmpL a b) :: S))) : Run K Q T (mkF K.m pc L (.long b :: .long a :: S)) := by
  obtain ⟨locs, X0, -⟩ := X; obtain ⟨hx, -, hby, -⟩ := cx; obtain ⟨d, rfl⟩ := hd
  exact Run.st (fun t q => XT.lcmp X0.here hx rfl (hb hby d) rfl q) k
theorem r_dup {v : Value} (X : Sd K T h cl sl) (cx : Cx K y bytes mx rt R) (hd : Dc bytes pc .dup 1 pc') (hc : v.category = 1) (k : Run K Q T (mkF K.m pc' L (v :: v :: S))) : Run K Q T (mkF K.m pc L (v :: S)) := by
  obtain ⟨locs, X0, -⟩ := X; obtain ⟨hx, -, hby, -⟩ := cx; obtain ⟨d, rfl⟩ := hd
  exact Run.st (fun t q => XS.dup X0.here hx rfl (hb hby d) rfl hc q) k
theorem r_pop {v : Value} (X : Sd K T h cl sl) (cx : Cx K y bytes mx rt R) (hd : Dc bytes pc .pop 1 pc') (hc : v.category = 1) (k : Run K Q T (mkF K.m pc' L (S))) : Run K Q T (mkF K.m pc L (v :: S)) := by
  obtain ⟨locs, X0, -⟩ := X; obtain ⟨hx, -, hby, -⟩ := cx; obtain ⟨d, rfl⟩ := hd
  exact Run.st (fun t q => XT.pop X0.here hx rfl (hb hby d) rfl hc q) k
theorem r_dup2 {v w : Value} (X : Sd K T h cl sl) (cx : Cx K y bytes mx rt R) (hd : Dc bytes pc .dup2 1 pc') (hc : v.category = 1) (hc2 : w.category = 1) (k : Run K Q T (mkF K.m pc' L (v :: w :: v :: w :: S))) : Run K Q T (mkF K.m pc L (v :: w :: S)) := by
  obtain ⟨locs, X0, -⟩ := X; obtain ⟨hx, -, hby, -⟩ := cx; obtain ⟨d, rfl⟩ := hd
  exact Run.st (fun t q => XT.dup2 X0.here hx rfl (hb hby d) rfl hc hc2 q) k
theorem r_dup_x1 {v w : Value} (X : Sd K T h cl sl) (cx : Cx K y bytes mx rt R) (hd : Dc bytes pc .dup_x1 1 pc') (hc : v.category = 1) (hc2 : w.category = 1) (k : Run K Q T (mkF K.m pc' L (v :: w :: v :: S))) : Run K Q T (mkF K.m pc L (v :: w :: S)) := by
  obtain ⟨locs, X0, -⟩ := X; obtain ⟨hx, -, hby, -⟩ := cx; obtain ⟨d, rfl⟩ := hd
  exact Run.st (fun t q => XT.dupX1 X0.here hx rfl (hb hby d) rfl hc hc2 q) k
theorem r_istoreN {i : Fin 4} {x : Int32} (L' : Int32 → Array Slot) (X : Sd K T h cl sl) (cx : Cx K y bytes mx rt R) (hd : Dc bytes pc (.istore_n i) 1 pc') (hl : ∀ v, storeLocals L i.val (.int v) = some (L' v)) (k : ∀ v, v = x → Run K Q T (mkF K.m pc' (L' v) S)) : Run K Q T (mkF K.m pc L (.int x :: S)) := by
  obtain ⟨locs, X0, -⟩ := X; obtain ⟨hx, -, hby, -⟩ := cx; obtain ⟨d, rfl⟩ := hd
  exact Run.st (fun t q => XS.istoreN X0.here hx rfl (hb hby d) rfl (hl x) q) (k x rfl)
theorem r_istore {i : Nat} {x : Int32} (L' : Int32 → Array Slot) (X : Sd K T h cl sl) (cx : Cx K y bytes mx rt R) (hd : Dc bytes pc (.istore i) 2 pc') (hl : ∀ v, storeLocals L i (.int v) = some (L' v)) (k : ∀ v, v = x → Run K Q T (mkF K.m pc' (L' v) S)) : Run K Q T (mkF K.m pc L (.int x :: S)) := by
  obtain ⟨locs, X0, -⟩ := X; obtain ⟨hx, -, hby, -⟩ := cx; obtain ⟨d, rfl⟩ := hd
  exact Run.st (fun t q => XS.istore X0.here hx rfl (hb hby d) rfl (hl x) q) (k x rfl)
theorem r_lstoreN {i : Fin 4} {x : Int64} (L' : Int64 → Array Slot) (X : Sd K T h cl sl) (cx : Cx K y bytes mx rt R) (hd : Dc bytes pc (.lstore_n i) 1 pc') (hl : ∀ v, storeLocals L i.val (.long v) = some (L' v)) (k : ∀ v, v = x → Run K Q T (mkF K.m pc' (L' v) S)) : Run K Q T (mkF K.m pc L (.long x :: S)) := by
  obtain ⟨locs, X0, -⟩ := X; obtain ⟨hx, -, hby, -⟩ := cx; obtain ⟨d, rfl⟩ := hd
  exact Run.st (fun t q => XT.lstoreN X0.here hx rfl (hb hby d) rfl (hl x) q) (k x rfl)
theorem r_lstore {i : Nat} {x : Int64} (L' : Int64 → Array Slot) (X : Sd K T h cl sl) (cx : Cx K y bytes mx rt R) (hd : Dc bytes pc (.lstore i) 2 pc') (hl : ∀ v, storeLocals L i (.long v) = some (L' v)) (k : ∀ v, v = x → Run K Q T (mkF K.m pc' (L' v) S)) : Run K Q T (mkF K.m pc L (.long x :: S)) := by
  obtain ⟨locs, X0, -⟩ := X; obtain ⟨hx, -, hby, -⟩ := cx; obtain ⟨d, rfl⟩ := hd
  exact Run.st (fun t q => XT.lstore X0.here hx rfl (hb hby d) rfl (hl x) q) (k x rfl)
theorem r_astoreN {i : Fin 4} {x : Addr} (L' : Array Slot) (X : Sd K T h cl sl) (cx : Cx K y bytes mx rt R) (hd : Dc bytes pc (.astore_n i) 1 pc') (hl : storeLocals L i.val (.ref x) = some L') (k : Run K Q T (mkF K.m pc' L' S)) : Run K Q T (mkF K.m pc L (.ref x :: S)) := by
  obtain ⟨locs, X0, -⟩ := X; obtain ⟨hx, -, hby, -⟩ := cx; obtain ⟨d, rfl⟩ := hd
  exact Run.st (fun t q => XS.astoreN X0.here hx rfl (hb hby d) rfl rfl hl q) k
theorem r_astore {i : Nat} {x : Addr} (L' : Array Slot) (X : Sd K T h cl sl) (cx : Cx K y bytes mx rt R) (hd : Dc bytes pc (.astore i) 2 pc') (hl : storeLocals L i (.ref x) = some L') (k : Run K Q T (mkF K.m pc' L' S)) : Run K Q T (mkF K.m pc L (.ref x :: S)) := by
  obtain ⟨locs, X0, -⟩ := X; obtain ⟨hx, -, hby, -⟩ := cx; obtain ⟨d, rfl⟩ := hd
  exact Run.st (fun t q => XS.astore X0.here hx rfl (hb hby d) rfl rfl hl q) k
theorem r_iinc {i : Nat} {cst : Int} {x : Int32} (w : Int32) (L' : Int32 → Array Slot) (X : Sd K T h cl sl) (cx : Cx K y bytes mx rt R) (hd : Dc bytes pc (.iinc i cst) 3 pc') (hv : Int32.ofInt cst = w) (ho : L[i]? = some (.val (.int x))) (hl : ∀ v, storeLocals L i (.int v) = some (L' v)) (k : ∀ v, v = x + w → Run K Q T (mkF K.m pc' (L' v) S)) : Run K Q T (mkF K.m pc L S) := by
  obtain ⟨locs, X0, -⟩ := X; obtain ⟨hx, -, hby, -⟩ := cx; obtain ⟨d, rfl⟩ := hd
  exact Run.st (fun t q => XT.iincV X0.here hx rfl w (hb hby d) hv ho (hl _) q) (k _ rfl)
theorem r_goto {o : Int} (X : Sd K T h cl sl) (cx : Cx K y bytes mx rt R) (hd : Db bytes pc (.goto o) o pc' pt) (k : Run K Q T (mkF K.m pt L S)) : Run K Q T (mkF K.m pc L S) := by
  obtain ⟨locs, X0, -⟩ := X; obtain ⟨hx, -, hby, -⟩ := cx; obtain ⟨d, -, ho, hp⟩ := hd
  exact Run.st (fun t q => XS.goto X0.here hx rfl (pc0 := pc) rfl (hb hby d) ho hp q) k
theorem r_icmpeq {o : Int} {a b : Int32} (X : Sd K T h cl sl) (cx : Cx K y bytes mx rt R) (hd : Db bytes pc (.if_icmp .eq o) o pc' pt) (k1 : a = b → Run K Q T (mkF K.m pt L S)) (k2 : ¬ a = b → Run K Q T (mkF K.m pc' L S)) : Run K Q T (mkF K.m pc L (.int b :: .int a :: S)) := by
  obtain ⟨locs, X0, -⟩ := X; obtain ⟨hx, -, hby, -⟩ := cx; obtain ⟨d, rfl, ho, hp⟩ := hd
  by_cases q : a = b
  · exact Run.st (fun t u => XS.icmpYes X0.here hx rfl (pc0 := pc) rfl (hb hby d) rfl (XT.ii_eq_t q) ho hp u) (k1 q)
  · exact Run.st (fun t u => XS.icmpNo X0.here hx rfl (hb hby d) rfl (XT.ii_eq_f q) u) (k2 q)
theorem r_ifeq {o : Int} {a : Int32} (X : Sd K T h cl sl) (cx : Cx K y bytes mx rt R) (hd : Db bytes pc (.ifCond .eq o) o pc' pt) (k1 : a = 0 → Run K Q T (mkF K.m pt L S)) (k2 : ¬ a = 0 → Run K Q T (mkF K.m pc' L S)) : Run K Q T (mkF K.m pc L (.int a :: S)) := by
  obtain ⟨locs, X0, -⟩ := X; obtain ⟨hx, -, hby, -⟩ := cx; obtain ⟨d, rfl, ho, hp⟩ := hd
  by_cases q : a = 0
  · exact Run.st (fun t u => XS.ifYes X0.here hx rfl (pc0 := pc) rfl (hb hby d) rfl (XT.i0_eq_t q) ho hp u) (k1 q)
  · exact Run.st (fun t u => XS.ifNo X0.here hx rfl (hb hby d) rfl (XT.i0_eq_f q) u) (k2 q)
theorem r_lcmpeq {o : Int} {a b : Int64} (X : Sd K T h cl sl) (cx : Cx K y bytes mx rt R) (hd : Db bytes pc (.ifCond .eq o) o pc' pt) (k1 : a = b → Run K Q T (mkF K.m pt L S)) (k2 : ¬ a = b → Run K Q T (mkF K.m pc' L S)) : Run K Q T (mkF K.m pc L (.int (XT.cmpL a b) :: S)) := by
  obtain ⟨locs, X0, -⟩ := X; obtain ⟨hx, -, hby, -⟩ := cx; obtain ⟨d, rfl, ho, hp⟩ := hd
  by_cases q : a = b
  · exact Run.st (fun t u => XS.ifYes X0.here hx rfl (pc0 := pc) rfl (hb hby d) rfl (XT.ll_eq_t q) ho hp u) (k1 q)
  · exact Run.st (fun t u => XS.ifNo X0.here hx rfl (hb hby d) rfl (XT.ll_eq_f q) u) (k2 q)
theorem r_icmpne {o : Int} {a b : Int32} (X : Sd K T h cl sl) (cx : Cx K y bytes mx rt R) (hd : Db bytes pc (.if_icmp .ne o) o pc' pt) (k1 : ¬ a = b → Run K Q T (mkF K.m pt L S)) (k2 : a = b → Run K Q T (mkF K.m pc' L S)) : Run K Q T (mkF K.m pc L (.int b :: .int a :: S)) := by
  obtain ⟨locs, X0, -⟩ := X; obtain ⟨hx, -, hby, -⟩ := cx; obtain ⟨d, rfl, ho, hp⟩ := hd
  by_cases q : a = b
  · exact Run.st (fun t u => XS.icmpNo X0.here hx rfl (hb hby d) rfl (XT.ii_ne_f q) u) (k2 q)
  · exact Run.st (fun t u => XS.icmpYes X0.here hx rfl (pc0 := pc) rfl (hb hby d) rfl (XT.ii_ne_t q) ho hp u) (k1 q)
theorem r_ifne {o : Int} {a : Int32} (X : Sd K T h cl sl) (cx : Cx K y bytes mx rt R) (hd : Db bytes pc (.ifCond .ne o) o pc' pt) (k1 : ¬ a = 0 → Run K Q T (mkF K.m pt L S)) (k2 : a = 0 → Run K Q T (mkF K.m pc' L S)) : Run K Q T (mkF K.m pc L (.int a :: S)) := by
  obtain ⟨locs, X0, -⟩ := X; obtain ⟨hx, -, hby, -⟩ := cx; obtain ⟨d, rfl, ho, hp⟩ := hd
  by_cases q : a = 0
  · exact Run.st (fun t u => XS.ifNo X0.here hx rfl (hb hby d) rfl (XT.i0_ne_f q) u) (k2 q)
  · exact Run.st (fun t u => XS.ifYes X0.here hx rfl (pc0 := pc) rfl (hb hby d) rfl (XT.i0_ne_t q) ho hp u) (k1 q)
theorem r_lcmpne {o : Int} {a b : Int64} (X : Sd K T h cl sl) (cx : Cx K y bytes mx rt R) (hd : Db bytes pc (.ifCond .ne o) o pc' pt) (k1 : ¬ a = b → Run K Q T (mkF K.m pt L S)) (k2 : a = b → Run K Q T (mkF K.m pc' L S)) : Run K Q T (mkF K.m pc L (.int (XT.cmpL a b) :: S)) := by
  obtain ⟨locs, X0, -⟩ := X; obtain ⟨hx, -, hby, -⟩ := cx; obtain ⟨d, rfl, ho, hp⟩ := hd
  by_cases q : a = b
  · exact Run.st (fun t u => XS.ifNo X0.here hx rfl (hb hby d) rfl (XT.ll_ne_f q) u) (k2 q)
  · exact Run.st (fun t u => XS.ifYes X0.here hx rfl (pc0 := pc) rfl (hb hby d) rfl (XT.ll_ne_t q) ho hp u) (k1 q)
theorem r_icmplt {o : Int} {a b : Int32} (X : Sd K T h cl sl) (cx : Cx K y bytes mx rt R) (hd : Db bytes pc (.if_icmp .lt o) o pc' pt) (k1 : a < b → Run K Q T (mkF K.m pt L S)) (k2 : ¬ a < b → Run K Q T (mkF K.m pc' L S)) : Run K Q T (mkF K.m pc L (.int b :: .int a :: S)) := by
  obtain ⟨locs, X0, -⟩ := X; obtain ⟨hx, -, hby, -⟩ := cx; obtain ⟨d, rfl, ho, hp⟩ := hd
  by_cases q : a < b
  · exact Run.st (fun t u => XS.icmpYes X0.here hx rfl (pc0 := pc) rfl (hb hby d) rfl (XT.ii_lt_t q) ho hp u) (k1 q)
  · exact Run.st (fun t u => XS.icmpNo X0.here hx rfl (hb hby d) rfl (XT.ii_lt_f q) u) (k2 q)
theorem r_iflt {o : Int} {a : Int32} (X : Sd K T h cl sl) (cx : Cx K y bytes mx rt R) (hd : Db bytes pc (.ifCond .lt o) o pc' pt) (k1 : a < 0 → Run K Q T (mkF K.m pt L S)) (k2 : ¬ a < 0 → Run K Q T (mkF K.m pc' L S)) : Run K Q T (mkF K.m pc L (.int a :: S)) := by
  obtain ⟨locs, X0, -⟩ := X; obtain ⟨hx, -, hby, -⟩ := cx; obtain ⟨d, rfl, ho, hp⟩ := hd
  by_cases q : a < 0
  · exact Run.st (fun t u => XS.ifYes X0.here hx rfl (pc0 := pc) rfl (hb hby d) rfl (XT.i0_lt_t q) ho hp u) (k1 q)
  · exact Run.st (fun t u => XS.ifNo X0.here hx rfl (hb hby d) rfl (XT.i0_lt_f q) u) (k2 q)
theorem r_lcmplt {o : Int} {a b : Int64} (X : Sd K T h cl sl) (cx : Cx K y bytes mx rt R) (hd : Db bytes pc (.ifCond .lt o) o pc' pt) (k1 : a < b → Run K Q T (mkF K.m pt L S)) (k2 : ¬ a < b → Run K Q T (mkF K.m pc' L S)) : Run K Q T (mkF K.m pc L (.int (XT.cmpL a b) :: S)) := by
  obtain ⟨locs, X0, -⟩ := X; obtain ⟨hx, -, hby, -⟩ := cx; obtain ⟨d, rfl, ho, hp⟩ := hd
  by_cases q : a < b
  · exact Run.st (fun t u => XS.ifYes X0.here hx rfl (pc0 := pc) rfl (hb hby d) rfl (XT.ll_lt_t q) ho hp u) (k1 q)
  · exact Run.st (fun t u => XS.ifNo X0.here hx rfl (hb hby d) rfl (XT.ll_lt_f q) u) (k2 q)
theorem r_icmpge {o : Int} {a b : Int32} (X : Sd K T h cl sl) (cx : Cx K y bytes mx rt R) (hd : Db bytes pc (.if_icmp .ge o) o pc' pt) (k1 : ¬ a < b → Run K Q T (mkF K.m pt L S)) (k2 : a < b → Run K Q T (mkF K.m pc' L S)) : Run K Q T (mkF K.m pc L (.int b :: .int a :: S)) := by
  obtain ⟨locs, X0, -⟩ := X; obtain ⟨hx, -, hby, -⟩ := cx; obtain ⟨d, rfl, ho, hp⟩ := hd
  by_cases q : a < b
  · exact Run.st (fun t u => XS.icmpNo X0.here hx rfl (hb hby d) rfl (XT.ii_ge_f q) u) (k2 q)
  · exact Run.st (fun t u => XS.icmpYes X0.here hx rfl (pc0 := pc) rfl (hb hby d) rfl (XT.ii_ge_t q) ho hp u) (k1 q)
theorem r_ifge {o : Int} {a : Int32} (X : Sd K T h cl sl) (cx : Cx K y bytes mx rt R) (hd : Db bytes pc (.ifCond .ge o) o pc' pt) (k1 : ¬ a < 0 → Run K Q T (mkF K.m pt L S)) (k2 : a < 0 → Run K Q T (mkF K.m pc' L S)) : Run K Q T (mkF K.m pc L (.int a :: S)) := by
  obtain ⟨locs, X0, -⟩ := X; obtain ⟨hx, -, hby, -⟩ := cx; obtain ⟨d, rfl, ho, hp⟩ := hd
  by_cases q : a < 0
  · exact Run.st (fun t u => XS.ifNo X0.here hx rfl (hb hby d) rfl (XT.i0_ge_f q) u) (k2 q)
  · exact Run.st (fun t u => XS.ifYes X0.here hx rfl (pc0 := pc) rfl (hb hby d) rfl (XT.i0_ge_t q) ho hp u) (k1 q)
theorem r_lcmpge {o : Int} {a b : Int64} (X : Sd K T h cl sl) (cx : Cx K y bytes mx rt R) (hd : Db bytes pc (.ifCond .ge o) o pc' pt) (k1 : ¬ a < b → Run K Q T (mkF K.m pt L S)) (k2 : a < b → Run K Q T (mkF K.m pc' L S)) : Run K Q T (mkF K.m pc L (.int (XT.cmpL a b) :: S)) := by
  obtain ⟨locs, X0, -⟩ := X; obtain ⟨hx, -, hby, -⟩ := cx; obtain ⟨d, rfl, ho, hp⟩ := hd
  by_cases q : a < b
  · exact Run.st (fun t u => XS.ifNo X0.here hx rfl (hb hby d) rfl (XT.ll_ge_f q) u) (k2 q)
  · exact Run.st (fun t u => XS.ifYes X0.here hx rfl (pc0 := pc) rfl (hb hby d) rfl (XT.ll_ge_t q) ho hp u) (k1 q)
theorem r_icmpgt {o : Int} {a b : Int32} (X : Sd K T h cl sl) (cx : Cx K y bytes mx rt R) (hd : Db bytes pc (.if_icmp .gt o) o pc' pt) (k1 : b < a → Run K Q T (mkF K.m pt L S)) (k2 : ¬ b < a → Run K Q T (mkF K.m pc' L S)) : Run K Q T (mkF K.m pc L (.int b :: .int a :: S)) := by
  obtain ⟨locs, X0, -⟩ := X; obtain ⟨hx, -, hby, -⟩ := cx; obtain ⟨d, rfl, ho, hp⟩ := hd
  by_cases q : b < a
  · exact Run.st (fun t u => XS.icmpYes X0.here hx rfl (pc0 := pc) rfl (hb hby d) rfl (XT.ii_gt_t q) ho hp u) (k1 q)
  · exact Run.st (fun t u => XS.icmpNo X0.here hx rfl (hb hby d) rfl (XT.ii_gt_f q) u) (k2 q)
theorem r_ifgt {o : Int} {a : Int32} (X : Sd K T h cl sl) (cx : Cx K y bytes mx rt R) (hd : Db bytes pc (.ifCond .gt o) o pc' pt) (k1 : 0 < a → Run K Q T (mkF K.m pt L S)) (k2 : ¬ 0 < a → Run K Q T (mkF K.m pc' L S)) : Run K Q T (mkF K.m pc L (.int a :: S)) := by
  obtain ⟨locs, X0, -⟩ := X; obtain ⟨hx, -, hby, -⟩ := cx; obtain ⟨d, rfl, ho, hp⟩ := hd
  by_cases q : 0 < a
  · exact Run.st (fun t u => XS.ifYes X0.here hx rfl (pc0 := pc) rfl (hb hby d) rfl (XT.i0_gt_t q) ho hp u) (k1 q)
  · exact Run.st (fun t u => XS.ifNo X0.here hx rfl (hb hby d) rfl (XT.i0_gt_f q) u) (k2 q)
theorem r_lcmpgt {o : Int} {a b : Int64} (X : Sd K T h cl sl) (cx : Cx K y bytes mx rt R) (hd : Db bytes pc (.ifCond .gt o) o pc' pt) (k1 : b < a → Run K Q T (mkF K.m pt L S)) (k2 : ¬ b < a → Run K Q T (mkF K.m pc' L S)) : Run K Q T (mkF K.m pc L (.int (XT.cmpL a b) :: S)) := by
  obtain ⟨locs, X0, -⟩ := X; obtain ⟨hx, -, hby, -⟩ := cx; obtain ⟨d, rfl, ho, hp⟩ := hd
  by_cases q : b < a
  · exact Run.st (fun t u => XS.ifYes X0.here hx rfl (pc0 := pc) rfl (hb hby d) rfl (XT.ll_gt_t q) ho hp u) (k1 q)
  · exact Run.st (fun t u => XS.ifNo X0.here hx rfl (hb hby d) rfl (XT.ll_gt_f q) u) (k2 q)
theorem r_icmple {o : Int} {a b : Int32} (X : Sd K T h cl sl) (cx : Cx K y bytes mx rt R) (hd : Db bytes pc (.if_icmp .le o) o pc' pt) (k1 : ¬ b < a → Run K Q T (mkF K.m pt L S)) (k2 : b < a → Run K Q T (mkF K.m pc' L S)) : Run K Q T (mkF K.m pc L (.int b :: .int a :: S)) := by
  obtain ⟨locs, X0, -⟩ := X; obtain ⟨hx, -, hby, -⟩ := cx; obtain ⟨d, rfl, ho, hp⟩ := hd
  by_cases q : b < a
  · exact Run.st (fun t u => XS.icmpNo X0.here hx rfl (hb hby d) rfl (XT.ii_le_f q) u) (k2 q)
  · exact Run.st (fun t u => XS.icmpYes X0.here hx rfl (pc0 := pc) rfl (hb hby d) rfl (XT.ii_le_t q) ho hp u) (k1 q)
theorem r_ifle {o : Int} {a : Int32} (X : Sd K T h cl sl) (cx : Cx K y bytes mx rt R) (hd : Db bytes pc (.ifCond .le o) o pc' pt) (k1 : ¬ 0 < a → Run K Q T (mkF K.m pt L S)) (k2 : 0 < a → Run K Q T (mkF K.m pc' L S)) : Run K Q T (mkF K.m pc L (.int a :: S)) := by
  obtain ⟨locs, X0, -⟩ := X; obtain ⟨hx, -, hby, -⟩ := cx; obtain ⟨d, rfl, ho, hp⟩ := hd
  by_cases q : 0 < a
  · exact Run.st (fun t u => XS.ifNo X0.here hx rfl (hb hby d) rfl (XT.i0_le_f q) u) (k2 q)
  · exact Run.st (fun t u => XS.ifYes X0.here hx rfl (pc0 := pc) rfl (hb hby d) rfl (XT.i0_le_t q) ho hp u) (k1 q)
theorem r_lcmple {o : Int} {a b : Int64} (X : Sd K T h cl sl) (cx : Cx K y bytes mx rt R) (hd : Db bytes pc (.ifCond .le o) o pc' pt) (k1 : ¬ b < a → Run K Q T (mkF K.m pt L S)) (k2 : b < a → Run K Q T (mkF K.m pc' L S)) : Run K Q T (mkF K.m pc L (.int (XT.cmpL a b) :: S)) := by
  obtain ⟨locs, X0, -⟩ := X; obtain ⟨hx, -, hby, -⟩ := cx; obtain ⟨d, rfl, ho, hp⟩ := hd
  by_cases q : b < a
  · exact Run.st (fun t u => XS.ifNo X0.here hx rfl (hb hby d) rfl (XT.ll_le_f q) u) (k2 q)
  · exact Run.st (fun t u => XS.ifYes X0.here hx rfl (pc0 := pc) rfl (hb hby d) rfl (XT.ll_le_t q) ho hp u) (k1 q)
theorem r_ldc {i : Nat} {v : Int32} {a0 : Array Value} (X : Sd K T h cl sl) (cx : Cx K y bytes mx rt R) (hd : Dc bytes pc (.ldc i) 2 pc') (w : (Cond.constant y.cls i v).before a0 K.Z = true) (k : Run K Q T (mkF K.m pc' L (.int v :: S))) : Run K Q T (mkF K.m pc L S) := by
  obtain ⟨locs, X0, -⟩ := X; obtain ⟨hx, hZ, hby, -, hown, -⟩ := cx; obtain ⟨d, rfl⟩ := hd
  exact Run.st (fun t q => Jvm.Stand.ldcI X0 hx hown (mv hZ w) rfl (hb hby d) q) k
theorem r_ldcW {i : Nat} {v : Int32} {a0 : Array Value} (X : Sd K T h cl sl) (cx : Cx K y bytes mx rt R) (hd : Dc bytes pc (.ldc_w i) 3 pc') (w : (Cond.constant y.cls i v).before a0 K.Z = true) (k : Run K Q T (mkF K.m pc' L (.int v :: S))) : Run K Q T (mkF K.m pc L S) := by
  obtain ⟨locs, X0, -⟩ := X; obtain ⟨hx, hZ, hby, -, hown, -⟩ := cx; obtain ⟨d, rfl⟩ := hd
  exact Run.st (fun t q => Jvm.Stand.ldcWI X0 hx hown (mv hZ w) rfl (hb hby d) q) k
theorem r_ldc2 {i : Nat} {v : Int64} {a0 : Array Value} (X : Sd K T h cl sl) (cx : Cx K y bytes mx rt R) (hd : Dc bytes pc (.ldc2_w i) 3 pc') (w : (Cond.constantLong y.cls i v).before a0 K.Z = true) (k : Run K Q T (mkF K.m pc' L (.long v :: S))) : Run K Q T (mkF K.m pc L S) := by
  obtain ⟨locs, X0, -⟩ := X; obtain ⟨hx, hZ, hby, -, hown, -⟩ := cx; obtain ⟨d, rfl⟩ := hd
  exact Run.st (fun t q => Jvm.Stand.ldc2J X0 hx hown (mv hZ w) rfl (hb hby d) q) k
theorem fin {v : Option Value} (X : Sd K T h cl sl) (cx : Cx K y bytes mx rt R) (hv : rt = none → v = none) (hc : cl ≤ R.cells) (hs : sl ≤ R.slots) (hq : Q v h) {g : JFrame}
    (st : ∀ fs, (∀ (f : JFrame) (acts : List Action), f.method = K.m → f.locked = none → f.entered = [] → (doReturn K.e (T.setTop f) acts v).1 = T.setFrames fs) → Steps K.p.tables K.e K.below (T.setTop g) (T.setFrames fs)) : Run K Q T g := by
  obtain ⟨locs, X0, N, hz, eT⟩ := X
  obtain ⟨hx, hZ, hby, hml, hown, hret, hlk, hR, hnm⟩ := cx
  obtain ⟨fs, hr, hrun, hended, hW, hsame⟩ := X0.leave (v := v) (fun q => hv (hret.symm.trans q)) hlk
  refine ⟨_, v, locs, st fs hr, hrun, hended, ?_, N, ⟨_, rfl⟩, hW, hsame.mono (by rw [hR]; exact hc) (by rw [hR]; exact hs)⟩
  show Q v T.heap
  rw [eT]; exact hq
theorem r_ireturn {z : Int32} (X : Sd K T h cl sl) (cx : Cx K y bytes mx (some .int) R) (hd : Dc bytes pc .ireturn 1 pc') (hc : cl ≤ R.cells) (hs : sl ≤ R.slots) (hq : Q (some (.int z)) h) : Run K Q T (mkF K.m pc L (.int z :: S)) := by
  refine fin X cx (fun q => nomatch q) hc hs hq fun fs hr => ?_
  obtain ⟨locs, X0, -⟩ := X; obtain ⟨hx, -, hby, -, -, hret, -⟩ := cx; obtain ⟨d, rfl⟩ := hd
  exact retI X0 hx hret (hb hby d) hr
theorem r_zreturn {z : Int32} (X : Sd K T h cl sl) (cx : Cx K y bytes mx (some .boolean) R) (hd : Dc bytes pc .ireturn 1 pc') (hc : cl ≤ R.cells) (hs : sl ≤ R.slots) (hq : Q (some (.int (nar .boolean z))) h) : Run K Q T (mkF K.m pc L (.int z :: S)) := by
  refine fin X cx (fun q => nomatch q) hc hs hq fun fs hr => ?_
  obtain ⟨locs, X0, -⟩ := X; obtain ⟨hx, -, hby, -, -, hret, -⟩ := cx; obtain ⟨d, rfl⟩ := hd
  exact retN X0 hx (t := .boolean) hret (by simp) (hb hby d) hr
theorem r_lreturn {z : Int64} (X : Sd K T h cl sl) (cx : Cx K y bytes mx (some .long) R) (hd : Dc bytes pc .lreturn 1 pc') (hc : cl ≤ R.cells) (hs : sl ≤ R.slots) (hq : Q (some (.long z)) h) : Run K Q T (mkF K.m pc L [.long z]) := by
  refine fin X cx (fun q => nomatch q) hc hs hq fun fs hr => ?_
  obtain ⟨locs, X0, -⟩ := X; obtain ⟨hx, -, hby, -, -, hret, -⟩ := cx; obtain ⟨d, rfl⟩ := hd
  exact X0.lreturnOut hx hret (hb hby d) hr
theorem r_areturn {z : Addr} {ty : FieldType} (X : Sd K T h cl sl) (cx : Cx K y bytes mx (some ty) R) (hty : ty.isReference = true) (hd : Dc bytes pc .areturn 1 pc') (hc : cl ≤ R.cells) (hs : sl ≤ R.slots) (hq : Q (some (.ref z)) h) : Run K Q T (mkF K.m pc L [.ref z]) := by
  refine fin X cx (fun q => nomatch q) hc hs hq fun fs hr => ?_
  obtain ⟨locs, X0, -⟩ := X; obtain ⟨hx, -, hby, -, -, hret, -⟩ := cx; obtain ⟨d, rfl⟩ := hd
  exact X0.areturnOut hx rfl hret hty (hb hby d) hr
theorem r_return (X : Sd K T h cl sl) (cx : Cx K y bytes mx none R) (hd : Dc bytes pc .return_ 1 pc') (hc : cl ≤ R.cells) (hs : sl ≤ R.slots) (hq : Q none h) : Run K Q T (mkF K.m pc L []) := by
  refine fin X cx (fun _ => rfl) hc hs hq fun fs hr => ?_
  obtain ⟨locs, X0, -⟩ := X; obtain ⟨hx, -, hby, -, -, hret, -⟩ := cx; obtain ⟨d, rfl⟩ := hd
  exact X0.returnOut hx hret (hb hby d) hr
/-! fields -/
theorem r_getfield {O n d : String} {i : Nat} {a : Addr} {v : Value} {a0 : Array Value} (X : Sd K T h cl sl) (cx : Cx K y bytes mx rt R) (hd : Dc bytes pc (.getfield i) 3 pc') (w : (Cond.fieldLink y.cls i O n d).before a0 K.Z = true) (F : Fld K.Z h a O n d v) (k : ∀ T', Sd K T' h cl sl → Run K Q T' (mkF K.m pc' L (v :: S))) : Run K Q T (mkF K.m pc L (.ref a :: S)) := by
  obtain ⟨locs, X0, N, hz, eT⟩ := X; obtain ⟨hx, hZ, hby, -, hown, -⟩ := cx; obtain ⟨dd, rfl⟩ := hd
  obtain ⟨T1, X1, e1, st1⟩ := getF X0 hx hZ hown (host := "") (Or.inl w) Via.refl eT F (g := mkF K.m pc L (.ref a :: S)) rfl rfl (hb hby dd)
  exact Run.st st1 (k T1 ⟨locs, X1, N, hz, e1⟩)
theorem r_getfieldN {O n d host : String} {i : Nat} {a : Addr} {v : Value} {a0 : Array Value} (X : Sd K T h cl sl) (cx : Cx K y bytes mx rt R) (hd : Dc bytes pc (.getfield i) 3 pc') (w : (Cond.fieldLinkNest y.cls i O n d host).before a0 K.Z = true) (F : Fld K.Z h a O n d v) (k : ∀ T', Sd K T' h cl sl → Run K Q T' (mkF K.m pc' L (v :: S))) : Run K Q T (mkF K.m pc L (.ref a :: S)) := by
  obtain ⟨locs, X0, N, hz, eT⟩ := X; obtain ⟨hx, hZ, hby, -, hown, -⟩ := cx; obtain ⟨dd, rfl⟩ := hd
  obtain ⟨T1, X1, e1, st1⟩ := getF X0 hx hZ hown (host := host) (Or.inr w) Via.refl eT F (g := mkF K.m pc L (.ref a :: S)) rfl rfl (hb hby dd)
  exact Run.st st1 (k T1 ⟨locs, X1, N, hz, e1⟩)
theorem r_putfield {O n d C : String} {i kk : Nat} {a : Addr} {v old : Value} {ty : FieldType} {a0 : Array Value} (X : Sd K T h cl sl) (cx : Cx K y bytes mx rt R) (hd : Dc bytes pc (.putfield i) 3 pc') (w : (Cond.fieldLink y.cls i O n d).before a0 K.Z = true) (F : Fld K.Z h a O n d old) (E : Exa K.Z h a C) (hL : (Cond.lays C O n d).before a0 K.Z = true ∨ ((Cond.laysFinal C O n d).before a0 K.Z = true ∧ y.cls = O ∧ y.name = "<init>")) (wi : (Cond.instantiable C kk).before a0 K.Z = true)
    (hty : parseFieldDescriptor d = some ty) (hn : narrow ty v = v) (hf : fits ty v = true) (ge : K.n0 ≤ a) (k : ∀ T' h', Sd K T' h' cl sl → Wr h h' a (Jvm.RoadKit.slotOf K.Z O n d) v → Fld K.Z h' a O n d v → Run K Q T' (mkF K.m pc' L S)) : Run K Q T (mkF K.m pc L (v :: .ref a :: S)) := by
  obtain ⟨locs, X0, N, hz, eT⟩ := X; obtain ⟨hx, hZ, hby, -, hown, -, -, -, hnm⟩ := cx; obtain ⟨dd, rfl⟩ := hd
  obtain ⟨T1, h1, X1, e1, W1, st1⟩ := putF X0 hx hZ hown (host := "") (Or.inl w) Via.refl eT F E (hL.imp id fun q => ⟨q.1, q.2.1, hnm.trans q.2.2⟩) wi hty hn hf (g := mkF K.m pc L (v :: .ref a :: S)) rfl rfl (hb hby dd)
  exact Run.st st1 (k T1 h1 ⟨_, X1, Fr.snoc X1 N ge, by rw [W1.size]; exact hz, e1⟩ W1 (F.same W1))
theorem r_new {C : String} {i n : Nat} {a0 : Array Value} (X : Sd K T h cl sl) (cx : Cx K y bytes mx rt R) (hd : Dc bytes pc (.new i) 3 pc') (w : (Cond.classLink y.cls i C).before a0 K.Z = true) (wi : (Cond.instantiable C n).before a0 K.Z = true) (wz : (Cond.initialized C).before a0 K.Z = true) (hc : cl + 1 ≤ R.cells) (hs : sl + n ≤ R.slots)
    (k : ∀ T' h' a, a = h.size → K.n0 ≤ a → Sd K T' h' (cl + 1) (sl + n) → Ext h h' → Exa K.Z h' a C → (∀ {O nm d : String} {ty : FieldType}, Laid K.Z a0 C O nm d → parseFieldDescriptor d = some ty → Fld K.Z h' a O nm d (defaultValue ty)) → Run K Q T' (mkF K.m pc' L (.ref a :: S))) : Run K Q T (mkF K.m pc L S) := by
  obtain ⟨locs, X0, N, hz, eT⟩ := X; obtain ⟨hx, hZ, hby, -, hown, -, -, hR, -⟩ := cx; obtain ⟨dd, rfl⟩ := hd
  obtain ⟨T1, h1, X1, e1, E1, A1, D1, -, st1⟩ := newO X0 hx hZ hown w wi wz eT (g := mkF K.m pc L S) rfl (hb hby dd) (by rw [hR]; exact hc) (by rw [hR]; exact hs)
  exact Run.st st1 (k T1 h1 h.size rfl hz ⟨locs, X1, N, Nat.le_trans hz E1.1, e1⟩ E1 A1 D1)
theorem r_initO {i : Nat} {a : Addr} {a0 : Array Value} (X : Sd K T h cl sl) (cx : Cx K y bytes mx rt R) (hd : Dc bytes pc (.invokespecial i) 3 pc') (w1 : (Cond.methodLink y.cls i Lib.objectInit).before a0 K.Z = true) (w2 : (Cond.instanceMethod Lib.objectInit).before a0 K.Z = true) (w3 : (Cond.code Lib.objectInit ⟨#[0xb1]⟩ 1 none).before a0 K.Z = true) (hsz : L.size = mx) (hf : 1 ≤ R.frames) (hl : (S.map fun v => v.category).sum + 12 ≤ R.locals) (k : ∀ T', Sd K T' h cl sl → Run K Q T' (mkF K.m pc' L S)) : Run K Q T (mkF K.m pc L (.ref a :: S)) := by
  obtain ⟨locs, X0, N, hz, eT⟩ := X; obtain ⟨hx, hZ, hby, hml, hown, -, -, hR, -⟩ := cx; obtain ⟨dd, rfl⟩ := hd
  obtain ⟨T1, X1, e1, st1⟩ := initO X0 hx hZ hown w1 w2 w3 eT (g := mkF K.m pc L (.ref a :: S)) rfl (by rw [hml]; exact hsz) rfl (hb hby dd) (by rw [hR]; exact hf) (W := (S.map fun v => v.category).sum) (by show 2 * 0 + _ ≤ _; omega) (by rw [hR]; exact hl)
  exact Run.st st1 (k T1 ⟨locs, X1, N, hz, e1⟩)
end Rules
/-! arrays: their whole list of values -/
def AV (Z : State) (h : Heap) (a : Addr) (ty : FieldType) (vs : List Value) : Prop := ∃ c : Cell, Arr Z h a c ty ∧ c.slots.toList = vs ∧ vs.length < 2 ^ 31
def AI (ty : FieldType) (Z : State) (h : Heap) (a : Addr) (xs : List Int32) : Prop := AV Z h a ty (xs.map Value.int)
def AJ (Z : State) (h : Heap) (a : Addr) (xs : List Int64) : Prop := AV Z h a .long (xs.map Value.long)
theorem AV.ext {Z : State} {h h' : Heap} {a : Addr} {ty : FieldType} {vs : List Value} (A : AV Z h a ty vs) (E : Ext h h') : AV Z h' a ty vs := by obtain ⟨c, q, r⟩ := A; exact ⟨c, q.ext E, r⟩
theorem AV.other {Z : State} {h h' : Heap} {a b : Addr} {ty : FieldType} {vs : List Value} {sl : Nat} {v : Value} (A : AV Z h a ty vs) (W : Wr h h' b sl v) (q : a ≠ b) : AV Z h' a ty vs := by obtain ⟨c, u, r⟩ := A; exact ⟨c, u.other W q, r⟩
theorem AV.keep {Z : State} {h h' : Heap} {a : Addr} {ty : FieldType} {vs : List Value} {ws : List Addr} (A : AV Z h a ty vs) (k : Keep h h' ws) (q : a ∉ ws) : AV Z h' a ty vs := by obtain ⟨c, u, r⟩ := A; exact ⟨c, ⟨k.2.1 a c u.1 q, u.2⟩, r⟩
theorem AV.lt {Z : State} {h : Heap} {a : Addr} {ty : FieldType} {vs : List Value} (A : AV Z h a ty vs) : a < h.size := by obtain ⟨c, u, r⟩ := A; exact u.lt
theorem AV.len {Z : State} {h : Heap} {a : Addr} {ty : FieldType} {vs : List Value} (A : AV Z h a ty vs) : vs.length < 2 ^ 31 := by obtain ⟨c, u, r, q⟩ := A; exact q
theorem AV.set {Z : State} {h h' : Heap} {a : Addr} {ty : FieldType} {vs : List Value} {n : Nat} {v : Value} (A : AV Z h a ty vs) (W : Wr h h' a n v) : AV Z h' a ty (vs.set n v) := by
  obtain ⟨c, u, r, q⟩ := A
  refine ⟨_, u.same W, ?_, by simpa using q⟩
  subst r
  simp [Cell.setSlot]
section
variable {ty : FieldType} {Z : State} {h h' : Heap} {a b : Addr} {xs : List Int32} {zs : List Int64} {sl : Nat} {v : Value} {ws : List Addr}
theorem AI.ext (A : AI ty Z h a xs) (E : Ext h h') : AI ty Z h' a xs := AV.ext A E
theorem AI.other (A : AI ty Z h a xs) (W : Wr h h' b sl v) (q : a ≠ b) : AI ty Z h' a xs := AV.other A W q
theorem AI.keep (A : AI ty Z h a xs) (k : Keep h h' ws) (q : a ∉ ws) : AI ty Z h' a xs := AV.keep A k q
theorem AI.lt (A : AI ty Z h a xs) : a < h.size := AV.lt A
theorem AI.len (A : AI ty Z h a xs) : xs.length < 2 ^ 31 := by simpa using AV.len A
theorem AI.set {n : Nat} {x : Int32} (A : AI ty Z h a xs) (W : Wr h h' a n (.int x)) : AI ty Z h' a (xs.set n x) := by
  have q := AV.set A W
  show AV Z h' a ty ((xs.set n x).map Value.int)
  rw [List.map_set]; exact q
theorem AJ.ext (A : AJ Z h a zs) (E : Ext h h') : AJ Z h' a zs := AV.ext A E
theorem AJ.other (A : AJ Z h a zs) (W : Wr h h' b sl v) (q : a ≠ b) : AJ Z h' a zs := AV.other A W q
theorem AJ.keep (A : AJ Z h a zs) (k : Keep h h' ws) (q : a ∉ ws) : AJ Z h' a zs := AV.keep A k q
theorem AJ.lt (A : AJ Z h a zs) : a < h.size := AV.lt A
theorem AJ.len (A : AJ Z h a zs) : zs.length < 2 ^ 31 := by simpa using AV.len A
theorem AJ.set {n : Nat} {x : Int64} (A : AJ Z h a zs) (W : Wr h h' a n (.long x)) : AJ Z h' a (zs.set n x) := by
  have q := AV.set A W
  show AV Z h' a .long ((zs.set n x).map Value.long)
  rw [List.map_set]; exact q
end
theorem ofNat_neg {n : Nat} (hn : n < 2 ^ 31) : ¬ Int32.ofNat n < 0 := by
  rw [Int32.lt_iff_toInt_lt, Int32.toInt_ofNat_of_lt hn]
  show ¬ (n : Int) < 0
  omega
theorem ofNat_clamp {n : Nat} (hn : n < 2 ^ 31) : (Int32.ofNat n).toNatClampNeg = n := by
  show (Int32.ofNat n).toInt.toNat = n
  rw [Int32.toInt_ofNat_of_lt hn]; rfl
section Rules
variable {K : KT} {Q : Option Value → Heap → Prop} {T : State} {h : Heap} {cl sl : Nat} {y : MethodName} {bytes : ByteArray} {mx : Nat} {rt : Option FieldType} {R : Room} {pc pc' pt : Nat} {L : Array Slot} {S : List Value}
theorem r_arraylength {ty : FieldType} {vs : List Value} {a : Addr} (X : Sd K T h cl sl) (cx : Cx K y bytes mx rt R) (hd : Dc bytes pc .arraylength 1 pc') (A : AV K.Z h a ty vs) (k : Run K Q T (mkF K.m pc' L (.int (Int32.ofNat vs.length) :: S))) : Run K Q T (mkF K.m pc L (.ref a :: S)) := by
  obtain ⟨locs, X0, N, hz, eT⟩ := X; obtain ⟨hx, hZ, hby, -, hown, -⟩ := cx; obtain ⟨dd, rfl⟩ := hd
  obtain ⟨c, Ar, hc, hlen⟩ := A
  have hs : c.slots.size = vs.length := by rw [← hc]; simp
  refine Run.st (X0.arraylength hx (cell := c) (by rw [eT]; exact Ar.1) (State.isArrayOf_alike hZ.alike Ar.2.1) (g := mkF K.m pc L (.ref a :: S)) rfl (rest := S) rfl (hb hby dd)) ?_
  rw [hs]; exact k
theorem r_alen {ty : FieldType} {xs : List Int32} {a : Addr} (X : Sd K T h cl sl) (cx : Cx K y bytes mx rt R) (hd : Dc bytes pc .arraylength 1 pc') (A : AI ty K.Z h a xs) (n : Nat) (hn : xs.length = n) (k : Run K Q T (mkF K.m pc' L (.int (Int32.ofNat n) :: S))) : Run K Q T (mkF K.m pc L (.ref a :: S)) :=
  r_arraylength X cx hd A (by rw [List.length_map, hn]; exact k)
theorem r_alenJ {xs : List Int64} {a : Addr} (X : Sd K T h cl sl) (cx : Cx K y bytes mx rt R) (hd : Dc bytes pc .arraylength 1 pc') (A : AJ K.Z h a xs) (n : Nat) (hn : xs.length = n) (k : Run K Q T (mkF K.m pc' L (.int (Int32.ofNat n) :: S))) : Run K Q T (mkF K.m pc L (.ref a :: S)) :=
  r_arraylength X cx hd A (by rw [List.length_map, hn]; exact k)
theorem r_iaload {xs : List Int32} {a : Addr} {j : Int32} {v : Int32} (X : Sd K T h cl sl) (cx : Cx K y bytes mx rt R) (hd : Dc bytes pc .iaload 1 pc') (A : AI .int K.Z h a xs) (n : Nat) (hj : j = Int32.ofNat n) (hv : xs[n]? = some v) (k : Run K Q T (mkF K.m pc' L (.int v :: S))) : Run K Q T (mkF K.m pc L (.int j :: .ref a :: S)) := by
  obtain ⟨locs, X0, N, hz, eT⟩ := X; obtain ⟨hx, hZ, hby, -, hown, -⟩ := cx; obtain ⟨dd, rfl⟩ := hd
  obtain ⟨c, Ar, hc, hlen⟩ := A
  have hs : c.slots.size = xs.length := by have := congrArg List.length hc; simpa using this
  have hl : n < xs.length := (List.getElem?_eq_some_iff.mp hv).1
  have hn : n < 2 ^ 31 := by simp at hlen; omega
  subst hj
  have e1 := ofNat_clamp hn
  have hat : c.slots[(Int32.ofNat n).toNatClampNeg]? = some (.int v) := by
    rw [e1, ← Array.getElem?_toList, hc, List.getElem?_map, hv]; rfl
  exact Run.st (X0.iaload hx (cell := c) (by rw [eT]; exact Ar.1) (State.isArrayOf_alike hZ.alike Ar.2.1) Ar.2.2 (by rw [e1, hs]; intro q; rcases q with q | q; exact ofNat_neg hn q; omega) hat (g := mkF K.m pc L (.int (Int32.ofNat n) :: .ref a :: S)) rfl rfl (hb hby dd)) k
theorem r_saload {xs : List Int32} {a : Addr} {j : Int32} {v : Int32} (X : Sd K T h cl sl) (cx : Cx K y bytes mx rt R) (hd : Dc bytes pc .saload 1 pc') (A : AI .short K.Z h a xs) (n : Nat) (hj : j = Int32.ofNat n) (hv : xs[n]? = some v) (k : Run K Q T (mkF K.m pc' L (.int v :: S))) : Run K Q T (mkF K.m pc L (.int j :: .ref a :: S)) := by
  obtain ⟨locs, X0, N, hz, eT⟩ := X; obtain ⟨hx, hZ, hby, -, hown, -⟩ := cx; obtain ⟨dd, rfl⟩ := hd
  obtain ⟨c, Ar, hc, hlen⟩ := A
  have hs : c.slots.size = xs.length := by have := congrArg List.length hc; simpa using this
  have hl : n < xs.length := (List.getElem?_eq_some_iff.mp hv).1
  have hn : n < 2 ^ 31 := by simp at hlen; omega
  subst hj
  have e1 := ofNat_clamp hn
  have hat : c.slots[(Int32.ofNat n).toNatClampNeg]? = some (.int v) := by
    rw [e1, ← Array.getElem?_toList, hc, List.getElem?_map, hv]; rfl
  exact Run.st (X0.saload hx (cell := c) (by rw [eT]; exact Ar.1) (State.isArrayOf_alike hZ.alike Ar.2.1) Ar.2.2 (by rw [e1, hs]; intro q; rcases q with q | q; exact ofNat_neg hn q; omega) hat (g := mkF K.m pc L (.int (Int32.ofNat n) :: .ref a :: S)) rfl rfl (hb hby dd)) k
theorem r_baload {xs : List Int32} {a : Addr} {j : Int32} {v : Int32} (X : Sd K T h cl sl) (cx : Cx K y bytes mx rt R) (hd : Dc bytes pc .baload 1 pc') (A : AI .byte K.Z h a xs) (n : Nat) (hj : j = Int32.ofNat n) (hv : xs[n]? = some v) (k : Run K Q T (mkF K.m pc' L (.int v :: S))) : Run K Q T (mkF K.m pc L (.int j :: .ref a :: S)) := by
  obtain ⟨locs, X0, N, hz, eT⟩ := X; obtain ⟨hx, hZ, hby, -, hown, -⟩ := cx; obtain ⟨dd, rfl⟩ := hd
  obtain ⟨c, Ar, hc, hlen⟩ := A
  have hs : c.slots.size = xs.length := by have := congrArg List.length hc; simpa using this
  have hl : n < xs.length := (List.getElem?_eq_some_iff.mp hv).1
  have hn : n < 2 ^ 31 := by simp at hlen; omega
  subst hj
  have e1 := ofNat_clamp hn
  have hat : c.slots[(Int32.ofNat n).toNatClampNeg]? = some (.int v) := by
    rw [e1, ← Array.getElem?_toList, hc, List.getElem?_map, hv]; rfl
  exact Run.st (X0.baloadBytes hx (cell := c) (by rw [eT]; exact Ar.1) (State.isArrayOf_alike hZ.alike Ar.2.1) Ar.2.2 (by rw [e1, hs]; intro q; rcases q with q | q; exact ofNat_neg hn q; omega) hat (g := mkF K.m pc L (.int (Int32.ofNat n) :: .ref a :: S)) rfl rfl (hb hby dd)) k
theorem r_laload {xs : List Int64} {a : Addr} {j : Int32} {v : Int64} (X : Sd K T h cl sl) (cx : Cx K y bytes mx rt R) (hd : Dc bytes pc .laload 1 pc') (A : AJ K.Z h a xs) (n : Nat) (hj : j = Int32.ofNat n) (hv : xs[n]? = some v) (k : Run K Q T (mkF K.m pc' L (.long v :: S))) : Run K Q T (mkF K.m pc L (.int j :: .ref a :: S)) := by
  obtain ⟨locs, X0, N, hz, eT⟩ := X; obtain ⟨hx, hZ, hby, -, hown, -⟩ := cx; obtain ⟨dd, rfl⟩ := hd
  obtain ⟨c, Ar, hc, hlen⟩ := A
  have hs : c.slots.size = xs.length := by have := congrArg List.length hc; simpa using this
  have hl : n < xs.length := (List.getElem?_eq_some_iff.mp hv).1
  have hn : n < 2 ^ 31 := by simp at hlen; omega
  subst hj
  have e1 := ofNat_clamp hn
  have hat : c.slots[(Int32.ofNat n).toNatClampNeg]? = some (.long v) := by
    rw [e1, ← Array.getElem?_toList, hc, List.getElem?_map, hv]; rfl
  exact Run.st (X0.laload hx (cell := c) (by rw [eT]; exact Ar.1) (State.isArrayOf_alike hZ.alike Ar.2.1) Ar.2.2 (by rw [e1, hs]; intro q; rcases q with q | q; exact ofNat_neg hn q; omega) hat (g := mkF K.m pc L (.int (Int32.ofNat n) :: .ref a :: S)) rfl rfl (hb hby dd)) k
theorem r_iastore {xs : List Int32} {a : Addr} {j : Int32} {x : Int32} (X : Sd K T h cl sl) (cx : Cx K y bytes mx rt R) (hd : Dc bytes pc .iastore 1 pc') (A : AI .int K.Z h a xs) (n : Nat) (hj : j = Int32.ofNat n) (hl : n < xs.length) (ge : K.n0 ≤ a) (k : ∀ T' h', Sd K T' h' cl sl → Wr h h' a n (.int x) → AI .int K.Z h' a (xs.set n x) → Run K Q T' (mkF K.m pc' L S)) : Run K Q T (mkF K.m pc L (.int x :: .int j :: .ref a :: S)) := by
  obtain ⟨locs, X0, N, hz, eT⟩ := X; obtain ⟨hx, hZ, hby, -, hown, -⟩ := cx; obtain ⟨dd, rfl⟩ := hd
  have A0 := A
  obtain ⟨c, Ar, hc, hlen⟩ := A
  have hs : c.slots.size = xs.length := by have := congrArg List.length hc; simpa using this
  have hn : n < 2 ^ 31 := by simp at hlen; omega
  subst hj
  have e1 := ofNat_clamp hn
  obtain ⟨T1, h1, X1, eh1, W1, st1⟩ := stI X0 hx hZ eT Ar (j := Int32.ofNat n) (x := x) (by rw [e1, hs]; intro q; rcases q with q | q; exact ofNat_neg hn q; omega) (g := mkF K.m pc L (.int x :: .int (Int32.ofNat n) :: .ref a :: S)) rfl rfl (hb hby dd)
  have hz1 : K.n0 ≤ h1.size := by rw [W1.size]; exact hz
  have N1 := Fr.snoc X1 N ge
  rw [e1] at W1
  exact Run.st st1 (k T1 h1 ⟨_, X1, N1, hz1, eh1⟩ W1 (AI.set A0 W1))
theorem r_sastore {xs : List Int32} {a : Addr} {j : Int32} {x : Int32} (X : Sd K T h cl sl) (cx : Cx K y bytes mx rt R) (hd : Dc bytes pc .sastore 1 pc') (A : AI .short K.Z h a xs) (n : Nat) (hj : j = Int32.ofNat n) (hl : n < xs.length) (ge : K.n0 ≤ a) (k : ∀ T' h', Sd K T' h' cl sl → Wr h h' a n (.int (nar .short x)) → AI .short K.Z h' a (xs.set n (nar .short x)) → Run K Q T' (mkF K.m pc' L S)) : Run K Q T (mkF K.m pc L (.int x :: .int j :: .ref a :: S)) := by
  obtain ⟨locs, X0, N, hz, eT⟩ := X; obtain ⟨hx, hZ, hby, -, hown, -⟩ := cx; obtain ⟨dd, rfl⟩ := hd
  have A0 := A
  obtain ⟨c, Ar, hc, hlen⟩ := A
  have hs : c.slots.size = xs.length := by have := congrArg List.length hc; simpa using this
  have hn : n < 2 ^ 31 := by simp at hlen; omega
  subst hj
  have e1 := ofNat_clamp hn
  obtain ⟨T1, h1, X1, eh1, W1, st1⟩ := stS X0 hx hZ eT Ar (j := Int32.ofNat n) (x := x) (by rw [e1, hs]; intro q; rcases q with q | q; exact ofNat_neg hn q; omega) (g := mkF K.m pc L (.int x :: .int (Int32.ofNat n) :: .ref a :: S)) rfl rfl (hb hby dd)
  have hz1 : K.n0 ≤ h1.size := by rw [W1.size]; exact hz
  have N1 := Fr.snoc X1 N ge
  rw [e1] at W1
  exact Run.st st1 (k T1 h1 ⟨_, X1, N1, hz1, eh1⟩ W1 (AI.set A0 W1))
theorem r_bastore {xs : List Int32} {a : Addr} {j : Int32} {x : Int32} (X : Sd K T h cl sl) (cx : Cx K y bytes mx rt R) (hd : Dc bytes pc .bastore 1 pc') (A : AI .byte K.Z h a xs) (n : Nat) (hj : j = Int32.ofNat n) (hl : n < xs.length) (ge : K.n0 ≤ a) (k : ∀ T' h', Sd K T' h' cl sl → Wr h h' a n (.int (nar .byte x)) → AI .byte K.Z h' a (xs.set n (nar .byte x)) → Run K Q T' (mkF K.m pc' L S)) : Run K Q T (mkF K.m pc L (.int x :: .int j :: .ref a :: S)) := by
  obtain ⟨locs, X0, N, hz, eT⟩ := X; obtain ⟨hx, hZ, hby, -, hown, -⟩ := cx; obtain ⟨dd, rfl⟩ := hd
  have A0 := A
  obtain ⟨c, Ar, hc, hlen⟩ := A
  have hs : c.slots.size = xs.length := by have := congrArg List.length hc; simpa using this
  have hn : n < 2 ^ 31 := by simp at hlen; omega
  subst hj
  have e1 := ofNat_clamp hn
  obtain ⟨T1, h1, X1, eh1, W1, st1⟩ := stB X0 hx hZ eT Ar (j := Int32.ofNat n) (x := x) (by rw [e1, hs]; intro q; rcases q with q | q; exact ofNat_neg hn q; omega) (g := mkF K.m pc L (.int x :: .int (Int32.ofNat n) :: .ref a :: S)) rfl rfl (hb hby dd)
  have hz1 : K.n0 ≤ h1.size := by rw [W1.size]; exact hz
  have N1 := Fr.snoc X1 N ge
  rw [e1] at W1
  exact Run.st st1 (k T1 h1 ⟨_, X1, N1, hz1, eh1⟩ W1 (AI.set A0 W1))
theorem r_lastore {xs : List Int64} {a : Addr} {j : Int32} {x : Int64} (X : Sd K T h cl sl) (cx : Cx K y bytes mx rt R) (hd : Dc bytes pc .lastore 1 pc') (A : AJ K.Z h a xs) (n : Nat) (hj : j = Int32.ofNat n) (hl : n < xs.length) (ge : K.n0 ≤ a) (k : ∀ T' h', Sd K T' h' cl sl → Wr h h' a n (.long x) → AJ K.Z h' a (xs.set n x) → Run K Q T' (mkF K.m pc' L S)) : Run K Q T (mkF K.m pc L (.long x :: .int j :: .ref a :: S)) := by
  obtain ⟨locs, X0, N, hz, eT⟩ := X; obtain ⟨hx, hZ, hby, -, hown, -⟩ := cx; obtain ⟨dd, rfl⟩ := hd
  have A0 := A
  obtain ⟨c, Ar, hc, hlen⟩ := A
  have hs : c.slots.size = xs.length := by have := congrArg List.length hc; simpa using this
  have hn : n < 2 ^ 31 := by simp at hlen; omega
  subst hj
  have e1 := ofNat_clamp hn
  obtain ⟨T1, h1, X1, eh1, W1, st1⟩ := stJ X0 hx hZ eT Ar (j := Int32.ofNat n) (x := x) (by rw [e1, hs]; intro q; rcases q with q | q; exact ofNat_neg hn q; omega) (g := mkF K.m pc L (.long x :: .int (Int32.ofNat n) :: .ref a :: S)) rfl rfl (hb hby dd)
  have hz1 : K.n0 ≤ h1.size := by rw [W1.size]; exact hz
  have N1 := Fr.snoc X1 N ge
  rw [e1] at W1
  exact Run.st st1 (k T1 h1 ⟨_, X1, N1, hz1, eh1⟩ W1 (AJ.set A0 W1))
theorem r_newarray {aty : ArrayType} {a0 : Array Value} {z : Int32} (X : Sd K T h cl sl) (cx : Cx K y bytes mx rt R) (hd : Dc bytes pc (.newarray aty) 2 pc') (w : (Cond.arrayClass (newarray.typeOf aty)).before a0 K.Z = true) (n cap : Nat) (hj : z = Int32.ofNat n) (hcap : n ≤ cap) (hb8 : cap * 8 ≤ 536870912) (hc : cl + 1 ≤ R.cells) (hs : sl + cap ≤ R.slots)
    (k : ∀ T' h' a, a = h.size → K.n0 ≤ a → Sd K T' h' (cl + 1) (sl + cap) → Ext h h' → AV K.Z h' a (newarray.typeOf aty) (List.replicate n (defaultValue (newarray.typeOf aty))) → Run K Q T' (mkF K.m pc' L (.ref a :: S))) : Run K Q T (mkF K.m pc L (.int z :: S)) := by
  obtain ⟨locs, X0, N, hz, eT⟩ := X; obtain ⟨hx, hZ, hby, -, hown, -, -, hR, -⟩ := cx; obtain ⟨dd, rfl⟩ := hd
  have hn : n < 2 ^ 31 := by omega
  subst hj
  have e1 := ofNat_clamp hn
  obtain ⟨T1, h1, cA, X1, eh1, E1, A1, st1⟩ := newP X0 hx hZ w eT (g := mkF K.m pc L (.int (Int32.ofNat n) :: S)) rfl (hb hby dd) (n := Int32.ofNat n) rfl (ofNat_neg hn) (cap := cap) (by rw [e1]; exact hcap) hb8 (by rw [hR]; exact hc) (by rw [hR]; exact hs)
  refine Run.st st1 (k T1 h1 h.size rfl hz ⟨locs, X1, N, Nat.le_trans hz E1.1, eh1⟩ E1 ⟨_, A1, ?_, by simpa using hn⟩)
  simp [newA, e1]
theorem AI.new {ty : FieldType} {Z : State} {h : Heap} {a : Addr} {n : Nat} (A : AV Z h a ty (List.replicate n (.int 0))) : AI ty Z h a (List.replicate n 0) := by
  show AV Z h a ty _
  rw [List.map_replicate]; exact A
theorem AJ.new {Z : State} {h : Heap} {a : Addr} {n : Nat} (A : AV Z h a .long (List.replicate n (.long 0))) : AJ Z h a (List.replicate n 0) := by
  show AV Z h a .long _
  rw [List.map_replicate]; exact A
end Rules
/-! contracts and calls -/
def Con (l : Launch) (Z : State) (y : MethodName) (bytes : ByteArray) (mx : Nat) (rt : Option FieldType) (rm : Room) (as : Array Value) (h0 : Heap) (n0 : Nat) (Q : Option Value → Heap → Prop) : Prop :=
  ∀ ws, MetFree l y (head1 (Jvm.Cond.code y bytes mx rt :: ws) rm) (fun a U => a = as ∧ Z.Warmed39 U.vm ∧ U.heap = h0) (fun _ _ _ _ _ => True) (fun _ U o U' => ∃ v L, o = .returned v ∧ (Q v U'.heap ∧ Fr n0 L) ∧ FrameEnd U o U' L rm.cells rm.slots)
theorem Con.of {l : Launch} {Z : State} {y : MethodName} {bytes : ByteArray} {mx : Nat} {rt : Option FieldType} {rm : Room} {as : Array Value} {h0 : Heap} {n0 : Nat} {Q : Option Value → Heap → Prop} (hy : plainFor y = true) (Z0 : n0 ≤ h0.size)
    (body : ∀ K : KT, K.l = l → K.Z = Z → K.n0 = n0 → Cx K y bytes mx rt rm → ∀ T, Sd K T h0 0 0 → Run K Q T (entryFrame K.m as mx)) : Con l Z y bytes mx rt rm as h0 n0 Q := by
  intro ws
  refine MetFree.of_bodySF hy hisR ?_
  intro p e s m args below meth c s₁ Bd hml0 hP hK
  obtain ⟨rfl, hZ, hh⟩ := hP
  have hown : s.vm.findClass y.cls = some m.cls := findClass_of_methodNamed Bd.named
  have hnm := (name_of_methodNamed Bd.named Bd.method).1
  have X0 : Stand p l e rm s m args below meth c s₁ [] 0 0 := Stand.of_body Bd
  have e0 : s₁.heap = h0 := by rw [← hh, Bd.state]; rfl
  obtain ⟨s₂, v, L, h1, h2, h3, h4, h5, h6⟩ := body (p, l, e, rm, s, m, args, below, meth, c, Z, n0) rfl rfl rfl ⟨Bd.exec, hZ, Bd.bytes, hml0, hown, Bd.returns, Bd.notSynchronized, rfl, hnm⟩ s₁ ⟨[], X0, Fr.nil n0, Z0, e0⟩
  exact ⟨s₂, _, h1, h2, h3, v, L, rfl, ⟨h4, h5⟩, h6⟩
section Calls
variable {K : KT} {Q : Option Value → Heap → Prop} {T : State} {h : Heap} {cl sl : Nat} {y : MethodName} {bytes : ByteArray} {mx : Nat} {rt : Option FieldType} {R : Room} {pc pc' pt : Nat} {L : Array Slot}
theorem r_static {z : MethodName} {zb : ByteArray} {zm : Nat} {zr : Option FieldType} {rm : Room} {i : Nat} {a0 : Array Value} {Qz : Option Value → Heap → Prop} {St : List Value} (argsL rest : List Value) (X : Sd K T h cl sl) (cx : Cx K y bytes mx rt R) (hd : Dc bytes pc (.invokestatic i) 3 pc')
    (w1 : (Cond.methodLink y.cls i z).before a0 K.Z = true) (w2 : (Cond.static z).before a0 K.Z = true) (w3 : (Cond.initialized z.cls).before a0 K.Z = true) (w4 : (Cond.code z zb zm zr).before a0 K.Z = true) (hm : z.cls ≠ "java/lang/invoke/MethodHandle" ∧ z.cls ≠ "java/lang/invoke/VarHandle")
    (con : Con K.l K.Z z zb zm zr rm argsL.toArray h K.n0 Qz) (hpd : ∀ sig, parseMethodDescriptor z.desc = some sig → argsL.length = sig.parameters.length) (hSt : St = argsL.reverse ++ rest) (hsz : L.size = mx) (hf : rm.frames + 1 ≤ R.frames) (hl : (rest.map fun v => v.category).sum + (zm + 11) + rm.locals ≤ R.locals) (hc : cl + rm.cells ≤ R.cells) (hs : sl + rm.slots ≤ R.slots)
    (k : ∀ T' h' v, Sd K T' h' (cl + rm.cells) (sl + rm.slots) → Qz v h' → Run K Q T' (mkF K.m pc' L (v.toList ++ rest))) (hmono : ∀ v h', Qz v h' → h.size ≤ h'.size) : Run K Q T (mkF K.m pc L St) := by
  obtain ⟨locs, X0, N, hz, eT⟩ := X; obtain ⟨hx, hZ, hby, hml, hown, -, -, hR, -⟩ := cx; obtain ⟨dd, rfl⟩ := hd
  obtain ⟨v, _, ⟨T1, L1, k1, n1⟩, -, X1, ⟨Lc, ⟨hQ, hF⟩, l1, y1, z1⟩, st1⟩ := Jvm.LawKit.callS X0 hx (y := z) hown (mvT hZ w1) (mvT hZ w2) (mvT hZ w3) (mvT hZ w4) hm (backOf (W := (rest.map fun v => v.category).sum) (Q := fun v h L => Qz v h ∧ Fr K.n0 L) (con []) hZ w4 w3 (by rw [hR]; exact hf) (by rw [hR]; exact hl)) (g := mkF K.m pc L St) rfl (by rw [hml]; exact hsz) (argsL := argsL) (rest := rest) hpd hSt (by show 2 * 0 + _ ≤ _; omega) (hb hby dd) (fun _ _ => ⟨rfl, eT, by rw [hR]; exact hc, by rw [hR]; exact hs⟩)
  dsimp only [Pt.U, Pt.locs, Pt.cells, Pt.slots] at X1 l1 y1 z1 st1 hQ
  subst l1 y1 z1
  exact Run.st st1 (k T1 _ v ⟨_, X1, Fr.app N hF, Nat.le_trans hz (hmono _ _ hQ), rfl⟩ hQ)
theorem r_virtual {z : MethodName} {C : String} {zb : ByteArray} {zm : Nat} {zr : Option FieldType} {rm : Room} {i : Nat} {a : Addr} {a0 : Array Value} {Qz : Option Value → Heap → Prop} {St : List Value} (argsL rest : List Value) (X : Sd K T h cl sl) (cx : Cx K y bytes mx rt R) (hd : Dc bytes pc (.invokevirtual i) 3 pc') (E : Exa K.Z h a C)
    (w1 : (Cond.methodLink y.cls i z).before a0 K.Z = true) (w2 : (Cond.declares z).before a0 K.Z = true) (w3 : (Cond.selects C z z).before a0 K.Z = true) (w4 : (Cond.instanceMethod z).before a0 K.Z = true) (w5 : (Cond.initialized z.cls).before a0 K.Z = true) (w6 : (Cond.code z zb zm zr).before a0 K.Z = true) (hm : z.cls ≠ "java/lang/invoke/MethodHandle" ∧ z.cls ≠ "java/lang/invoke/VarHandle")
    (con : Con K.l K.Z z zb zm zr rm (.ref a :: argsL).toArray h K.n0 Qz) (hpd : ∀ sig, parseMethodDescriptor z.desc = some sig → argsL.length = sig.parameters.length) (hSt : St = argsL.reverse ++ .ref a :: rest) (hsz : L.size = mx) (hf : rm.frames + 1 ≤ R.frames) (hl : (rest.map fun v => v.category).sum + (zm + 11) + rm.locals ≤ R.locals) (hc : cl + rm.cells ≤ R.cells) (hs : sl + rm.slots ≤ R.slots)
    (k : ∀ T' h' v, Sd K T' h' (cl + rm.cells) (sl + rm.slots) → Qz v h' → Run K Q T' (mkF K.m pc' L (v.toList ++ rest))) (hmono : ∀ v h', Qz v h' → h.size ≤ h'.size) : Run K Q T (mkF K.m pc L St) := by
  obtain ⟨locs, X0, N, hz, eT⟩ := X; obtain ⟨hx, hZ, hby, hml, hown, -, -, hR, -⟩ := cx; obtain ⟨dd, rfl⟩ := hd
  obtain ⟨cq, kq, qa, qb, qc⟩ := isOf hZ eT E
  obtain ⟨v, _, ⟨T1, L1, k1, n1⟩, -, X1, ⟨Lc, ⟨hQ, hF⟩, l1, y1, z1⟩, st1⟩ := X0.virtualBack hx (y := z) (z := z) hown (mvT hZ w1) (mvT hZ w2) (notFace_of_selects (args := #[]) (mvT hZ w3)) (mvT hZ w3) (mvT hZ w4) hm (backOf (W := (rest.map fun v => v.category).sum) (Q := fun v h L => Qz v h ∧ Fr K.n0 L) (con []) hZ w6 w5 (by rw [hR]; exact hf) (by rw [hR]; exact hl)) qa qc (g := mkF K.m pc L St) rfl (by rw [hml]; exact hsz) (Steps.refl _) (argsL := argsL) (rest := rest) hpd hSt (by show 2 * 0 + _ ≤ _; omega) (hb hby dd) (fun _ _ => ⟨rfl, eT, by rw [hR]; exact hc, by rw [hR]; exact hs⟩)
  dsimp only [Pt.U, Pt.locs, Pt.cells, Pt.slots] at X1 l1 y1 z1 st1 hQ
  subst l1 y1 z1
  exact Run.st (fun t q => st1.trans q) (k T1 _ v ⟨_, X1, Fr.app N hF, Nat.le_trans hz (hmono _ _ hQ), rfl⟩ hQ)
theorem r_private {z z' : MethodName} {C C' : String} {zb : ByteArray} {zm : Nat} {zr : Option FieldType} {rm : Room} {i : Nat} {a : Addr} {a0 : Array Value} {Qz : Option Value → Heap → Prop} {St : List Value} (argsL rest : List Value) (X : Sd K T h cl sl) (cx : Cx K y bytes mx rt R) (hd : Dc bytes pc (.invokevirtual i) 3 pc') (E : Exa K.Z h a C)
    (w1 : (Cond.methodLink y.cls i z).before a0 K.Z = true) (w2 : (Cond.selects C' z' z').before a0 K.Z = true) (w3 : (Cond.instanceMethod z).before a0 K.Z = true) (w4 : (Cond.privateMethod z).before a0 K.Z = true) (w5 : (Cond.initialized z.cls).before a0 K.Z = true) (w6 : (Cond.code z zb zm zr).before a0 K.Z = true) (hzz : z'.cls = z.cls) (hm : z.cls ≠ "java/lang/invoke/MethodHandle" ∧ z.cls ≠ "java/lang/invoke/VarHandle")
    (con : Con K.l K.Z z zb zm zr rm (.ref a :: argsL).toArray h K.n0 Qz) (hpd : ∀ sig, parseMethodDescriptor z.desc = some sig → argsL.length = sig.parameters.length) (hSt : St = argsL.reverse ++ .ref a :: rest) (hsz : L.size = mx) (hf : rm.frames + 1 ≤ R.frames) (hl : (rest.map fun v => v.category).sum + (zm + 11) + rm.locals ≤ R.locals) (hc : cl + rm.cells ≤ R.cells) (hs : sl + rm.slots ≤ R.slots)
    (k : ∀ T' h' v, Sd K T' h' (cl + rm.cells) (sl + rm.slots) → Qz v h' → Run K Q T' (mkF K.m pc' L (v.toList ++ rest))) (hmono : ∀ v h', Qz v h' → h.size ≤ h'.size) : Run K Q T (mkF K.m pc L St) := by
  obtain ⟨locs, X0, N, hz, eT⟩ := X; obtain ⟨hx, hZ, hby, hml, hown, -, -, hR, -⟩ := cx; obtain ⟨dd, rfl⟩ := hd
  obtain ⟨cq, qa, qb⟩ := E.cell
  have u2 : (Cond.selects C' z' z').before K.args K.s = true := mvT hZ w2
  have u3 : (Cond.instanceMethod z).before K.args K.s = true := mvT hZ w3
  obtain ⟨c2, r2, m2, q1, q2, q3, q4, kP, hkP, hkPi⟩ := Cond.selects_spec u2
  have hc2 := findClass_of_methodNamed q3
  rw [hzz] at hc2
  have hpriv := Cond.privateMethod_at (mvP hZ w4 (args := K.args))
  have hsel := selects_self_of_private hc2 hkP hkPi hpriv u3 hm
  obtain ⟨v, _, ⟨T1, L1, k1, n1⟩, -, X1, ⟨Lc, ⟨hQ, hF⟩, l1, y1, z1⟩, st1⟩ := X0.privateBack hx (y := z) hown (mvT hZ w1) u3 hsel hpriv (mvT hZ w6) hm (backOf (W := (rest.map fun v => v.category).sum) (Q := fun v h L => Qz v h ∧ Fr K.n0 L) (con []) hZ w6 w5 (by rw [hR]; exact hf) (by rw [hR]; exact hl)) (g := mkF K.m pc L St) rfl (by rw [hml]; exact hsz) (Steps.refl _) (a := a) (by rw [eT]; exact qa) qb (argsL := argsL) (rest := rest) hpd hSt (by show 2 * 0 + _ ≤ _; omega) (hb hby dd) (fun _ _ => ⟨rfl, eT, by rw [hR]; exact hc, by rw [hR]; exact hs⟩)
  dsimp only [Pt.U, Pt.locs, Pt.cells, Pt.slots] at X1 l1 y1 z1 st1 hQ
  subst l1 y1 z1
  exact Run.st (fun t q => st1.trans q) (k T1 _ v ⟨_, X1, Fr.app N hF, Nat.le_trans hz (hmono _ _ hQ), rfl⟩ hQ)
theorem r_special {z : MethodName} {zb : ByteArray} {zm : Nat} {rm : Room} {i : Nat} {a : Addr} {a0 : Array Value} {Qz : Option Value → Heap → Prop} {St : List Value} (argsL rest : List Value) (X : Sd K T h cl sl) (cx : Cx K y bytes mx rt R) (hd : Dc bytes pc (.invokespecial i) 3 pc') (hzn : z.name = "<init>")
    (w1 : (Cond.methodLink y.cls i z).before a0 K.Z = true) (w2 : (Cond.instanceMethod z).before a0 K.Z = true) (w3 : (Cond.initialized z.cls).before a0 K.Z = true) (w4 : (Cond.code z zb zm none).before a0 K.Z = true) (hm : z.cls ≠ "java/lang/invoke/MethodHandle" ∧ z.cls ≠ "java/lang/invoke/VarHandle")
    (con : Con K.l K.Z z zb zm none rm (.ref a :: argsL).toArray h K.n0 Qz) (hpd : ∀ sig, parseMethodDescriptor z.desc = some sig → argsL.length = sig.parameters.length) (hSt : St = argsL.reverse ++ .ref a :: rest) (hsz : L.size = mx) (hf : rm.frames + 1 ≤ R.frames) (hl : (rest.map fun v => v.category).sum + (zm + 11) + rm.locals ≤ R.locals) (hc : cl + rm.cells ≤ R.cells) (hs : sl + rm.slots ≤ R.slots)
    (k : ∀ T' h' v, Sd K T' h' (cl + rm.cells) (sl + rm.slots) → Qz v h' → Run K Q T' (mkF K.m pc' L (v.toList ++ rest))) (hmono : ∀ v h', Qz v h' → h.size ≤ h'.size) : Run K Q T (mkF K.m pc L St) := by
  obtain ⟨locs, X0, N, hz, eT⟩ := X; obtain ⟨hx, hZ, hby, hml, hown, -, -, hR, -⟩ := cx; obtain ⟨dd, rfl⟩ := hd
  obtain ⟨v, _, ⟨T1, L1, k1, n1⟩, -, X1, ⟨Lc, ⟨hQ, hF⟩, l1, y1, z1⟩, st1⟩ := X0.specialBack hx (y := z) hzn hown (mvT hZ w1) (mvT hZ w2) (mvT hZ w4) hm (backOf (W := (rest.map fun v => v.category).sum) (Q := fun v h L => Qz v h ∧ Fr K.n0 L) (con []) hZ w4 w3 (by rw [hR]; exact hf) (by rw [hR]; exact hl)) (g := mkF K.m pc L St) rfl (by rw [hml]; exact hsz) (Steps.refl _) (a := a) (argsL := argsL) (rest := rest) hpd hSt (by show 2 * 0 + _ ≤ _; omega) (hb hby dd) (fun _ _ => ⟨rfl, eT, by rw [hR]; exact hc, by rw [hR]; exact hs⟩)
  dsimp only [Pt.U, Pt.locs, Pt.cells, Pt.slots] at X1 l1 y1 z1 st1 hQ
  subst l1 y1 z1
  exact Run.st (fun t q => st1.trans q) (k T1 _ v ⟨_, X1, Fr.app N hF, Nat.le_trans hz (hmono _ _ hQ), rfl⟩ hQ)
end Calls
end Jvm.Own
namespace Jvm.Pilot.@@N@@
open Jvm Jvm.ClassFile Sem Op Lib Jvm.Free Jvm.Stand Jvm.LawKit Jvm.RoadKit Bundle Jvm.Own Jvm.Pilot.@@N@@.Jvm.D
theorem pd_0 : parseMethodDescriptor "(J)J" = some ⟨[.long], some (.long)⟩ := by decide +kernel
def own_mix (z : Int64) : Int64 :=
  ((((z ^^^ XT.ushrL z 30) * -4658895280553007687) ^^^ XT.ushrL ((z ^^^ XT.ushrL z 30) * -4658895280553007687) 27) * -7723592293110705685) ^^^ XT.ushrL ((((z ^^^ XT.ushrL z 30) * -4658895280553007687) ^^^ XT.ushrL ((z ^^^ XT.ushrL z 30) * -4658895280553007687) 27) * -7723592293110705685) 31
def own_x31 (m : Int64) : Int64 := m ^^^ XT.ushrL m 31 ^^^ XT.ushrL m 62
def own_x27 (m : Int64) : Int64 := m ^^^ XT.ushrL m 27 ^^^ XT.ushrL m 54
def own_x30 (m : Int64) : Int64 := m ^^^ XT.ushrL m 30 ^^^ XT.ushrL m 60
def own_unmix (m : Int64) : Int64 := own_x30 (own_x27 (own_x31 m * 3573116690164977347) * -7575587736534282103)
theorem own_us (x : Int64) (y : Int32) (n : Nat) (h : (y.toInt64.toUInt64 &&& Int64.toUInt64 63).toBitVec.toNat % 64 = n) : (XT.ushrL x y).toBitVec = x.toBitVec >>> n := by
  subst h
  show (x.toUInt64 >>> (y.toInt64.toUInt64 &&& Int64.toUInt64 63)).toBitVec = _
  rw [UInt64.toBitVec_shiftRight]
  simp [BitVec.ushiftRight_eq']
theorem own_inv (z : BitVec 64) (k : Nat) (h : 64 ≤ k + k + k) : (z ^^^ z >>> k) ^^^ (z ^^^ z >>> k) >>> k ^^^ (z ^^^ z >>> k) >>> (k + k) = z := by
  apply BitVec.eq_of_getLsbD_eq
  intro i hi
  simp only [BitVec.getLsbD_xor, BitVec.getLsbD_ushiftRight]
  rw [show k + (k + i) = k + k + i by omega, show k + (k + k + i) = k + k + k + i by omega, BitVec.getLsbD_of_ge z (k + k + k + i) (by omega)]
  cases z.getLsbD i <;> cases z.getLsbD (k + i) <;> cases z.getLsbD (k + k + i) <;> rfl
theorem own_inv2 (z : BitVec 64) (k : Nat) (h : 64 ≤ k + k + k) : (z ^^^ z >>> k ^^^ z >>> (k + k)) ^^^ (z ^^^ z >>> k ^^^ z >>> (k + k)) >>> k = z := by
  apply BitVec.eq_of_getLsbD_eq
  intro i hi
  simp only [BitVec.getLsbD_xor, BitVec.getLsbD_ushiftRight]
  rw [show k + (k + i) = k + k + i by omega, show k + k + (k + i) = k + k + k + i by omega, BitVec.getLsbD_of_ge z (k + k + k + i) (by omega)]
  cases z.getLsbD i <;> cases z.getLsbD (k + i) <;> cases z.getLsbD (k + k + i) <;> rfl
theorem own_a31 (z : Int64) : own_x31 (z ^^^ XT.ushrL z 31) = z := by
  apply Int64.toBitVec_inj.mp
  simp only [own_x31, Int64.toBitVec_xor, own_us _ 31 31 (by decide), own_us _ 62 62 (by decide)]
  exact own_inv _ 31 (by decide)
theorem own_a27 (z : Int64) : own_x27 (z ^^^ XT.ushrL z 27) = z := by
  apply Int64.toBitVec_inj.mp
  simp only [own_x27, Int64.toBitVec_xor, own_us _ 27 27 (by decide), own_us _ 54 54 (by decide)]
  exact own_inv _ 27 (by decide)
theorem own_a30 (z : Int64) : own_x30 (z ^^^ XT.ushrL z 30) = z := by
  apply Int64.toBitVec_inj.mp
  simp only [own_x30, Int64.toBitVec_xor, own_us _ 30 30 (by decide), own_us _ 60 60 (by decide)]
  exact own_inv _ 30 (by decide)
theorem own_b31 (z : Int64) : own_x31 z ^^^ XT.ushrL (own_x31 z) 31 = z := by
  apply Int64.toBitVec_inj.mp
  simp only [own_x31, Int64.toBitVec_xor, own_us _ 31 31 (by decide), own_us _ 62 62 (by decide)]
  exact own_inv2 _ 31 (by decide)
theorem own_b27 (z : Int64) : own_x27 z ^^^ XT.ushrL (own_x27 z) 27 = z := by
  apply Int64.toBitVec_inj.mp
  simp only [own_x27, Int64.toBitVec_xor, own_us _ 27 27 (by decide), own_us _ 54 54 (by decide)]
  exact own_inv2 _ 27 (by decide)
theorem own_b30 (z : Int64) : own_x30 z ^^^ XT.ushrL (own_x30 z) 30 = z := by
  apply Int64.toBitVec_inj.mp
  simp only [own_x30, Int64.toBitVec_xor, own_us _ 30 30 (by decide), own_us _ 60 60 (by decide)]
  exact own_inv2 _ 30 (by decide)
theorem own_m1 (x : Int64) : x * -7723592293110705685 * 3573116690164977347 = x := by
  rw [Int64.mul_assoc, show (-7723592293110705685 : Int64) * 3573116690164977347 = 1 by decide, Int64.mul_one]
theorem own_m2 (x : Int64) : x * -4658895280553007687 * -7575587736534282103 = x := by
  rw [Int64.mul_assoc, show (-4658895280553007687 : Int64) * -7575587736534282103 = 1 by decide, Int64.mul_one]
theorem own_m3 (x : Int64) : x * 3573116690164977347 * -7723592293110705685 = x := by
  rw [Int64.mul_assoc, show (3573116690164977347 : Int64) * -7723592293110705685 = 1 by decide, Int64.mul_one]
theorem own_m4 (x : Int64) : x * -7575587736534282103 * -4658895280553007687 = x := by
  rw [Int64.mul_assoc, show (-7575587736534282103 : Int64) * -4658895280553007687 = 1 by decide, Int64.mul_one]
theorem own_um (z : Int64) : own_unmix (own_mix z) = z := by
  unfold own_unmix own_mix
  rw [own_a31, own_m1, own_a27, own_m2, own_a30]
theorem own_mu (z : Int64) : own_mix (own_unmix z) = z := by
  unfold own_unmix own_mix
  rw [own_b30, own_m4, own_b27, own_m3, own_b31]
theorem P141m15_0 : Dc prog_141_method_15_code 0 (.lload_n 0) 1 1 := ⟨(by decide +kernel), rfl⟩
theorem P141m15_1 : Dc prog_141_method_15_code 1 (.lload_n 0) 1 2 := ⟨(by decide +kernel), rfl⟩
theorem P141m15_2 : Dc prog_141_method_15_code 2 (.bipush 30) 2 4 := ⟨(by decide +kernel), rfl⟩
theorem P141m15_4 : Dc prog_141_method_15_code 4 (.lushr) 1 5 := ⟨(by decide +kernel), rfl⟩
theorem P141m15_5 : Dc prog_141_method_15_code 5 (.lxor) 1 6 := ⟨(by decide +kernel), rfl⟩
theorem P141m15_6 : Dc prog_141_method_15_code 6 (.ldc2_w 65) 3 9 := ⟨(by decide +kernel), rfl⟩
theorem P141m15_9 : Dc prog_141_method_15_code 9 (.lmul) 1 10 := ⟨(by decide +kernel), rfl⟩
theorem P141m15_10 : Dc prog_141_method_15_code 10 (.lstore_n 0) 1 11 := ⟨(by decide +kernel), rfl⟩
theorem P141m15_11 : Dc prog_141_method_15_code 11 (.lload_n 0) 1 12 := ⟨(by decide +kernel), rfl⟩
theorem P141m15_12 : Dc prog_141_method_15_code 12 (.lload_n 0) 1 13 := ⟨(by decide +kernel), rfl⟩
theorem P141m15_13 : Dc prog_141_method_15_code 13 (.bipush 27) 2 15 := ⟨(by decide +kernel), rfl⟩
theorem P141m15_15 : Dc prog_141_method_15_code 15 (.lushr) 1 16 := ⟨(by decide +kernel), rfl⟩
theorem P141m15_16 : Dc prog_141_method_15_code 16 (.lxor) 1 17 := ⟨(by decide +kernel), rfl⟩
theorem P141m15_17 : Dc prog_141_method_15_code 17 (.ldc2_w 67) 3 20 := ⟨(by decide +kernel), rfl⟩
theorem P141m15_20 : Dc prog_141_method_15_code 20 (.lmul) 1 21 := ⟨(by decide +kernel), rfl⟩
theorem P141m15_21 : Dc prog_141_method_15_code 21 (.lstore_n 0) 1 22 := ⟨(by decide +kernel), rfl⟩
theorem P141m15_22 : Dc prog_141_method_15_code 22 (.lload_n 0) 1 23 := ⟨(by decide +kernel), rfl⟩
theorem P141m15_23 : Dc prog_141_method_15_code 23 (.lload_n 0) 1 24 := ⟨(by decide +kernel), rfl⟩
theorem P141m15_24 : Dc prog_141_method_15_code 24 (.bipush 31) 2 26 := ⟨(by decide +kernel), rfl⟩
theorem P141m15_26 : Dc prog_141_method_15_code 26 (.lushr) 1 27 := ⟨(by decide +kernel), rfl⟩
theorem P141m15_27 : Dc prog_141_method_15_code 27 (.lxor) 1 28 := ⟨(by decide +kernel), rfl⟩
theorem P141m15_28 : Dc prog_141_method_15_code 28 (.lreturn) 1 29 := ⟨(by decide +kernel), rfl⟩
theorem ef_P141m15 (m : MethodId) (z : Int64) : entryFrame m #[(.long z)] 2 = mkF m 0 #[.val (.long z), .second] [] := by first | (simp [entryFrame, mkF, argsToLocals, Value.category]; done) | rfl
set_option maxRecDepth 65536 in
set_option maxHeartbeats 40000000 in
theorem con_P141m15 (l : Launch) (Z : State) (a0 : Array Value) (hw : Tb tables_1 a0 Z) (z : Int64) (h0 : Heap) (n0 : Nat) (Z0 : n0 ≤ h0.size)  :
    Con l Z (⟨"com/example/kindred/kindred/SeededRandom", "mix", "(J)J"⟩ : MethodName) prog_141_method_15_code 2 (some (.long)) ({ frames := 0, cells := 0, slots := 0, locals := 0 } : Room) #[(.long z)] h0 n0 (fun v h => h0 = h ∧ v = some (.long (own_mix z))) := by
  refine Con.of (plainFor_of_name (by decide +kernel)) Z0 ?_
  intro K hl hZ hn cx T0 X0
  subst hl hZ hn
  refine Run.cast (ef_P141m15 K.m z) ?_
  refine r_lloadN X0 cx P141m15_0 rfl ?_
  refine r_lloadN X0 cx P141m15_1 rfl ?_
  refine r_bipush (30) X0 cx P141m15_2 rfl ?_
  refine r_lushr X0 cx P141m15_4 ?_
  refine r_lxor X0 cx P141m15_5 ?_
  refine r_ldc2 X0 cx P141m15_6 (hw.get 9 rfl) ?_
  refine r_lmul X0 cx P141m15_9 ?_
  refine r_lstoreN (fun zz => #[.val (.long zz), .second]) X0 cx P141m15_10 (fun _ => rfl) (fun j1 e_j1 => ?_)
  refine r_lloadN X0 cx P141m15_11 rfl ?_
  refine r_lloadN X0 cx P141m15_12 rfl ?_
  refine r_bipush (27) X0 cx P141m15_13 rfl ?_
  refine r_lushr X0 cx P141m15_15 ?_
  refine r_lxor X0 cx P141m15_16 ?_
  refine r_ldc2 X0 cx P141m15_17 (hw.get 10 rfl) ?_
  refine r_lmul X0 cx P141m15_20 ?_
  refine r_lstoreN (fun zz => #[.val (.long zz), .second]) X0 cx P141m15_21 (fun _ => rfl) (fun j2 e_j2 => ?_)
  refine r_lloadN X0 cx P141m15_22 rfl ?_
  refine r_lloadN X0 cx P141m15_23 rfl ?_
  refine r_bipush (31) X0 cx P141m15_24 rfl ?_
  refine r_lushr X0 cx P141m15_26 ?_
  refine r_lxor X0 cx P141m15_27 ?_
  refine r_lreturn X0 cx P141m15_28 (by decide) (by decide) ?_
  exact ⟨rfl, by subst_vars; rfl⟩
theorem P141m16_0 : Dc prog_141_method_16_code 0 (.lload_n 0) 1 1 := ⟨(by decide +kernel), rfl⟩
theorem P141m16_1 : Dc prog_141_method_16_code 1 (.lload_n 0) 1 2 := ⟨(by decide +kernel), rfl⟩
theorem P141m16_2 : Dc prog_141_method_16_code 2 (.bipush 31) 2 4 := ⟨(by decide +kernel), rfl⟩
theorem P141m16_4 : Dc prog_141_method_16_code 4 (.lushr) 1 5 := ⟨(by decide +kernel), rfl⟩
theorem P141m16_5 : Dc prog_141_method_16_code 5 (.lxor) 1 6 := ⟨(by decide +kernel), rfl⟩
theorem P141m16_6 : Dc prog_141_method_16_code 6 (.lload_n 0) 1 7 := ⟨(by decide +kernel), rfl⟩
theorem P141m16_7 : Dc prog_141_method_16_code 7 (.bipush 62) 2 9 := ⟨(by decide +kernel), rfl⟩
theorem P141m16_9 : Dc prog_141_method_16_code 9 (.lushr) 1 10 := ⟨(by decide +kernel), rfl⟩
theorem P141m16_10 : Dc prog_141_method_16_code 10 (.lxor) 1 11 := ⟨(by decide +kernel), rfl⟩
theorem P141m16_11 : Dc prog_141_method_16_code 11 (.lstore_n 2) 1 12 := ⟨(by decide +kernel), rfl⟩
theorem P141m16_12 : Dc prog_141_method_16_code 12 (.lload_n 2) 1 13 := ⟨(by decide +kernel), rfl⟩
theorem P141m16_13 : Dc prog_141_method_16_code 13 (.ldc2_w 69) 3 16 := ⟨(by decide +kernel), rfl⟩
theorem P141m16_16 : Dc prog_141_method_16_code 16 (.lmul) 1 17 := ⟨(by decide +kernel), rfl⟩
theorem P141m16_17 : Dc prog_141_method_16_code 17 (.lstore_n 2) 1 18 := ⟨(by decide +kernel), rfl⟩
theorem P141m16_18 : Dc prog_141_method_16_code 18 (.lload_n 2) 1 19 := ⟨(by decide +kernel), rfl⟩
theorem P141m16_19 : Dc prog_141_method_16_code 19 (.lload_n 2) 1 20 := ⟨(by decide +kernel), rfl⟩
theorem P141m16_20 : Dc prog_141_method_16_code 20 (.bipush 27) 2 22 := ⟨(by decide +kernel), rfl⟩
theorem P141m16_22 : Dc prog_141_method_16_code 22 (.lushr) 1 23 := ⟨(by decide +kernel), rfl⟩
theorem P141m16_23 : Dc prog_141_method_16_code 23 (.lxor) 1 24 := ⟨(by decide +kernel), rfl⟩
theorem P141m16_24 : Dc prog_141_method_16_code 24 (.lload_n 2) 1 25 := ⟨(by decide +kernel), rfl⟩
theorem P141m16_25 : Dc prog_141_method_16_code 25 (.bipush 54) 2 27 := ⟨(by decide +kernel), rfl⟩
theorem P141m16_27 : Dc prog_141_method_16_code 27 (.lushr) 1 28 := ⟨(by decide +kernel), rfl⟩
theorem P141m16_28 : Dc prog_141_method_16_code 28 (.lxor) 1 29 := ⟨(by decide +kernel), rfl⟩
theorem P141m16_29 : Dc prog_141_method_16_code 29 (.lstore_n 2) 1 30 := ⟨(by decide +kernel), rfl⟩
theorem P141m16_30 : Dc prog_141_method_16_code 30 (.lload_n 2) 1 31 := ⟨(by decide +kernel), rfl⟩
theorem P141m16_31 : Dc prog_141_method_16_code 31 (.ldc2_w 71) 3 34 := ⟨(by decide +kernel), rfl⟩
theorem P141m16_34 : Dc prog_141_method_16_code 34 (.lmul) 1 35 := ⟨(by decide +kernel), rfl⟩
theorem P141m16_35 : Dc prog_141_method_16_code 35 (.lstore_n 2) 1 36 := ⟨(by decide +kernel), rfl⟩
theorem P141m16_36 : Dc prog_141_method_16_code 36 (.lload_n 2) 1 37 := ⟨(by decide +kernel), rfl⟩
theorem P141m16_37 : Dc prog_141_method_16_code 37 (.lload_n 2) 1 38 := ⟨(by decide +kernel), rfl⟩
theorem P141m16_38 : Dc prog_141_method_16_code 38 (.bipush 30) 2 40 := ⟨(by decide +kernel), rfl⟩
theorem P141m16_40 : Dc prog_141_method_16_code 40 (.lushr) 1 41 := ⟨(by decide +kernel), rfl⟩
theorem P141m16_41 : Dc prog_141_method_16_code 41 (.lxor) 1 42 := ⟨(by decide +kernel), rfl⟩
theorem P141m16_42 : Dc prog_141_method_16_code 42 (.lload_n 2) 1 43 := ⟨(by decide +kernel), rfl⟩
theorem P141m16_43 : Dc prog_141_method_16_code 43 (.bipush 60) 2 45 := ⟨(by decide +kernel), rfl⟩
theorem P141m16_45 : Dc prog_141_method_16_code 45 (.lushr) 1 46 := ⟨(by decide +kernel), rfl⟩
theorem P141m16_46 : Dc prog_141_method_16_code 46 (.lxor) 1 47 := ⟨(by decide +kernel), rfl⟩
theorem P141m16_47 : Dc prog_141_method_16_code 47 (.lreturn) 1 48 := ⟨(by decide +kernel), rfl⟩
theorem ef_P141m16 (m : MethodId) (z : Int64) : entryFrame m #[(.long z)] 4 = mkF m 0 #[.val (.long z), .second, .unset, .unset] [] := by first | (simp [entryFrame, mkF, argsToLocals, Value.category]; done) | rfl
set_option maxRecDepth 65536 in
set_option maxHeartbeats 40000000 in
theorem con_P141m16 (l : Launch) (Z : State) (a0 : Array Value) (hw : Tb tables_1 a0 Z) (z : Int64) (h0 : Heap) (n0 : Nat) (Z0 : n0 ≤ h0.size)  :
    Con l Z (⟨"com/example/kindred/kindred/SeededRandom", "unmix", "(J)J"⟩ : MethodName) prog_141_method_16_code 4 (some (.long)) ({ frames := 0, cells := 0, slots := 0, locals := 0 } : Room) #[(.long z)] h0 n0 (fun v h => h0 = h ∧ v = some (.long (own_unmix z))) := by
  refine Con.of (plainFor_of_name (by decide +kernel)) Z0 ?_
  intro K hl hZ hn cx T0 X0
  subst hl hZ hn
  refine Run.cast (ef_P141m16 K.m z) ?_
  refine r_lloadN X0 cx P141m16_0 rfl ?_
  refine r_lloadN X0 cx P141m16_1 rfl ?_
  refine r_bipush (31) X0 cx P141m16_2 rfl ?_
  refine r_lushr X0 cx P141m16_4 ?_
  refine r_lxor X0 cx P141m16_5 ?_
  refine r_lloadN X0 cx P141m16_6 rfl ?_
  refine r_bipush (62) X0 cx P141m16_7 rfl ?_
  refine r_lushr X0 cx P141m16_9 ?_
  refine r_lxor X0 cx P141m16_10 ?_
  refine r_lstoreN (fun zz => #[.val (.long z), .second, .val (.long zz), .second]) X0 cx P141m16_11 (fun _ => rfl) (fun j1 e_j1 => ?_)
  refine r_lloadN X0 cx P141m16_12 rfl ?_
  refine r_ldc2 X0 cx P141m16_13 (hw.get 4 rfl) ?_
  refine r_lmul X0 cx P141m16_16 ?_
  refine r_lstoreN (fun zz => #[.val (.long z), .second, .val (.long zz), .second]) X0 cx P141m16_17 (fun _ => rfl) (fun j2 e_j2 => ?_)
  refine r_lloadN X0 cx P141m16_18 rfl ?_
  refine r_lloadN X0 cx P141m16_19 rfl ?_
  refine r_bipush (27) X0 cx P141m16_20 rfl ?_
  refine r_lushr X0 cx P141m16_22 ?_
  refine r_lxor X0 cx P141m16_23 ?_
  refine r_lloadN X0 cx P141m16_24 rfl ?_
  refine r_bipush (54) X0 cx P141m16_25 rfl ?_
  refine r_lushr X0 cx P141m16_27 ?_
  refine r_lxor X0 cx P141m16_28 ?_
  refine r_lstoreN (fun zz => #[.val (.long z), .second, .val (.long zz), .second]) X0 cx P141m16_29 (fun _ => rfl) (fun j3 e_j3 => ?_)
  refine r_lloadN X0 cx P141m16_30 rfl ?_
  refine r_ldc2 X0 cx P141m16_31 (hw.get 5 rfl) ?_
  refine r_lmul X0 cx P141m16_34 ?_
  refine r_lstoreN (fun zz => #[.val (.long z), .second, .val (.long zz), .second]) X0 cx P141m16_35 (fun _ => rfl) (fun j4 e_j4 => ?_)
  refine r_lloadN X0 cx P141m16_36 rfl ?_
  refine r_lloadN X0 cx P141m16_37 rfl ?_
  refine r_bipush (30) X0 cx P141m16_38 rfl ?_
  refine r_lushr X0 cx P141m16_40 ?_
  refine r_lxor X0 cx P141m16_41 ?_
  refine r_lloadN X0 cx P141m16_42 rfl ?_
  refine r_bipush (60) X0 cx P141m16_43 rfl ?_
  refine r_lushr X0 cx P141m16_45 ?_
  refine r_lxor X0 cx P141m16_46 ?_
  refine r_lreturn X0 cx P141m16_47 (by decide) (by decide) ?_
  exact ⟨rfl, by subst_vars; rfl⟩
theorem L_0 : Dc code 0 (.lload_n 0) 1 1 := ⟨at_0, rfl⟩
theorem L_1 : Dc code 1 (.invokestatic 7) 3 4 := ⟨at_1, rfl⟩
theorem L_4 : Dc code 4 (.invokestatic 13) 3 7 := ⟨at_4, rfl⟩
theorem L_7 : Dc code 7 (.lload_n 0) 1 8 := ⟨at_7, rfl⟩
theorem L_8 : Dc code 8 (.lcmp) 1 9 := ⟨at_8, rfl⟩
theorem L_9 : Db code 9 (.ifCond .ne 7) (7) 12 16 := ⟨at_9, rfl, by decide, by decide⟩
theorem L_12 : Dc code 12 (.iconst 1) 1 13 := ⟨at_12, rfl⟩
theorem L_13 : Db code 13 (.goto 4) (4) 16 17 := ⟨at_13, rfl, by decide, by decide⟩
theorem L_16 : Dc code 16 (.iconst 0) 1 17 := ⟨at_16, rfl⟩
theorem L_17 : Dc code 17 (.istore 4) 2 19 := ⟨at_17, rfl⟩
theorem L_19 : Dc code 19 (.lload_n 2) 1 20 := ⟨at_19, rfl⟩
theorem L_20 : Dc code 20 (.invokestatic 13) 3 23 := ⟨at_20, rfl⟩
theorem L_23 : Dc code 23 (.invokestatic 7) 3 26 := ⟨at_23, rfl⟩
theorem L_26 : Dc code 26 (.lload_n 2) 1 27 := ⟨at_26, rfl⟩
theorem L_27 : Dc code 27 (.lcmp) 1 28 := ⟨at_27, rfl⟩
theorem L_28 : Db code 28 (.ifCond .ne 7) (7) 31 35 := ⟨at_28, rfl, by decide, by decide⟩
theorem L_31 : Dc code 31 (.iconst 1) 1 32 := ⟨at_31, rfl⟩
theorem L_32 : Db code 32 (.goto 4) (4) 35 36 := ⟨at_32, rfl, by decide, by decide⟩
theorem L_35 : Dc code 35 (.iconst 0) 1 36 := ⟨at_35, rfl⟩
theorem L_36 : Dc code 36 (.istore 5) 2 38 := ⟨at_36, rfl⟩
theorem L_38 : Dc code 38 (.iload 4) 2 40 := ⟨at_38, rfl⟩
theorem L_40 : Db code 40 (.ifCond .eq 12) (12) 43 52 := ⟨at_40, rfl, by decide, by decide⟩
theorem L_43 : Dc code 43 (.iload 5) 2 45 := ⟨at_43, rfl⟩
theorem L_45 : Db code 45 (.ifCond .eq 7) (7) 48 52 := ⟨at_45, rfl, by decide, by decide⟩
theorem L_48 : Dc code 48 (.iconst 1) 1 49 := ⟨at_48, rfl⟩
theorem L_49 : Db code 49 (.goto 4) (4) 52 53 := ⟨at_49, rfl, by decide, by decide⟩
theorem L_52 : Dc code 52 (.iconst 0) 1 53 := ⟨at_52, rfl⟩
theorem L_53 : Dc code 53 (.ireturn) 1 54 := ⟨at_53, rfl⟩
theorem ef_L (m : MethodId) (i0 : Int64) (i1 : Int64) : entryFrame m #[(.long i0), (.long i1)] maxLocals = mkF m 0 #[.val (.long i0), .second, .val (.long i1), .second, .unset, .unset] [] := by first | (simp [entryFrame, mkF, argsToLocals, Value.category, maxLocals]; done) | rfl
set_option maxRecDepth 65536 in
set_option maxHeartbeats 40000000 in
theorem con_L (l : Launch) (Z : State) (a0 : Array Value) (hw : Tb tables_1 a0 Z) (i0 : Int64) (i1 : Int64) (h0 : Heap) (n0 : Nat) (Z0 : n0 ≤ h0.size)  :
    Con l Z x code maxLocals ret room_1 #[(.long i0), (.long i1)] h0 n0 (fun v _ => v = some (.int 1)) := by
  refine Con.of (plainFor_of_name (by decide +kernel)) Z0 ?_
  intro K hl hZ hn cx T0 X0
  subst hl hZ hn
  refine Run.cast (ef_L K.m i0 i1) ?_
  refine r_lloadN X0 cx L_0 rfl ?_
  refine r_static [(.long i0)] [] X0 cx L_1 (hw.get 0 rfl) (hw.get 1 rfl) (hw.get 2 rfl) (hw.get 3 rfl) (by decide) (con_P141m16 K.l K.Z a0 hw i0 h0 K.n0 X0.ge) (lenOf pd_0 rfl) rfl rfl (by decide) (leb rfl) (by decide) (by decide) (fun T1 h1 v1 X1 q1 => ?_) (fun _ _ q => Nat.le_of_eq (congrArg Array.size q.1))
  obtain ⟨rfl, rfl⟩ := q1
  refine r_static [(.long (own_unmix i0))] [] X1 cx L_4 (hw.get 6 rfl) (hw.get 7 rfl) (hw.get 2 rfl) (hw.get 8 rfl) (by decide) (con_P141m15 K.l K.Z a0 hw (own_unmix i0) h0 K.n0 X1.ge) (lenOf pd_0 rfl) rfl rfl (by decide) (leb rfl) (by decide) (by decide) (fun T2 h2 v2 X2 q2 => ?_) (fun _ _ q => Nat.le_of_eq (congrArg Array.size q.1))
  obtain ⟨rfl, rfl⟩ := q2
  refine r_lloadN X2 cx L_7 rfl ?_
  refine r_lcmp X2 cx L_8 ?_
  refine r_lcmpne X2 cx L_9 (fun c9 => ?_) (fun c9 => ?_)
  · exact absurd (own_mu i0) c9
  · refine r_iconst (1) X2 cx L_12 rfl ?_
    refine r_goto X2 cx L_13 ?_
    refine r_istore (fun zz => #[.val (.long i0), .second, .val (.long i1), .second, .val (.int zz), .unset]) X2 cx L_17 (fun _ => rfl) (fun b0 e_b0 => ?_)
    subst e_b0
    refine r_lloadN X2 cx L_19 rfl ?_
    refine r_static [(.long i1)] [] X2 cx L_20 (hw.get 6 rfl) (hw.get 7 rfl) (hw.get 2 rfl) (hw.get 8 rfl) (by decide) (con_P141m15 K.l K.Z a0 hw i1 h0 K.n0 X2.ge) (lenOf pd_0 rfl) rfl rfl (by decide) (leb rfl) (by decide) (by decide) (fun T3 h3 v3 X3 q3 => ?_) (fun _ _ q => Nat.le_of_eq (congrArg Array.size q.1))
    obtain ⟨rfl, rfl⟩ := q3
    refine r_static [(.long (own_mix i1))] [] X3 cx L_23 (hw.get 0 rfl) (hw.get 1 rfl) (hw.get 2 rfl) (hw.get 3 rfl) (by decide) (con_P141m16 K.l K.Z a0 hw (own_mix i1) h0 K.n0 X3.ge) (lenOf pd_0 rfl) rfl rfl (by decide) (leb rfl) (by decide) (by decide) (fun T4 h4 v4 X4 q4 => ?_) (fun _ _ q => Nat.le_of_eq (congrArg Array.size q.1))
    obtain ⟨rfl, rfl⟩ := q4
    refine r_lloadN X4 cx L_26 rfl ?_
    refine r_lcmp X4 cx L_27 ?_
    refine r_lcmpne X4 cx L_28 (fun c28 => ?_) (fun c28 => ?_)
    · exact absurd (own_um i1) c28
    · refine r_iconst (1) X4 cx L_31 rfl ?_
      refine r_goto X4 cx L_32 ?_
      refine r_istore (fun zz => #[.val (.long i0), .second, .val (.long i1), .second, .val (.int (1 : Int32)), .val (.int zz)]) X4 cx L_36 (fun _ => rfl) (fun b1 e_b1 => ?_)
      subst e_b1
      refine r_iload X4 cx L_38 rfl ?_
      refine r_ifeq X4 cx L_40 (fun c => absurd c (by decide)) (fun _ => ?_)
      refine r_iload X4 cx L_43 rfl ?_
      refine r_ifeq X4 cx L_45 (fun c => absurd c (by decide)) (fun _ => ?_)
      refine r_iconst (1) X4 cx L_48 rfl ?_
      refine r_goto X4 cx L_49 ?_
      refine r_zreturn X4 cx L_53 (by decide) (by decide) ?_
      rfl
set_option maxRecDepth 65536 in
set_option maxHeartbeats 40000000 in
theorem comes_1 {Post : Tables → Env → Array Value → State → Outcome → State → Prop} (hpost : ∀ tb e args s v u, (limb_1_1.after args s (.returned v) u = true ∧ limb_1_2.after args s (.returned v) u = true ∧ True) → FrameEnd s (.returned v) u (Jvm.fieldLocs frame_1_writes args s ++ Jvm.arrayLocs frame_1_arrays args s ++ Jvm.staticLocs frame_1_statics s) 0 0 → Post tb e args s (.returned v) u) :
    ArmFor flags0 classFile x code maxLocals ret World_1 tables_1 room_1 Calls_1 rest_1 Pre_1 Post := by
  intro l hfl _ _ p e ha hc hk s m args below hf hA hF happ hP
  obtain ⟨hcalls, hrest, hpre⟩ := hP
  obtain ⟨-, -, -, hnamed, -, -, -, hat⟩ := (Spec.applies_iff hf).mp happ
  obtain ⟨hg, hn⟩ := and_e (Cond.before_iff.mp (show (Jvm.Cond.and given_1 narrow_1).before args s = true from hpre))
  obtain ⟨gc, r0⟩ := and_e hg
  obtain ⟨g0, r1⟩ := and_e r0
  obtain ⟨w0, w1, rfl⟩ : ∃ w0 w1 : Value, args = #[w0, w1] := by
    have hs : args.size = 2 := by simpa [Cond.value, given_1] using gc
    obtain ⟨L⟩ := args
    match L, hs with
    | [w0, w1], _ => exact ⟨w0, w1, rfl⟩
  have hw : Tb tables_1 #[w0, w1] s := fun d (hd : d ∈ tables_1) => atoms_spec (ws := Jvm.Cond.code x code maxLocals ret :: tables_1) hat d (List.mem_cons_of_mem _ hd)
  obtain ⟨i0, ei0⟩ := isL_v g0
  obtain rfl : w0 = (.long i0) := Option.some.inj ei0
  obtain ⟨i1, ei1⟩ := isL_v r1
  obtain rfl : w1 = (.long i1) := Option.some.inj ei1
  obtain ⟨n, o, h1, h2, h3, _, L, rfl, ⟨rfl, N⟩, hq⟩ := con_L l s _ hw i0 i1 s.heap s.heap.size (Nat.le_refl _) tables_1 p e ha hc hk s m _ below hf ((Spec.applies_iff_loose hf).mp happ).1 ⟨rfl, State.Warmed39.refl s, rfl⟩ trivial
  refine ⟨n, _, h1, h2, h3, hpost _ _ _ _ _ _ ⟨Cond.after_iff.mpr rfl, Cond.after_iff.mpr (eq_i res_at (Term.int_eval (1)) rfl), trivial⟩ ⟨hq.1, hq.2.1, (hq.2.2.sift fun y hy => Or.inr (N y hy)).mono (by decide) (by decide)⟩⟩
theorem main_1_1 : Claimed_1_1 := comes_1 fun _ _ _ _ _ _ h hF => ⟨h.1, hF⟩
theorem main_1_2 : Claimed_1_2 := comes_1 fun _ _ _ _ _ _ h hF => ⟨h.2.1, hF⟩
end Jvm.Pilot.@@N@@
namespace Jvm.Pilot.@@N@@
open Jvm Jvm.ClassFile Sem Op Lib Jvm.Free Jvm.Stand Jvm.Pilot.@@N@@.Jvm.D
/-! MADE BY PROGRAM (witnessworld.py) out of the Statement's table words and the real class files: 9 classes; the members and pool entries that the words name. The judged class is class 1, her method 1. -/
namespace start1
open Jvm.ClassFile
def u (s : String) : CpInfo := .utf8 (stringToUtf16 s)
/-- a pool by its gaps: so many unusable entries, then the entry; so many at the end -/
def gap : Nat → List CpInfo → List CpInfo
  | 0, r => r
  | n + 1, r => .unusable :: gap n r
def poolList (es : List (Nat × CpInfo)) (last : Nat) : List CpInfo := es.foldr (fun e r => gap e.1 (e.2 :: r)) (gap last [])
def pool (es : List (Nat × CpInfo)) (last : Nat) : Array CpInfo := ⟨poolList es last⟩
def fileOf (pool : Array CpInfo) (this : Nat) (attrs : Array Attribute := #[]) (ms : Array MethodInfo := #[]) (fl : Nat := 33) (sup : Nat := 0) (ifs : Array Nat := #[]) (fds : Array FieldInfo := #[]) : ClassFile where
  minorVersion := 0
  majorVersion := 65
  constantPool := pool
  accessFlags := fl
  thisClass := this
  superClass := sup
  interfaces := ifs
  fields := fds
  methods := ms
  attributes := attrs
def plain (name : String) (sup : Option ClassId) : Class where
  name := name
  kind := .ordinary
  loader := none
  accessFlags := 33
  super := sup
  interfaces := #[]
  cf := none
  fields := #[]
  methods := #[]
  instanceTypes := #[]
  staticTypes := #[]
  resolved := #[]
  callSites := []
  init := .initialized
  statics := none
  mirror := none

def pool0 : Array CpInfo := pool [(5, u "<init>"), (0, u "()V"), (1, .class_ 10), (1, u "java/lang/Object")] 113

def k0m0 : Method := { name := "<init>", desc := "()V", sig := { parameters := [], returnType := none }, accessFlags := 1, code := none }
/-- java/lang/Object -/
def k0 : Class := { plain "java/lang/Object" none with
  accessFlags := 33
  interfaces := #[]
  cf := some (fileOf pool0 8 #[] #[{ accessFlags := 1, nameIndex := 5, descriptorIndex := 6, attributes := #[] }] 33 0 #[] #[])
  fields := #[]
  methods := #[k0m0]
  instanceTypes := #[]
  staticTypes := #[]
  resolved := Array.replicate 124 none
  statics := none }

def pool1 : Array CpInfo := pool [(2, .class_ 4), (1, u "java/lang/Object"), (0, u "<init>"), (0, u "()V"), (0, .methodref 8 9), (0, .class_ 10), (0, .nameAndType 11 12), (0, u "com/example/kindred/kindred/SeededRandom"), (0, u "unmix"), (0, u "(J)J"), (0, .methodref 8 14), (0, .nameAndType 15 12), (0, u "mix"), (0, .class_ 17), (0, u "com/example/kindred/kindred/SeededRandomUnmixPinLaw"), (2, u "law"), (0, u "(JJ)Z")] 3

def k1m0 : Method := { name := "<init>", desc := "()V", sig := { parameters := [], returnType := none }, accessFlags := 1, code := none }
def k1c1 : Code := { maxStack := 4, maxLocals := 6, code := code, exceptionTable := #[], attributes := #[] }
def k1m1 : Method := { name := "law", desc := "(JJ)Z", sig := { parameters := [.long, .long], returnType := some .boolean }, accessFlags := 9, code := some k1c1 }
/-- com/example/kindred/kindred/SeededRandomUnmixPinLaw -/
def k1 : Class := { plain "com/example/kindred/kindred/SeededRandomUnmixPinLaw" (some 0) with
  accessFlags := 49
  interfaces := #[]
  cf := some (fileOf pool1 16 #[] #[{ accessFlags := 1, nameIndex := 5, descriptorIndex := 6, attributes := #[] }, { accessFlags := 9, nameIndex := 20, descriptorIndex := 21, attributes := #[] }] 49 2 #[] #[])
  fields := #[]
  methods := #[k1m0, k1m1]
  instanceTypes := #[]
  staticTypes := #[]
  resolved := Array.replicate 25 none
  statics := none }

def pool2 : Array CpInfo := pool [(2, .class_ 4), (1, u "java/lang/Object"), (3, .class_ 10), (1, u "com/example/kindred/kindred/SeededRandom"), (0, u "_state"), (0, u "J"), (4, u "mix"), (0, u "(J)J"), (2, u "GAMMA_INVERSE"), (19, .class_ 43), (1, u "com/example/kindred/kindred/SeededRandom$Bound"), (21, .long 13787848793156543929), (1, .long 10723151780598845931), (1, .long 3573116690164977347), (1, .long 10871156337175269513), (4, u "GAMMA"), (14, u "unmix")] 20

def k2c0 : Code := { maxStack := 5, maxLocals := 2, code := prog_141_method_15_code, exceptionTable := #[], attributes := #[] }
def k2m0 : Method := { name := "mix", desc := "(J)J", sig := { parameters := [.long], returnType := some .long }, accessFlags := 8, code := some k2c0 }
def k2c1 : Code := { maxStack := 5, maxLocals := 4, code := prog_141_method_16_code, exceptionTable := #[], attributes := #[] }
def k2m1 : Method := { name := "unmix", desc := "(J)J", sig := { parameters := [.long], returnType := some .long }, accessFlags := 8, code := some k2c1 }
/-- com/example/kindred/kindred/SeededRandom -/
def k2 : Class := { plain "com/example/kindred/kindred/SeededRandom" (some 0) with
  accessFlags := 48
  interfaces := #[]
  cf := some (fileOf pool2 8 #[.nestMembers #[41]] #[{ accessFlags := 8, nameIndex := 17, descriptorIndex := 18, attributes := #[] }, { accessFlags := 8, nameIndex := 91, descriptorIndex := 18, attributes := #[] }] 48 2 #[] #[{ accessFlags := 26, nameIndex := 76, descriptorIndex := 12, attributes := #[] }, { accessFlags := 26, nameIndex := 21, descriptorIndex := 12, attributes := #[] }, { accessFlags := 2, nameIndex := 11, descriptorIndex := 12, attributes := #[] }])
  fields := #[{ name := "GAMMA", type := .long, accessFlags := 26, slot := 0, constantValue := 0 }, { name := "GAMMA_INVERSE", type := .long, accessFlags := 26, slot := 1, constantValue := 0 }, { name := "_state", type := .long, accessFlags := 2, slot := 0, constantValue := 0 }]
  methods := #[k2m0, k2m1]
  instanceTypes := #[.long]
  staticTypes := #[.long, .long]
  resolved := Array.replicate 112 none
  statics := none }

def pool3 : Array CpInfo := pool [(1, u "java/lang/Cloneable"), (0, .class_ 1), (0, u "java/lang/Object"), (0, .class_ 3)] 3

/-- java/lang/Cloneable -/
def k3 : Class := { plain "java/lang/Cloneable" (some 0) with
  accessFlags := 1537
  interfaces := #[]
  cf := some (fileOf pool3 2 #[] #[] 1537 4 #[] #[])
  fields := #[]
  methods := #[]
  instanceTypes := #[]
  staticTypes := #[]
  resolved := Array.replicate 8 none
  statics := none }

def pool4 : Array CpInfo := pool [(1, u "java/io/Serializable"), (0, .class_ 1), (0, u "java/lang/Object"), (0, .class_ 3)] 3

/-- java/io/Serializable -/
def k4 : Class := { plain "java/io/Serializable" (some 0) with
  accessFlags := 1537
  interfaces := #[]
  cf := some (fileOf pool4 2 #[] #[] 1537 4 #[] #[])
  fields := #[]
  methods := #[]
  instanceTypes := #[]
  staticTypes := #[]
  resolved := Array.replicate 8 none
  statics := none }

/-- the primitive byte -/
def k5 : Class := { plain "byte" none with kind := .primitive 'B', accessFlags := 0x411 }
/-- [B -/
def k6 : Class := { plain "[B" (some 0) with kind := .array 5 .byte, interfaces := #[3, 4], accessFlags := 1041 }

/-- the primitive int -/
def k7 : Class := { plain "int" none with kind := .primitive 'I', accessFlags := 0x411 }
/-- [I -/
def k8 : Class := { plain "[I" (some 0) with kind := .array 7 .int, interfaces := #[3, 4], accessFlags := 1041 }

def heap : Heap := #[]
def classes : Array Class := #[k0, k1, k2, k3, k4, k5, k6, k7, k8]
def interned : List (Array UInt16 × Addr) := []
def slotsUsed : Nat := 0
def theMethod : MethodId := ⟨1, 1⟩
def args0 : Array Value := #[.long 5, .long 6]
def aboutOver (below : List Frame) : State where
  vm := { classes := classes, interned := interned.toArray }
  heap := heap
  slotsUsed := slotsUsed
  threads := #[{ frames := .invoking theMethod args0 :: below }]
def below0 : List Frame := [.native { method := ⟨0, 0⟩, args := #[] }]
def about1 : State := aboutOver below0
def p0 : Program := .bare "" "" ""
def e0 : Env := launch0.env 0 0 0
theorem w_frames : about1.frames = Frame.invoking theMethod args0 :: below0 := rfl
set_option maxRecDepth 65536 in
theorem w_args : argsFit about1.vm theMethod args0 = true := by decide +kernel
set_option maxRecDepth 65536 in
theorem w_heap : heapFits about1 = true := by decide +kernel
set_option maxRecDepth 65536 in
theorem w_runnable : about1.curStatus? = some .runnable := by decide +kernel
set_option maxRecDepth 65536 in
theorem w_alone : about1.alone = true := by decide +kernel
set_option maxRecDepth 65536 in
theorem w_named : about1.methodNamed? x = some theMethod := by decide +kernel
set_option maxRecDepth 65536 in
theorem w_hears : about1.hears theMethod below0 = true := by decide +kernel
set_option maxRecDepth 65536 in
theorem w_ripe : about1.ripe theMethod args0 below0 = true := by decide +kernel
theorem w_running : about1.status = .running := rfl
set_option maxRecDepth 65536 in
theorem w_room : about1.hasRoom e0.platform room_1 = true :=
  launch0.hasRoom_least _ room_1 (by decide +kernel) (by decide +kernel) (by decide +kernel) (by decide +kernel) (by decide +kernel) (by decide +kernel)
theorem allAtoms_all (ts : List Jvm.Cond) (a : Array Jvm.Value) (st : Jvm.State) : (allAtoms ts).before a st = ts.all (fun c => c.before a st) := by
  induction ts with
  | nil => rfl
  | cons c t ih =>
    show (Jvm.Cond.and c (allAtoms t)).before a st = _
    rw [Jvm.Cond.before_and, ih, List.all_cons]
def words1 : List Jvm.Cond := Jvm.Cond.code x code maxLocals ret :: tables_1
/-- a 'code' word, met by the world's own term for the bytes: nothing is compared byte by byte -/
theorem code_word {y : MethodName} {bytes : ByteArray} {mx : Nat} {rt : Option FieldType} {a : Array Value} {s : State} {m : MethodId} {meth : Method} {c : Code} (h1 : s.methodNamed? y = some m) (h2 : s.vm.method? m = some meth) (h3 : meth.code = some c) (h4 : c.code = bytes)
    (h5 : (c.maxLocals == mx && c.exceptionTable.isEmpty && decide (c.maxStack ≤ mostOperands) && decide (meth.sig.returnType = rt) && !meth.locks && decide (parseMethodDescriptor y.desc = some meth.sig)) = true) : (Jvm.Cond.code y bytes mx rt).before a s = true := by
  simp only [Bool.and_eq_true, beq_iff_eq, Bool.not_eq_true', decide_eq_true_eq] at h5
  obtain ⟨⟨⟨⟨⟨g1, g2⟩, g3⟩, g4⟩, g5⟩, g6⟩ := h5
  simp [Cond.before, Cond.holds, Cond.value, h1, h2, h3, h4, g1, g2, g3, g4, g5, g6]
def isCode : Jvm.Cond → Bool
  | .code _ _ _ _ => true
  | _ => false
theorem all_split {L : List Jvm.Cond} {P : Jvm.Cond → Bool} (h1 : L.all (fun c => isCode c || P c) = true) (h2 : ∀ c ∈ L.filter isCode, P c = true) : L.all P = true := by
  refine List.all_eq_true.mpr fun c hc => ?_
  have h := List.all_eq_true.mp h1 c hc
  rcases Bool.eq_false_or_eq_true (isCode c) with hi | hi
  · exact h2 c (List.mem_filter.mpr ⟨hc, hi⟩)
  · simpa [hi] using h
set_option maxRecDepth 65536 in
theorem w_c0 : (Jvm.Cond.code x code maxLocals ret).before args0 about1 = true := code_word (m := ⟨1, 1⟩) (meth := k1m1) (c := k1c1) (by decide +kernel) rfl rfl rfl (by decide +kernel)
set_option maxRecDepth 65536 in
theorem w_c1 : (Jvm.Cond.code ({ cls := "com/example/kindred/kindred/SeededRandom", name := "unmix", desc := "(J)J" } : Jvm.MethodName) prog_141_method_16_code (4 : Nat) (Option.some Jvm.ClassFile.FieldType.long)).before args0 about1 = true := code_word (m := ⟨2, 1⟩) (meth := k2m1) (c := k2c1) (by decide +kernel) rfl rfl rfl (by decide +kernel)
set_option maxRecDepth 65536 in
theorem w_c2 : (Jvm.Cond.code ({ cls := "com/example/kindred/kindred/SeededRandom", name := "mix", desc := "(J)J" } : Jvm.MethodName) prog_141_method_15_code (2 : Nat) (Option.some Jvm.ClassFile.FieldType.long)).before args0 about1 = true := code_word (m := ⟨2, 0⟩) (meth := k2m0) (c := k2c0) (by decide +kernel) rfl rfl rfl (by decide +kernel)
def codes1 : List Jvm.Cond := [Jvm.Cond.code x code maxLocals ret, Jvm.Cond.code ({ cls := "com/example/kindred/kindred/SeededRandom", name := "unmix", desc := "(J)J" } : Jvm.MethodName) prog_141_method_16_code (4 : Nat) (Option.some Jvm.ClassFile.FieldType.long), Jvm.Cond.code ({ cls := "com/example/kindred/kindred/SeededRandom", name := "mix", desc := "(J)J" } : Jvm.MethodName) prog_141_method_15_code (2 : Nat) (Option.some Jvm.ClassFile.FieldType.long)]
set_option maxRecDepth 65536 in
theorem codes_eq : words1.filter isCode = codes1 := rfl
theorem w_codes : ∀ c ∈ words1.filter isCode, c.before args0 about1 = true := by
  rw [codes_eq]
  intro c hc
  simp only [codes1, List.mem_cons, List.not_mem_nil, or_false] at hc
  rcases hc with rfl | rfl | rfl
  · exact w_c0
  · exact w_c1
  · exact w_c2
set_option maxRecDepth 65536 in
theorem w_t1 : words1.all (fun c => isCode c || c.before args0 about1) = true := by decide +kernel
theorem w_tables : (allAtoms (Jvm.Cond.code x code maxLocals ret :: tables_1)).before args0 about1 = true := by
  rw [allAtoms_all]
  show words1.all (fun c => c.before args0 about1) = true
  refine all_split ?_ w_codes
  rw [w_t1]
set_option maxRecDepth 65536 in
theorem w_case : (Jvm.Cond.and given_1 narrow_1).before args0 about1 = true := by decide +kernel
theorem w_applies : (headSpec (Jvm.Cond.code x code maxLocals ret :: tables_1) room_1).applies x e0.platform about1 = true :=
  (Spec.applies_iff w_frames).mpr ⟨w_running, w_runnable, w_alone, w_named, w_hears, w_ripe, w_room, w_tables⟩
theorem atStart : AtStart classFile x code maxLocals ret World_1 tables_1 room_1 Calls_1 rest_1 Pre_1 launch0 p0 e0 about1 theMethod args0 below0 :=
  ⟨lists_1, trivial, launch0.admits_env _ _ _, launch0.least_env, fairChoices_fair.cas, fairChoices_fair.clock, w_frames, w_args, w_heap, w_applies, trivial, trivial, w_case⟩
end start1
theorem witness_1 : WitnessClaimed_1 := ⟨start1.p0, start1.e0, start1.about1, start1.theMethod, start1.args0, start1.below0, start1.atStart⟩
end Jvm.Pilot.@@N@@

import JvmDerived
import JvmDerived.Pilot.@@N@@Statement
import JvmDerived.Pilot.@@N@@Code
set_option linter.unusedVariables false
set_option linter.unusedSimpArgs false
namespace Jvm.RoadKit
open Sem ClassFile Op Lib Jvm.Stand Jvm.Free Jvm.LawKit
section New
variable {p : Program} {l : Launch} {e : Env} {R : Room} {s : State} {m : MethodId} {args : Array Value} {below : List Frame} {meth : Method} {c : Code} {T : State} {locs : List Loc} {cells slots : Nat}
theorem retI (X : Stand p l e R s m args below meth c T locs cells slots) (hx : p.tables.exec = Jvm.exec) {pc : Nat} {Ls : Array Slot} {z : Int32} {rest : List Value} (hret : meth.sig.returnType = some .int) (hd : decode c.code pc = .ok (.ireturn, 1)) {fs : List Frame}
    (hl : ∀ (f : JFrame) (acts : List Action), f.method = m → f.locked = none → f.entered = [] → (doReturn e (T.setTop f) acts (some (.int z))).1 = T.setFrames fs) : Steps p.tables e below (T.setTop (mkF m pc Ls (.int z :: rest))) (T.setFrames fs) := by
  have hm' : T.vm.method? m = some meth := X.method'
  have hn : narrow .int (.int z) = .int z := rfl
  show Steps p.tables e below (T.setTop { method := m, pc := pc, locals := Ls, stack := _ :: rest, locked := none }) _
  jvm_step X.here [X.here.top, hx, hd, hm', hret, hn]
  first | (intro acts; rw [hl _ acts rfl rfl rfl]) | rw [hl _ _ rfl rfl rfl]
  exact Steps.refl _
end New
end Jvm.RoadKit
namespace Jvm.Own
open Sem ClassFile Op Lib Jvm.Stand Jvm.Free Jvm.LawKit Jvm.RoadKit
/-- the constants of one body's walk -/
abbrev KT := Program × Launch × Env × Room × State × MethodId × Array Value × List Frame × Method × Code × State × Nat
abbrev KT.p (K : KT) : Program := K.1
abbrev KT.l (K : KT) : Launch := K.2.1
abbrev KT.e (K : KT) : Env := K.2.2.1
abbrev KT.R (K : KT) : Room := K.2.2.2.1
abbrev KT.s (K : KT) : State := K.2.2.2.2.1
abbrev KT.m (K : KT) : MethodId := K.2.2.2.2.2.1
abbrev KT.args (K : KT) : Array Value := K.2.2.2.2.2.2.1
abbrev KT.below (K : KT) : List Frame := K.2.2.2.2.2.2.2.1
abbrev KT.meth (K : KT) : Method := K.2.2.2.2.2.2.2.2.1
abbrev KT.c (K : KT) : Code := K.2.2.2.2.2.2.2.2.2.1
abbrev KT.Z (K : KT) : State := K.2.2.2.2.2.2.2.2.2.2.1
abbrev KT.n0 (K : KT) : Nat := K.2.2.2.2.2.2.2.2.2.2.2
/-- what is known of the body -/
def Cx (K : KT) (y : MethodName) (bytes : ByteArray) (mx : Nat) (rt : Option FieldType) (R : Room) : Prop :=
  K.p.tables.exec = Jvm.exec ∧ K.Z.Warmed39 K.s.vm ∧ K.c.code = bytes ∧ K.c.maxLocals = mx ∧ K.s.vm.findClass y.cls = some K.m.cls ∧ K.meth.sig.returnType = rt ∧ K.meth.locks = false ∧ K.R = R ∧ K.meth.name = y.name
/-- where the walk stands: heap h, so many cells and slots made; nothing old written -/
def Sd (K : KT) (T : State) (h : Heap) (cl sl : Nat) : Prop := ∃ locs, Stand K.p K.l K.e K.R K.s K.m K.args K.below K.meth K.c T locs cl sl ∧ Fr K.n0 locs ∧ K.n0 ≤ h.size ∧ T.heap = h
/-- from here the body comes to its end, and Q holds of what it returns and of the heap then -/
def Run (K : KT) (Q : Option Value → Heap → Prop) (T : State) (g : JFrame) : Prop :=
  ∃ s₂ v L, Steps K.p.tables K.e K.below (T.setTop g) s₂ ∧ s₂.status = .running ∧ Ended s₂ K.below (.returned v) ∧ Q v s₂.heap ∧ Fr K.n0 L ∧ FrameEnd K.s (.returned v) s₂ L K.R.cells K.R.slots
theorem Run.st {K : KT} {Q : Option Value → Heap → Prop} {T T' : State} {g g' : JFrame} (st : ∀ t, Steps K.p.tables K.e K.below (T'.setTop g') t → Steps K.p.tables K.e K.below (T.setTop g) t) (k : Run K Q T' g') : Run K Q T g := by
  obtain ⟨s₂, v, L, h1, h2⟩ := k
  exact ⟨s₂, v, L, st _ h1, h2⟩
theorem Run.cast {K : KT} {Q : Option Value → Heap → Prop} {T : State} {g g' : JFrame} (q : g = g') (k : Run K Q T g') : Run K Q T g := q ▸ k
theorem Run.mono {K : KT} {Q Q' : Option Value → Heap → Prop} {T : State} {g : JFrame} (k : Run K Q T g) (q : ∀ v h, Q v h → Q' v h) : Run K Q' T g := by
  obtain ⟨s₂, v, L, h1, h2, h3, h4, h5⟩ := k
  exact ⟨s₂, v, L, h1, h2, h3, q _ _ h4, h5⟩
/-- the words of a sheet -/
def Tb (ws : List Jvm.Cond) (a0 : Array Value) (Z : State) : Prop := ∀ d ∈ ws, d.before a0 Z = true
theorem Tb.get {ws : List Jvm.Cond} {a0 : Array Value} {Z : State} (hw : Tb ws a0 Z) (i : Nat) {d : Jvm.Cond} (h : ws[i]? = some d) : d.before a0 Z = true := hw d (List.mem_of_getElem? h)
/-- an instruction, its length, the pc behind -/
def Dc (bytes : ByteArray) (pc : Nat) (i : Instr) (n pc' : Nat) : Prop := decode bytes pc = .ok (i, n) ∧ pc + n = pc'
/-- a branch: the pc behind, the pc that it goes to -/
def Db (bytes : ByteArray) (pc : Nat) (i : Instr) (o : Int) (pc' pt : Nat) : Prop := decode bytes pc = .ok (i, 3) ∧ pc + 3 = pc' ∧ 0 ≤ (pc : Int) + o ∧ ((pc : Int) + o).toNat = pt
theorem ne_new {a b : Addr} {h : Heap} (ea : a = h.size) (q : b < h.size) : a ≠ b := by subst ea; exact Nat.ne_of_gt q
theorem fr_new {h0 h : Heap} {a : Addr} (ea : a = h.size) (q : h0.size ≤ h.size) : h0.size ≤ a := ea ▸ q
theorem leb {a b : Nat} (h : Nat.ble a b = true) : a ≤ b := Nat.le_of_ble_eq_true h
theorem ltb {a b : Nat} (h : Nat.ble (a + 1) b = true) : a < b := Nat.le_of_ble_eq_true h
section Rules
variable {K : KT} {Q : Option Value → Heap → Prop} {T : State} {h : Heap} {cl sl : Nat} {y : MethodName} {bytes : ByteArray} {mx : Nat} {rt : Option FieldType} {R : Room} {pc pc' pt : Nat} {L : Array Slot} {S : List Value}
theorem r_top {v v' : Int32} (q : v = v') (k : Run K Q T (mkF K.m pc L (.int v' :: S))) : Run K Q T (mkF K.m pc L (.int v :: S)) := q ▸ k
theorem r_topL {v v' : Int64} (q : v = v') (k : Run K Q T (mkF K.m pc L (.long v' :: S))) : Run K Q T (mkF K.m pc L (.long v :: S)) := q ▸ k
theorem Sd.ge (X : Sd K T h cl sl) : K.n0 ≤ h.size := by obtain ⟨_, _, _, q, _⟩ := X; exact q
theorem r_iloadN {i : Fin 4} {v : Int32} (X : Sd K T h cl sl) (cx : Cx K y bytes mx rt R) (hd : Dc bytes pc (.iload_n i) 1 pc') (hl : L[i.val]? = some (.val (.int v))) (k : Run K Q T (mkF K.m pc' L (.int v :: S))) : Run K Q T (mkF K.m pc L (S)) := by
  obtain ⟨locs, X0, -⟩ := X; obtain ⟨hx, -, hby, -⟩ := cx; obtain ⟨d, rfl⟩ := hd
  exact Run.st (fun t q => XS.iloadN X0.here hx rfl (hb hby d) hl q) k
theorem r_iload {i : Nat} {v : Int32} (X : Sd K T h cl sl) (cx : Cx K y bytes mx rt R) (hd : Dc bytes pc (.iload i) 2 pc') (hl : L[i]? = some (.val (.int v))) (k : Run K Q T (mkF K.m pc' L (.int v :: S))) : Run K Q T (mkF K.m pc L (S)) := by
  obtain ⟨locs, X0, -⟩ := X; obtain ⟨hx, -, hby, -⟩ := cx; obtain ⟨d, rfl⟩ := hd
  exact Run.st (fun t q => XS.iload X0.here hx rfl (hb hby d) hl q) k
theorem r_lloadN {i : Fin 4} {v : Int64} (X : Sd K T h cl sl) (cx : Cx K y bytes mx rt R) (hd : Dc bytes pc (.lload_n i) 1 pc') (hl : L[i.val]? = some (.val (.long v))) (k : Run K Q T (mkF K.m pc' L (.long v :: S))) : Run K Q T (mkF K.m pc L (S)) := by
  obtain ⟨locs, X0, -⟩ := X; obtain ⟨hx, -, hby, -⟩ := cx; obtain ⟨d, rfl⟩ := hd
  exact Run.st (fun t q => XT.lloadN X0.here hx rfl (hb hby d) hl q) k
theorem r_lload {i : Nat} {v : Int64} (X : Sd K T h cl sl) (cx : Cx K y bytes mx rt R) (hd : Dc bytes pc (.lload i) 2 pc') (hl : L[i]? = some (.val (.long v))) (k : Run K Q T (mkF K.m pc' L (.long v :: S))) : Run K Q T (mkF K.m pc L (S)) := by
  obtain ⟨locs, X0, -⟩ := X; obtain ⟨hx, -, hby, -⟩ := cx; obtain ⟨d, rfl⟩ := hd
  exact Run.st (fun t q => XT.lload X0.here hx rfl (hb hby d) hl q) k
theorem r_aloadN {i : Fin 4} {v : Addr} (X : Sd K T h cl sl) (cx : Cx K y bytes mx rt R) (hd : Dc bytes pc (.aload_n i) 1 pc') (hl : L[i.val]? = some (.val (.ref v))) (k : Run K Q T (mkF K.m pc' L (.ref v :: S))) : Run K Q T (mkF K.m pc L (S)) := by
  obtain ⟨locs, X0, -⟩ := X; obtain ⟨hx, -, hby, -⟩ := cx; obtain ⟨d, rfl⟩ := hd
  exact Run.st (fun t q => XS.aloadN X0.here hx rfl (hb hby d) hl rfl q) k
theorem r_aload {i : Nat} {v : Addr} (X : Sd K T h cl sl) (cx : Cx K y bytes mx rt R) (hd : Dc bytes pc (.aload i) 2 pc') (hl : L[i]? = some (.val (.ref v))) (k : Run K Q T (mkF K.m pc' L (.ref v :: S))) : Run K Q T (mkF K.m pc L (S)) := by
  obtain ⟨locs, X0, -⟩ := X; obtain ⟨hx, -, hby, -⟩ := cx; obtain ⟨d, rfl⟩ := hd
  exact Run.st (fun t q => XS.aload X0.here hx rfl (hb hby d) hl rfl q) k
theorem r_iconst {i : Int} (v : Int32) (X : Sd K T h cl sl) (cx : Cx K y bytes mx rt R) (hd : Dc bytes pc (.iconst i) 1 pc') (hv : Int32.ofInt i = v) (k : Run K Q T (mkF K.m pc' L (.int v :: S))) : Run K Q T (mkF K.m pc L (S)) := by
  obtain ⟨locs, X0, -⟩ := X; obtain ⟨hx, -, hby, -⟩ := cx; obtain ⟨d, rfl⟩ := hd
  exact Run.st (fun t q => XT.iconstV X0.here hx rfl v (hb hby d) hv q) k
theorem r_bipush {i : Int} (v : Int32) (X : Sd K T h cl sl) (cx : Cx K y bytes mx rt R) (hd : Dc bytes pc (.bipush i) 2 pc') (hv : (Int8.ofInt i).toInt32 = v) (k : Run K Q T (mkF K.m pc' L (.int v :: S))) : Run K Q T (mkF K.m pc L (S)) := by
  obtain ⟨locs, X0, -⟩ := X; obtain ⟨hx, -, hby, -⟩ := cx; obtain ⟨d, rfl⟩ := hd
  exact Run.st (fun t q => XT.bipushV X0.here hx rfl v (hb hby d) hv q) k
theorem r_sipush {i : Int} (v : Int32) (X : Sd K T h cl sl) (cx : Cx K y bytes mx rt R) (hd : Dc bytes pc (.sipush i) 3 pc') (hv : (Int16.ofInt i).toInt32 = v) (k : Run K Q T (mkF K.m pc' L (.int v :: S))) : Run K Q T (mkF K.m pc L (S)) := by
  obtain ⟨locs, X0, -⟩ := X; obtain ⟨hx, -, hby, -⟩ := cx; obtain ⟨d, rfl⟩ := hd
  exact Run.st (fun t q => XT.sipushV X0.here hx rfl v (hb hby d) hv q) k
theorem r_lconst {i : Fin 2} (v : Int64) (X : Sd K T h cl sl) (cx : Cx K y bytes mx rt R) (hd : Dc bytes pc (.lconst i) 1 pc') (hv : Int64.ofNat i = v) (k : Run K Q T (mkF K.m pc' L (.long v :: S))) : Run K Q T (mkF K.m pc L (S)) := by
  obtain ⟨locs, X0, -⟩ := X; obtain ⟨hx, -, hby, -⟩ := cx; obtain ⟨d, rfl⟩ := hd
  exact Run.st (fun t q => XT.lconstV X0.here hx rfl v (hb hby d) hv q) k
theorem r_iadd {a b : Int32} (X : Sd K T h cl sl) (cx : Cx K y bytes mx rt R) (hd : Dc bytes pc .iadd 1 pc') (k : Run K Q T (mkF K.m pc' L (.int (a + b) :: S))) : Run K Q T (mkF K.m pc L (.int b :: .int a :: S)) := by
  obtain ⟨locs, X0, -⟩ := X; obtain ⟨hx, -, hby, -⟩ := cx; obtain ⟨d, rfl⟩ := hd
  exact Run.st (fun t q => XS.iadd X0.here hx rfl (hb hby d) rfl q) k
theorem r_isub {a b : Int32} (X : Sd K T h cl sl) (cx : Cx K y bytes mx rt R) (hd : Dc bytes pc .isub 1 pc') (k : Run K Q T (mkF K.m pc' L (.int (a - b) :: S))) : Run K Q T (mkF K.m pc L (.int b :: .int a :: S)) := by
  obtain ⟨locs, X0, -⟩ := X; obtain ⟨hx, -, hby, -⟩ := cx; obtain ⟨d, rfl⟩ := hd
  exact Run.st (fun t q => XS.isub X0.here hx rfl (hb hby d) rfl q) k
theorem r_imul {a b : Int32} (X : Sd K T h cl sl) (cx : Cx K y bytes mx rt R) (hd : Dc bytes pc .imul 1 pc') (k : Run K Q T (mkF K.m pc' L (.int (a * b) :: S))) : Run K Q T (mkF K.m pc L (.int b :: .int a :: S)) := by
  obtain ⟨locs, X0, -⟩ := X; obtain ⟨hx, -, hby, -⟩ := cx; obtain ⟨d, rfl⟩ := hd
  exact Run.st (fun t q => XS.imul X0.here hx rfl (hb hby d) rfl q) k
theorem r_iand {a b : Int32} (X : Sd K T h cl sl) (cx : Cx K y bytes mx rt R) (hd : Dc bytes pc .iand 1 pc') (k : Run K Q T (mkF K.m pc' L (.int (a &&& b) :: S))) : Run K Q T (mkF K.m pc L (.int b :: .int a :: S)) := by
  obtain ⟨locs, X0, -⟩ := X; obtain ⟨hx, -, hby, -⟩ := cx; obtain ⟨d, rfl⟩ := hd
  exact Run.st (fun t q => XS.iand X0.here hx rfl (hb hby d) rfl q) k
theorem r_ior {a b : Int32} (X : Sd K T h cl sl) (cx : Cx K y bytes mx rt R) (hd : Dc bytes pc .ior 1 pc') (k : Run K Q T (mkF K.m pc' L (.int (a ||| b) :: S))) : Run K Q T (mkF K.m pc L (.int b :: .int a :: S)) := by
  obtain ⟨locs, X0, -⟩ := X; obtain ⟨hx, -, hby, -⟩ := cx; obtain ⟨d, rfl⟩ := hd
  exact Run.st (fun t q => XT.ior X0.here hx rfl (hb hby d) rfl q) k
theorem r_ixor {a b : Int32} (X : Sd K T h cl sl) (cx : Cx K y bytes mx rt R) (hd : Dc bytes pc .ixor 1 pc') (k : Run K Q T (mkF K.m pc' L (.int (a ^^^ b) :: S))) : Run K Q T (mkF K.m pc L (.int b :: .int a :: S)) := by
  obtain ⟨locs, X0, -⟩ := X; obtain ⟨hx, -, hby, -⟩ := cx; obtain ⟨d, rfl⟩ := hd
  exact Run.st (fun t q => XT.ixor X0.here hx rfl (hb hby d) rfl q) k
theorem r_ishl {a b : Int32} (X : Sd K T h cl sl) (cx : Cx K y bytes mx rt R) (hd : Dc bytes pc .ishl 1 pc') (k : Run K Q T (mkF K.m pc' L (.int (a <<< (b &&& 31)) :: S))) : Run K Q T (mkF K.m pc L (.int b :: .int a :: S)) := by
  obtain ⟨locs, X0, -⟩ := X; obtain ⟨hx, -, hby, -⟩ := cx; obtain ⟨d, rfl⟩ := hd
  exact Run.st (fun t q => XT.ishl X0.here hx rfl (hb hby d) rfl q) k
theorem r_ishr {a b : Int32} (X : Sd K T h cl sl) (cx : Cx K y bytes mx rt R) (hd : Dc bytes pc .ishr 1 pc') (k : Run K Q T (mkF K.m pc' L (.int (a >>> (b &&& 31)) :: S))) : Run K Q T (mkF K.m pc L (.int b :: .int a :: S)) := by
  obtain ⟨locs, X0, -⟩ := X; obtain ⟨hx, -, hby, -⟩ := cx; obtain ⟨d, rfl⟩ := hd
  exact Run.st (fun t q => XT.ishr X0.here hx rfl (hb hby d) rfl q) k
theorem r_iushr {a b : Int32} (X : Sd K T h cl sl) (cx : Cx K y bytes mx rt R) (hd : Dc bytes pc .iushr 1 pc') (k : Run K Q T (mkF K.m pc' L (.int (XT.ushr a b) :: S))) : Run K Q T (mkF K.m pc L (.int b :: .int a :: S)) := by
  obtain ⟨locs, X0, -⟩ := X; obtain ⟨hx, -, hby, -⟩ := cx; obtain ⟨d, rfl⟩ := hd
  exact Run.st (fun t q => XT.iushr X0.here hx rfl (hb hby d) rfl q) k
theorem r_idiv {a b : Int32} (X : Sd K T h cl sl) (cx : Cx K y bytes mx rt R) (hd : Dc bytes pc .idiv 1 pc') (hne : b ≠ 0) (k : Run K Q T (mkF K.m pc' L (.int (a / b) :: S))) : Run K Q T (mkF K.m pc L (.int b :: .int a :: S)) := by
  obtain ⟨locs, X0, -⟩ := X; obtain ⟨hx, -, hby, -⟩ := cx; obtain ⟨d, rfl⟩ := hd
  exact Run.st (fun t q => XS.idiv X0.here hx rfl (hb hby d) rfl hne q) k
theorem r_irem {a b : Int32} (X : Sd K T h cl sl) (cx : Cx K y bytes mx rt R) (hd : Dc bytes pc .irem 1 pc') (hne : b ≠ 0) (k : Run K Q T (mkF K.m pc' L (.int (a - (a / b) * b) :: S))) : Run K Q T (mkF K.m pc L (.int b :: .int a :: S)) := by
  obtain ⟨locs, X0, -⟩ := X; obtain ⟨hx, -, hby, -⟩ := cx; obtain ⟨d, rfl⟩ := hd
  exact Run.st (fun t q => XS.irem X0.here hx rfl (hb hby d) rfl hne q) k
theorem r_ladd {a b : Int64} (X : Sd K T h cl sl) (cx : Cx K y bytes mx rt R) (hd : Dc bytes pc .ladd 1 pc') (k : Run K Q T (mkF K.m pc' L (.long (a + b) :: S))) : Run K Q T (mkF K.m pc L (.long b :: .long a :: S)) := by
  obtain ⟨locs, X0, -⟩ := X; obtain ⟨hx, -, hby, -⟩ := cx; obtain ⟨d, rfl⟩ := hd
  exact Run.st (fun t q => XT.ladd X0.here hx rfl (hb hby d) rfl q) k
theorem r_lsub {a b : Int64} (X : Sd K T h cl sl) (cx : Cx K y bytes mx rt R) (hd : Dc bytes pc .lsub 1 pc') (k : Run K Q T (mkF K.m pc' L (.long (a - b) :: S))) : Run K Q T (mkF K.m pc L (.long b :: .long a :: S)) := by
  obtain ⟨locs, X0, -⟩ := X; obtain ⟨hx, -, hby, -⟩ := cx; obtain ⟨d, rfl⟩ := hd
  exact Run.st (fun t q => XT.lsub X0.here hx rfl (hb hby d) rfl q) k
theorem r_lmul {a b : Int64} (X : Sd K T h cl sl) (cx : Cx K y bytes mx rt R) (hd : Dc bytes pc .lmul 1 pc') (k : Run K Q T (mkF K.m pc' L (.long (a * b) :: S))) : Run K Q T (mkF K.m pc L (.long b :: .long a :: S)) := by
  obtain ⟨locs, X0, -⟩ := X; obtain ⟨hx, -, hby, -⟩ := cx; obtain ⟨d, rfl⟩ := hd
  exact Run.st (fun t q => XT.lmul X0.here hx rfl (hb hby d) rfl q) k
theorem r_land {a b : Int64} (X : Sd K T h cl sl) (cx : Cx K y bytes mx rt R) (hd : Dc bytes pc .land 1 pc') (k : Run K Q T (mkF K.m pc' L (.long (a &&& b) :: S))) : Run K Q T (mkF K.m pc L (.long b :: .long a :: S)) := by
  obtain ⟨locs, X0, -⟩ := X; obtain ⟨hx, -, hby, -⟩ := cx; obtain ⟨d, rfl⟩ := hd
  exact Run.st (fun t q => XT.land X0.here hx rfl (hb hby d) rfl q) k
theorem r_lor {a b : Int64} (X : Sd K T h cl sl) (cx : Cx K y bytes mx rt R) (hd : Dc bytes pc .lor 1 pc') (k : Run K Q T (mkF K.m pc' L (.long (a ||| b) :: S))) : Run K Q T (mkF K.m pc L (.long b :: .long a :: S)) := by
  obtain ⟨locs, X0, -⟩ := X; obtain ⟨hx, -, hby, -⟩ := cx; obtain ⟨d, rfl⟩ := hd
  exact Run.st (fun t q => XT.lor X0.here hx rfl (hb hby d) rfl q) k
theorem r_lxor {a b : Int64} (X : Sd K T h cl sl) (cx : Cx K y bytes mx rt R) (hd : Dc bytes pc .lxor 1 pc') (k : Run K Q T (mkF K.m pc' L (.long (a ^^^ b) :: S))) : Run K Q T (mkF K.m pc L (.long b :: .long a :: S)) := by
  obtain ⟨locs, X0, -⟩ := X; obtain ⟨hx, -, hby, -⟩ := cx; obtain ⟨d, rfl⟩ := hd
  exact Run.st (fun t q => XT.lxor X0.here hx rfl (hb hby d) rfl q) k
theorem r_ldiv {a b : Int64} (X : Sd K T h cl sl) (cx : Cx K y bytes mx rt R) (hd : Dc bytes pc .ldiv 1 pc') (hne : b ≠ 0) (k : Run K Q T (mkF K.m pc' L (.long (a / b) :: S))) : Run K Q T (mkF K.m pc L (.long b :: .long a :: S)) := by
  obtain ⟨locs, X0, -⟩ := X; obtain ⟨hx, -, hby, -⟩ := cx; obtain ⟨d, rfl⟩ := hd
  exact Run.st (fun t q => XT.ldiv X0.here hx rfl (hb hby d) rfl hne q) k
theorem r_lrem {a b : Int64} (X : Sd K T h cl sl) (cx : Cx K y bytes mx rt R) (hd : Dc bytes pc .lrem 1 pc') (hne : b ≠ 0) (k : Run K Q T (mkF K.m pc' L (.long (a - (a / b) * b) :: S))) : Run K Q T (mkF K.m pc L (.long b :: .long a :: S)) := by
  obtain ⟨locs, X0, -⟩ := X; obtain ⟨hx, -, hby, -⟩ := cx; obtain ⟨d, rfl⟩ := hd
  exact Run.st (fun t q => XT.lrem X0.here hx rfl (hb hby d) rfl hne q) k
theorem r_lshl {a : Int64} {b : Int32} (X : Sd K T h cl sl) (cx : Cx K y bytes mx rt R) (hd : Dc bytes pc .lshl 1 pc') (k : Run K Q T (mkF K.m pc' L (.long (a <<< (b.toInt64 &&& 63)) :: S))) : Run K Q T (mkF K.m pc L (.int b :: .long a :: S)) := by
  obtain ⟨locs, X0, -⟩ := X; obtain ⟨hx, -, hby, -⟩ := cx; obtain ⟨d, rfl⟩ := hd
  exact Run.st (fun t q => XT.lshl X0.here hx rfl (hb hby d) rfl q) k
theorem r_lshr {a : Int64} {b : Int32} (X : Sd K T h cl sl) (cx : Cx K y bytes mx rt R) (hd : Dc bytes pc .lshr 1 pc') (k : Run K Q T (mkF K.m pc' L (.long (a >>> (b.toInt64 &&& 63)) :: S))) : Run K Q T (mkF K.m pc L (.int b :: .long a :: S)) := by
  obtain ⟨locs, X0, -⟩ := X; obtain ⟨hx, -, hby, -⟩ := cx; obtain ⟨d, rfl⟩ := hd
  exact Run.st (fun t q => XT.lshr X0.here hx rfl (hb hby d) rfl q) k
theorem r_lushr {a : Int64} {b : Int32} (X : Sd K T h cl sl) (cx : Cx K y bytes mx rt R) (hd : Dc bytes pc .lushr 1 pc') (k : Run K Q T (mkF K.m pc' L (.long (XT.ushrL a b) :: S))) : Run K Q T (mkF K.m pc L (.int b :: .long a :: S)) := by
  obtain ⟨locs, X0, -⟩ := X; obtain ⟨hx, -, hby, -⟩ := cx; obtain ⟨d, rfl⟩ := hd
  exact Run.st (fun t q => XT.lushr X0.here hx rfl (hb hby d) rfl q) k
theorem r_ineg {a : Int32} (X : Sd K T h cl sl) (cx : Cx K y bytes mx rt R) (hd : Dc bytes pc .ineg 1 pc') (k : Run K Q T (mkF K.m pc' L (.int (-a) :: S))) : Run K Q T (mkF K.m pc L (.int a :: S)) := by
  obtain ⟨locs, X0, -⟩ := X; obtain ⟨hx, -, hby, -⟩ := cx; obtain ⟨d, rfl⟩ := hd
  exact Run.st (fun t q => XS.ineg X0.here hx rfl (hb hby d) rfl q) k
theorem r_i2l {a : Int32} (X : Sd K T h cl sl) (cx : Cx K y bytes mx rt R) (hd : Dc bytes pc .i2l 1 pc') (k : Run K Q T (mkF K.m pc' L (.long a.toInt64 :: S))) : Run K Q T (mkF K.m pc L (.int a :: S)) := by
  obtain ⟨locs, X0, -⟩ := X; obtain ⟨hx, -, hby, -⟩ := cx; obtain ⟨d, rfl⟩ := hd
  exact Run.st (fun t q => XT.i2l X0.here hx rfl (hb hby d) rfl q) k
theorem r_l2i {a : Int64} (X : Sd K T h cl sl) (cx : Cx K y bytes mx rt R) (hd : Dc bytes pc .l2i 1 pc') (k : Run K Q T (mkF K.m pc' L (.int a.toInt32 :: S))) : Run K Q T (mkF K.m pc L (.long a :: S)) := by
  obtain ⟨locs, X0, -⟩ := X; obtain ⟨hx, -, hby, -⟩ := cx; obtain ⟨d, rfl⟩ := hd
  exact Run.st (fun t q => XT.l2i X0.here hx rfl (hb hby d) rfl q) k
theorem r_i2b {a : Int32} (X : Sd K T h cl sl) (cx : Cx K y bytes mx rt R) (hd : Dc bytes pc .i2b 1 pc') (k : Run K Q T (mkF K.m pc' L (.int a.toInt8.toInt32 :: S))) : Run K Q T (mkF K.m pc L (.int a :: S)) := by
  obtain ⟨locs, X0, -⟩ := X; obtain ⟨hx, -, hby, -⟩ := cx; obtain ⟨d, rfl⟩ := hd
  exact Run.st (fun t q => XT.i2b X0.here hx rfl (hb hby d) rfl q) k
theorem r_i2s {a : Int32} (X : Sd K T h cl sl) (cx : Cx K y bytes mx rt R) (hd : Dc bytes pc .i2s 1 pc') (k : Run K Q T (mkF K.m pc' L (.int a.toInt16.toInt32 :: S))) : Run K Q T (mkF K.m pc L (.int a :: S)) := by
  obtain ⟨locs, X0, -⟩ := X; obtain ⟨hx, -, hby, -⟩ := cx; obtain ⟨d, rfl⟩ := hd
  exact Run.st (fun t q => XT.i2s X0.here hx rfl (hb hby d) rfl q) k
theorem r_lcmp {a b : Int64} (X : Sd K T h cl sl) (cx : Cx K y bytes mx rt R) (hd : Dc bytes pc .lcmp 1 pc') (k : Run K Q T (mkF K.m pc' L (.int (XT.cmpL a b) :: S))) : Run K Q T (mkF K.m pc L (.long b :: .long a :: S)) := by
  obtain ⟨locs, X0, -⟩ := X; obtain ⟨hx, -, hby, -⟩ := cx; obtain ⟨d, rfl⟩ := hd
  exact Run.st (fun t q => XT.lcmp X0.here hx rfl (hb hby d) rfl q) k
theorem r_dup {v : Value} (X : Sd K T h cl sl) (cx : Cx K y bytes mx rt R) (hd : Dc bytes pc .dup 1 pc') (hc : v.category = 1) (k : Run K Q T (mkF K.m pc' L (v :: v :: S))) : Run K Q T (mkF K.m pc L (v :: S)) := by
  obtain ⟨locs, X0, -⟩ := X; obtain ⟨hx, -, hby, -⟩ := cx; obtain ⟨d, rfl⟩ := hd
  exact Run.st (fun t q => XS.dup X0.here hx rfl (hb hby d) rfl hc q) k
theorem r_pop {v : Value} (X : Sd K T h cl sl) (cx : Cx K y bytes mx rt R) (hd : Dc bytes pc .pop 1 pc') (hc : v.category = 1) (k : Run K Q T (mkF K.m pc' L (S))) : Run K Q T (mkF K.m pc L (v :: S)) := by
  obtain ⟨locs, X0, -⟩ := X; obtain ⟨hx, -, hby, -⟩ := cx; obtain ⟨d, rfl⟩ := hd
  exact Run.st (fun t q => XT.pop X0.here hx rfl (hb hby d) rfl hc q) k
theorem r_dup2 {v w : Value} (X : Sd K T h cl sl) (cx : Cx K y bytes mx rt R) (hd : Dc bytes pc .dup2 1 pc') (hc : v.category = 1) (hc2 : w.category = 1) (k : Run K Q T (mkF K.m pc' L (v :: w :: v :: w :: S))) : Run K Q T (mkF K.m pc L (v :: w :: S)) := by
  obtain ⟨locs, X0, -⟩ := X; obtain ⟨hx, -, hby, -⟩ := cx; obtain ⟨d, rfl⟩ := hd
  exact Run.st (fun t q => XT.dup2 X0.here hx rfl (hb hby d) rfl hc hc2 q) k
theorem r_dup_x1 {v w : Value} (X : Sd K T h cl sl) (cx : Cx K y bytes mx rt R) (hd : Dc bytes pc .dup_x1 1 pc') (hc : v.category = 1) (hc2 : w.category = 1) (k : Run K Q T (mkF K.m pc' L (v :: w :: v :: S))) : Run K Q T (mkF K.m pc L (v :: w :: S)) := by
  obtain ⟨locs, X0, -⟩ := X; obtain ⟨hx, -, hby, -⟩ := cx; obtain ⟨d, rfl⟩ := hd
  exact Run.st (fun t q => XT.dupX1 X0.here hx rfl (hb hby d) rfl hc hc2 q) k
theorem r_istoreN {i : Fin 4} {x : Int32} (L' : Int32 → Array Slot) (X : Sd K T h cl sl) (cx : Cx K y bytes mx rt R) (hd : Dc bytes pc (.istore_n i) 1 pc') (hl : ∀ v, storeLocals L i.val (.int v) = some (L' v)) (k : ∀ v, v = x → Run K Q T (mkF K.m pc' (L' v) S)) : Run K Q T (mkF K.m pc L (.int x :: S)) := by
  obtain ⟨locs, X0, -⟩ := X; obtain ⟨hx, -, hby, -⟩ := cx; obtain ⟨d, rfl⟩ := hd
  exact Run.st (fun t q => XS.istoreN X0.here hx rfl (hb hby d) rfl (hl x) q) (k x rfl)
theorem r_istore {i : Nat} {x : Int32} (L' : Int32 → Array Slot) (X : Sd K T h cl sl) (cx : Cx K y bytes mx rt R) (hd : Dc bytes pc (.istore i) 2 pc') (hl : ∀ v, storeLocals L i (.int v) = some (L' v)) (k : ∀ v, v = x → Run K Q T (mkF K.m pc' (L' v) S)) : Run K Q T (mkF K.m pc L (.int x :: S)) := by
  obtain ⟨locs, X0, -⟩ := X; obtain ⟨hx, -, hby, -⟩ := cx; obtain ⟨d, rfl⟩ := hd
  exact Run.st (fun t q => XS.istore X0.here hx rfl (hb hby d) rfl (hl x) q) (k x rfl)
theorem r_lstoreN {i : Fin 4} {x : Int64} (L' : Int64 → Array Slot) (X : Sd K T h cl sl) (cx : Cx K y bytes mx rt R) (hd : Dc bytes pc (.lstore_n i) 1 pc') (hl : ∀ v, storeLocals L i.val (.long v) = some (L' v)) (k : ∀ v, v = x → Run K Q T (mkF K.m pc' (L' v) S)) : Run K Q T (mkF K.m pc L (.long x :: S)) := by
  obtain ⟨locs, X0, -⟩ := X; obtain ⟨hx, -, hby, -⟩ := cx; obtain ⟨d, rfl⟩ := hd
  exact Run.st (fun t q => XT.lstoreN X0.here hx rfl (hb hby d) rfl (hl x) q) (k x rfl)
theorem r_lstore {i : Nat} {x : Int64} (L' : Int64 → Array Slot) (X : Sd K T h cl sl) (cx : Cx K y bytes mx rt R) (hd : Dc bytes pc (.lstore i) 2 pc') (hl : ∀ v, storeLocals L i (.long v) = some (L' v)) (k : ∀ v, v = x → Run K Q T (mkF K.m pc' (L' v) S)) : Run K Q T (mkF K.m pc L (.long x :: S)) := by
  obtain ⟨locs, X0, -⟩ := X; obtain ⟨hx, -, hby, -⟩ := cx; obtain ⟨d, rfl⟩ := hd
  exact Run.st (fun t q => XT.lstore X0.here hx rfl (hb hby d) rfl (hl x) q) (k x rfl)
theorem r_astoreN {i : Fin 4} {x : Addr} (L' : Array Slot) (X : Sd K T h cl sl) (cx : Cx K y bytes mx rt R) (hd : Dc bytes pc (.astore_n i) 1 pc') (hl : storeLocals L i.val (.ref x) = some L') (k : Run K Q T (mkF K.m pc' L' S)) : Run K Q T (mkF K.m pc L (.ref x :: S)) := by
  obtain ⟨locs, X0, -⟩ := X; obtain ⟨hx, -, hby, -⟩ := cx; obtain ⟨d, rfl⟩ := hd
  exact Run.st (fun t q => XS.astoreN X0.here hx rfl (hb hby d) rfl rfl hl q) k
theorem r_astore {i : Nat} {x : Addr} (L' : Array Slot) (X : Sd K T h cl sl) (cx : Cx K y bytes mx rt R) (hd : Dc bytes pc (.astore i) 2 pc') (hl : storeLocals L i (.ref x) = some L') (k : Run K Q T (mkF K.m pc' L' S)) : Run K Q T (mkF K.m pc L (.ref x :: S)) := by
  obtain ⟨locs, X0, -⟩ := X; obtain ⟨hx, -, hby, -⟩ := cx; obtain ⟨d, rfl⟩ := hd
  exact Run.st (fun t q => XS.astore X0.here hx rfl (hb hby d) rfl rfl hl q) k
theorem r_iinc {i : Nat} {cst : Int} {x : Int32} (w : Int32) (L' : Int32 → Array Slot) (X : Sd K T h cl sl) (cx : Cx K y bytes mx rt R) (hd : Dc bytes pc (.iinc i cst) 3 pc') (hv : Int32.ofInt cst = w) (ho : L[i]? = some (.val (.int x))) (hl : ∀ v, storeLocals L i (.int v) = some (L' v)) (k : ∀ v, v = x + w → Run K Q T (mkF K.m pc' (L' v) S)) : Run K Q T (mkF K.m pc L S) := by
  obtain ⟨locs, X0, -⟩ := X; obtain ⟨hx, -, hby, -⟩ := cx; obtain ⟨d, rfl⟩ := hd
  exact Run.st (fun t q => XT.iincV X0.here hx rfl w (hb hby d) hv ho (hl _) q) (k _ rfl)
theorem r_goto {o : Int} (X : Sd K T h cl sl) (cx : Cx K y bytes mx rt R) (hd : Db bytes pc (.goto o) o pc' pt) (k : Run K Q T (mkF K.m pt L S)) : Run K Q T (mkF K.m pc L S) := by
  obtain ⟨locs, X0, -⟩ := X; obtain ⟨hx, -, hby, -⟩ := cx; obtain ⟨d, -, ho, hp⟩ := hd
  exact Run.st (fun t q => XS.goto X0.here hx rfl (pc0 := pc) rfl (hb hby d) ho hp q) k
theorem r_icmpeq {o : Int} {a b : Int32} (X : Sd K T h cl sl) (cx : Cx K y bytes mx rt R) (hd : Db bytes pc (.if_icmp .eq o) o pc' pt) (k1 : a = b → Run K Q T (mkF K.m pt L S)) (k2 : ¬ a = b → Run K Q T (mkF K.m pc' L S)) : Run K Q T (mkF K.m pc L (.int b :: .int a :: S)) := by
  obtain ⟨locs, X0, -⟩ := X; obtain ⟨hx, -, hby, -⟩ := cx; obtain ⟨d, rfl, ho, hp⟩ := hd
  by_cases q : a = b
  · exact Run.st (fun t u => XS.icmpYes X0.here hx rfl (pc0 := pc) rfl (hb hby d) rfl (XT.ii_eq_t q) ho hp u) (k1 q)
  · exact Run.st (fun t u => XS.icmpNo X0.here hx rfl (hb hby d) rfl (XT.ii_eq_f q) u) (k2 q)
theorem r_ifeq {o : Int} {a : Int32} (X : Sd K T h cl sl) (cx : Cx K y bytes mx rt R) (hd : Db bytes pc (.ifCond .eq o) o pc' pt) (k1 : a = 0 → Run K Q T (mkF K.m pt L S)) (k2 : ¬ a = 0 → Run K Q T (mkF K.m pc' L S)) : Run K Q T (mkF K.m pc L (.int a :: S)) := by
  obtain ⟨locs, X0, -⟩ := X; obtain ⟨hx, -, hby, -⟩ := cx; obtain ⟨d, rfl, ho, hp⟩ := hd
  by_cases q : a = 0
  · exact Run.st (fun t u => XS.ifYes X0.here hx rfl (pc0 := pc) rfl (hb hby d) rfl (XT.i0_eq_t q) ho hp u) (k1 q)
  · exact Run.st (fun t u => XS.ifNo X0.here hx rfl (hb hby d) rfl (XT.i0_eq_f q) u) (k2 q)
theorem r_lcmpeq {o : Int} {a b : Int64} (X : Sd K T h cl sl) (cx : Cx K y bytes mx rt R) (hd : Db bytes pc (.ifCond .eq o) o pc' pt) (k1 : a = b → Run K Q T (mkF K.m pt L S)) (k2 : ¬ a = b → Run K Q T (mkF K.m pc' L S)) : Run K Q T (mkF K.m pc L (.int (XT.cmpL a b) :: S)) := by
  obtain ⟨locs, X0, -⟩ := X; obtain ⟨hx, -, hby, -⟩ := cx; obtain ⟨d, rfl, ho, hp⟩ := hd
  by_cases q : a = b
  · exact Run.st (fun t u => XS.ifYes X0.here hx rfl (pc0 := pc) rfl (hb hby d) rfl (XT.ll_eq_t q) ho hp u) (k1 q)
  · exact Run.st (fun t u => XS.ifNo X0.here hx rfl (hb hby d) rfl (XT.ll_eq_f q) u) (k2 q)
theorem r_icmpne {o : Int} {a b : Int32} (X : Sd K T h cl sl) (cx : Cx K y bytes mx rt R) (hd : Db bytes pc (.if_icmp .ne o) o pc' pt) (k1 : ¬ a = b → Run K Q T (mkF K.m pt L S)) (k2 : a = b → Run K Q T (mkF K.m pc' L S)) : Run K Q T (mkF K.m pc L (.int b :: .int a :: S)) := by
  obtain ⟨locs, X0, -⟩ := X; obtain ⟨hx, -, hby, -⟩ := cx; obtain ⟨d, rfl, ho, hp⟩ := hd
  by_cases q : a = b
  · exact Run.st (fun t u => XS.icmpNo X0.here hx rfl (hb hby d) rfl (XT.ii_ne_f q) u) (k2 q)
  · exact Run.st (fun t u => XS.icmpYes X0.here hx rfl (pc0 := pc) rfl (hb hby d) rfl (XT.ii_ne_t q) ho hp u) (k1 q)
theorem r_ifne {o : Int} {a : Int32} (X : Sd K T h cl sl) (cx : Cx K y bytes mx rt R) (hd : Db bytes pc (.ifCond .ne o) o pc' pt) (k1 : ¬ a = 0 → Run K Q T (mkF K.m pt L S)) (k2 : a = 0 → Run K Q T (mkF K.m pc' L S)) : Run K Q T (mkF K.m pc L (.int a :: S)) := by
  obtain ⟨locs, X0, -⟩ := X; obtain ⟨hx, -, hby, -⟩ := cx; obtain ⟨d, rfl, ho, hp⟩ := hd
  by_cases q : a = 0
  · exact Run.st (fun t u => XS.ifNo X0.here hx rfl (hb hby d) rfl (XT.i0_ne_f q) u) (k2 q)
  · exact Run.st (fun t u => XS.ifYes X0.here hx rfl (pc0 := pc) rfl (hb hby d) rfl (XT.i0_ne_t q) ho hp u) (k1 q)
theorem r_lcmpne {o : Int} {a b : Int64} (X : Sd K T h cl sl) (cx : Cx K y bytes mx rt R) (hd : Db bytes pc (.ifCond .ne o) o pc' pt) (k1 : ¬ a = b → Run K Q T (mkF K.m pt L S)) (k2 : a = b → Run K Q T (mkF K.m pc' L S)) : Run K Q T (mkF K.m pc L (.int (XT.cmpL a b) :: S)) := by
  obtain ⟨locs, X0, -⟩ := X; obtain ⟨hx, -, hby, -⟩ := cx; obtain ⟨d, rfl, ho, hp⟩ := hd
  by_cases q : a = b
  · exact Run.st (fun t u => XS.ifNo X0.here hx rfl (hb hby d) rfl (XT.ll_ne_f q) u) (k2 q)
  · exact Run.st (fun t u => XS.ifYes X0.here hx rfl (pc0 := pc) rfl (hb hby d) rfl (XT.ll_ne_t q) ho hp u) (k1 q)
theorem r_icmplt {o : Int} {a b : Int32} (X : Sd K T h cl sl) (cx : Cx K y bytes mx rt R) (hd : Db bytes pc (.if_icmp .lt o) o pc' pt) (k1 : a < b → Run K Q T (mkF K.m pt L S)) (k2 : ¬ a < b → Run K Q T (mkF K.m pc' L S)) : Run K Q T (mkF K.m pc L (.int b :: .int a :: S)) := by
  obtain ⟨locs, X0, -⟩ := X; obtain ⟨hx, -, hby, -⟩ := cx; obtain ⟨d, rfl, ho, hp⟩ := hd
  by_cases q : a < b
  · exact Run.st (fun t u => XS.icmpYes X0.here hx rfl (pc0 := pc) rfl (hb hby d) rfl (XT.ii_lt_t q) ho hp u) (k1 q)
  · exact Run.st (fun t u => XS.icmpNo X0.here hx rfl (hb hby d) rfl (XT.ii_lt_f q) u) (k2 q)
theorem r_iflt {o : Int} {a : Int32} (X : Sd K T h cl sl) (cx : Cx K y bytes mx rt R) (hd : Db bytes pc (.ifCond .lt o) o pc' pt) (k1 : a < 0 → Run K Q T (mkF K.m pt L S)) (k2 : ¬ a < 0 → Run K Q T (mkF K.m pc' L S)) : Run K Q T (mkF K.m pc L (.int a :: S)) := by
  obtain ⟨locs, X0, -⟩ := X; obtain ⟨hx, -, hby, -⟩ := cx; obtain ⟨d, rfl, ho, hp⟩ := hd
  by_cases q : a < 0
  · exact Run.st (fun t u => XS.ifYes X0.here hx rfl (pc0 := pc) rfl (hb hby d) rfl (XT.i0_lt_t q) ho hp u) (k1 q)
  · exact Run.st (fun t u => XS.ifNo X0.here hx rfl (hb hby d) rfl (XT.i0_lt_f q) u) (k2 q)
theorem r_lcmplt {o : Int} {a b : Int64} (X : Sd K T h cl sl) (cx : Cx K y bytes mx rt R) (hd : Db bytes pc (.ifCond .lt o) o pc' pt) (k1 : a < b → Run K Q T (mkF K.m pt L S)) (k2 : ¬ a < b → Run K Q T (mkF K.m pc' L S)) : Run K Q T (mkF K.m pc L (.int (XT.cmpL a b) :: S)) := by
  obtain ⟨locs, X0, -⟩ := X; obtain ⟨hx, -, hby, -⟩ := cx; obtain ⟨d, rfl, ho, hp⟩ := hd
  by_cases q : a < b
  · exact Run.st (fun t u => XS.ifYes X0.here hx rfl (pc0 := pc) rfl (hb hby d) rfl (XT.ll_lt_t q) ho hp u) (k1 q)
  · exact Run.st (fun t u => XS.ifNo X0.here hx rfl (hb hby d) rfl (XT.ll_lt_f q) u) (k2 q)
theorem r_icmpge {o : Int} {a b : Int32} (X : Sd K T h cl sl) (cx : Cx K y bytes mx rt R) (hd : Db bytes pc (.if_icmp .ge o) o pc' pt) (k1 : ¬ a < b → Run K Q T (mkF K.m pt L S)) (k2 : a < b → Run K Q T (mkF K.m pc' L S)) : Run K Q T (mkF K.m pc L (.int b :: .int a :: S)) := by
  obtain ⟨locs, X0, -⟩ := X; obtain ⟨hx, -, hby, -⟩ := cx; obtain ⟨d, rfl, ho, hp⟩ := hd
  by_cases q : a < b
  · exact Run.st (fun t u => XS.icmpNo X0.here hx rfl (hb hby d) rfl (XT.ii_ge_f q) u) (k2 q)
  · exact Run.st (fun t u => XS.icmpYes X0.here hx rfl (pc0 := pc) rfl (hb hby d) rfl (XT.ii_ge_t q) ho hp u) (k1 q)
theorem r_ifge {o : Int} {a : Int32} (X : Sd K T h cl sl) (cx : Cx K y bytes mx rt R) (hd : Db bytes pc (.ifCond .ge o) o pc' pt) (k1 : ¬ a < 0 → Run K Q T (mkF K.m pt L S)) (k2 : a < 0 → Run K Q T (mkF K.m pc' L S)) : Run K Q T (mkF K.m pc L (.int a :: S)) := by
  obtain ⟨locs, X0, -⟩ := X; obtain ⟨hx, -, hby, -⟩ := cx; obtain ⟨d, rfl, ho, hp⟩ := hd
  by_cases q : a < 0
  · exact Run.st (fun t u => XS.ifNo X0.here hx rfl (hb hby d) rfl (XT.i0_ge_f q) u) (k2 q)
  · exact Run.st (fun t u => XS.ifYes X0.here hx rfl (pc0 := pc) rfl (hb hby d) rfl (XT.i0_ge_t q) ho hp u) (k1 q)
theorem r_lcmpge {o : Int} {a b : Int64} (X : Sd K T h cl sl) (cx : Cx K y bytes mx rt R) (hd : Db bytes pc (.ifCond .ge o) o pc' pt) (k1 : ¬ a < b → Run K Q T (mkF K.m pt L S)) (k2 : a < b → Run K Q T (mkF K.m pc' L S)) : Run K Q T (mkF K.m pc L (.int (XT.cmpL a b) :: S)) := by
  obtain ⟨locs, X0, -⟩ := X; obtain ⟨hx, -, hby, -⟩ := cx; obtain ⟨d, rfl, ho, hp⟩ := hd
  by_cases q : a < b
  · exact Run.st (fun t u => XS.ifNo X0.here hx rfl (hb hby d) rfl (XT.ll_ge_f q) u) (k2 q)
  · exact Run.st (fun t u => XS.ifYes X0.here hx rfl (pc0 := pc) rfl (hb hby d) rfl (XT.ll_ge_t q) ho hp u) (k1 q)
theorem r_icmpgt {o : Int} {a b : Int32} (X : Sd K T h cl sl) (cx : Cx K y bytes mx rt R) (hd : Db bytes pc (.if_icmp .gt o) o pc' pt) (k1 : b < a → Run K Q T (mkF K.m pt L S)) (k2 : ¬ b < a → Run K Q T (mkF K.m pc' L S)) : Run K Q T (mkF K.m pc L (.int b :: .int a :: S)) := by
  obtain ⟨locs, X0, -⟩ := X; obtain ⟨hx, -, hby, -⟩ := cx; obtain ⟨d, rfl, ho, hp⟩ := hd
  by_cases q : b < a
  · exact Run.st (fun t u => XS.icmpYes X0.here hx rfl (pc0 := pc) rfl (hb hby d) rfl (XT.ii_gt_t q) ho hp u) (k1 q)
  · exact Run.st (fun t u => XS.icmpNo X0.here hx rfl (hb hby d) rfl (XT.ii_gt_f q) u) (k2 q)
theorem r_ifgt {o : Int} {a : Int32} (X : Sd K T h cl sl) (cx : Cx K y bytes mx rt R) (hd : Db bytes pc (.ifCond .gt o) o pc' pt) (k1 : 0 < a → Run K Q T (mkF K.m pt L S)) (k2 : ¬ 0 < a → Run K Q T (mkF K.m pc' L S)) : Run K Q T (mkF K.m pc L (.int a :: S)) := by
  obtain ⟨locs, X0, -⟩ := X; obtain ⟨hx, -, hby, -⟩ := cx; obtain ⟨d, rfl, ho, hp⟩ := hd
  by_cases q : 0 < a
  · exact Run.st (fun t u => XS.ifYes X0.here hx rfl (pc0 := pc) rfl (hb hby d) rfl (XT.i0_gt_t q) ho hp u) (k1 q)
  · exact Run.st (fun t u => XS.ifNo X0.here hx rfl (hb hby d) rfl (XT.i0_gt_f q) u) (k2 q)
theorem r_lcmpgt {o : Int} {a b : Int64} (X : Sd K T h cl sl) (cx : Cx K y bytes mx rt R) (hd : Db bytes pc (.ifCond .gt o) o pc' pt) (k1 : b < a → Run K Q T (mkF K.m pt L S)) (k2 : ¬ b < a → Run K Q T (mkF K.m pc' L S)) : Run K Q T (mkF K.m pc L (.int (XT.cmpL a b) :: S)) := by
  obtain ⟨locs, X0, -⟩ := X; obtain ⟨hx, -, hby, -⟩ := cx; obtain ⟨d, rfl, ho, hp⟩ := hd
  by_cases q : b < a
  · exact Run.st (fun t u => XS.ifYes X0.here hx rfl (pc0 := pc) rfl (hb hby d) rfl (XT.ll_gt_t q) ho hp u) (k1 q)
  · exact Run.st (fun t u => XS.ifNo X0.here hx rfl (hb hby d) rfl (XT.ll_gt_f q) u) (k2 q)
theorem r_icmple {o : Int} {a b : Int32} (X : Sd K T h cl sl) (cx : Cx K y bytes mx rt R) (hd : Db bytes pc (.if_icmp .le o) o pc' pt) (k1 : ¬ b < a → Run K Q T (mkF K.m pt L S)) (k2 : b < a → Run K Q T (mkF K.m pc' L S)) : Run K Q T (mkF K.m pc L (.int b :: .int a :: S)) := by
  obtain ⟨locs, X0, -⟩ := X; obtain ⟨hx, -, hby, -⟩ := cx; obtain ⟨d, rfl, ho, hp⟩ := hd
  by_cases q : b < a
  · exact Run.st (fun t u => XS.icmpNo X0.here hx rfl (hb hby d) rfl (XT.ii_le_f q) u) (k2 q)
  · exact Run.st (fun t u => XS.icmpYes X0.here hx rfl (pc0 := pc) rfl (hb hby d) rfl (XT.ii_le_t q) ho hp u) (k1 q)
theorem r_ifle {o : Int} {a : Int32} (X : Sd K T h cl sl) (cx : Cx K y bytes mx rt R) (hd : Db bytes pc (.ifCond .le o) o pc' pt) (k1 : ¬ 0 < a → Run K Q T (mkF K.m pt L S)) (k2 : 0 < a → Run K Q T (mkF K.m pc' L S)) : Run K Q T (mkF K.m pc L (.int a :: S)) := by
  obtain ⟨locs, X0, -⟩ := X; obtain ⟨hx, -, hby, -⟩ := cx; obtain ⟨d, rfl, ho, hp⟩ := hd
  by_cases q : 0 < a
  · exact Run.st (fun t u => XS.ifNo X0.here hx rfl (hb hby d) rfl (XT.i0_le_f q) u) (k2 q)
  · exact Run.st (fun t u => XS.ifYes X0.here hx rfl (pc0 := pc) rfl (hb hby d) rfl (XT.i0_le_t q) ho hp u) (k1 q)
theorem r_lcmple {o : Int} {a b : Int64} (X : Sd K T h cl sl) (cx : Cx K y bytes mx rt R) (hd : Db bytes pc (.ifCond .le o) o pc' pt) (k1 : ¬ b < a → Run K Q T (mkF K.m pt L S)) (k2 : b < a → Run K Q T (mkF K.m pc' L S)) : Run K Q T (mkF K.m pc L (.int (XT.cmpL a b) :: S)) := by
  obtain ⟨locs, X0, -⟩ := X; obtain ⟨hx, -, hby, -⟩ := cx; obtain ⟨d, rfl, ho, hp⟩ := hd
  by_cases q : b < a
  · exact Run.st (fun t u => XS.ifNo X0.here hx rfl (hb hby d) rfl (XT.ll_le_f q) u) (k2 q)
  · exact Run.st (fun t u => XS.ifYes X0.here hx rfl (pc0 := pc) rfl (hb hby d) rfl (XT.ll_le_t q) ho hp u) (k1 q)
theorem r_ldc {i : Nat} {v : Int32} {a0 : Array Value} (X : Sd K T h cl sl) (cx : Cx K y bytes mx rt R) (hd : Dc bytes pc (.ldc i) 2 pc') (w : (Cond.constant y.cls i v).before a0 K.Z = true) (k : Run K Q T (mkF K.m pc' L (.int v :: S))) : Run K Q T (mkF K.m pc L S) := by
  obtain ⟨locs, X0, -⟩ := X; obtain ⟨hx, hZ, hby, -, hown, -⟩ := cx; obtain ⟨d, rfl⟩ := hd
  exact Run.st (fun t q => Jvm.Stand.ldcI X0 hx hown (mv hZ w) rfl (hb hby d) q) k
theorem r_ldcW {i : Nat} {v : Int32} {a0 : Array Value} (X : Sd K T h cl sl) (cx : Cx K y bytes mx rt R) (hd : Dc bytes pc (.ldc_w i) 3 pc') (w : (Cond.constant y.cls i v).before a0 K.Z = true) (k : Run K Q T (mkF K.m pc' L (.int v :: S))) : Run K Q T (mkF K.m pc L S) := by
  obtain ⟨locs, X0, -⟩ := X; obtain ⟨hx, hZ, hby, -, hown, -⟩ := cx; obtain ⟨d, rfl⟩ := hd
  exact Run.st (fun t q => Jvm.Stand.ldcWI X0 hx hown (mv hZ w) rfl (hb hby d) q) k
theorem r_ldc2 {i : Nat} {v : Int64} {a0 : Array Value} (X : Sd K T h cl sl) (cx : Cx K y bytes mx rt R) (hd : Dc bytes pc (.ldc2_w i) 3 pc') (w : (Cond.constantLong y.cls i v).before a0 K.Z = true) (k : Run K Q T (mkF K.m pc' L (.long v :: S))) : Run K Q T (mkF K.m pc L S) := by
  obtain ⟨locs, X0, -⟩ := X; obtain ⟨hx, hZ, hby, -, hown, -⟩ := cx; obtain ⟨d, rfl⟩ := hd
  exact Run.st (fun t q => Jvm.Stand.ldc2J X0 hx hown (mv hZ w) rfl (hb hby d) q) k
theorem fin {v : Option Value} (X : Sd K T h cl sl) (cx : Cx K y bytes mx rt R) (hv : rt = none → v = none) (hc : cl ≤ R.cells) (hs : sl ≤ R.slots) (hq : Q v h) {g : JFrame}
    (st : ∀ fs, (∀ (f : JFrame) (acts : List Action), f.method = K.m → f.locked = none → f.entered = [] → (doReturn K.e (T.setTop f) acts v).1 = T.setFrames fs) → Steps K.p.tables K.e K.below (T.setTop g) (T.setFrames fs)) : Run K Q T g := by
  obtain ⟨locs, X0, N, hz, eT⟩ := X
  obtain ⟨hx, hZ, hby, hml, hown, hret, hlk, hR, hnm⟩ := cx
  obtain ⟨fs, hr, hrun, hended, hW, hsame⟩ := X0.leave (v := v) (fun q => hv (hret.symm.trans q)) hlk
  refine ⟨_, v, locs, st fs hr, hrun, hended, ?_, N, ⟨_, rfl⟩, hW, hsame.mono (by rw [hR]; exact hc) (by rw [hR]; exact hs)⟩
  show Q v T.heap
  rw [eT]; exact hq
theorem r_ireturn {z : Int32} (X : Sd K T h cl sl) (cx : Cx K y bytes mx (some .int) R) (hd : Dc bytes pc .ireturn 1 pc') (hc : cl ≤ R.cells) (hs : sl ≤ R.slots) (hq : Q (some (.int z)) h) : Run K Q T (mkF K.m pc L (.int z :: S)) := by
  refine fin X cx (fun q => nomatch q) hc hs hq fun fs hr => ?_
  obtain ⟨locs, X0, -⟩ := X; obtain ⟨hx, -, hby, -, -, hret, -⟩ := cx; obtain ⟨d, rfl⟩ := hd
  exact retI X0 hx hret (hb hby d) hr
theorem r_zreturn {z : Int32} (X : Sd K T h cl sl) (cx : Cx K y bytes mx (some .boolean) R) (hd : Dc bytes pc .ireturn 1 pc') (hc : cl ≤ R.cells) (hs : sl ≤ R.slots) (hq : Q (some (.int (nar .boolean z))) h) : Run K Q T (mkF K.m pc L (.int z :: S)) := by
  refine fin X cx (fun q => nomatch q) hc hs hq fun fs hr => ?_
  obtain ⟨locs, X0, -⟩ := X; obtain ⟨hx, -, hby, -, -, hret, -⟩ := cx; obtain ⟨d, rfl⟩ := hd
  exact retN X0 hx (t := .boolean) hret (by simp) (hb hby d) hr
theorem r_lreturn {z : Int64} (X : Sd K T h cl sl) (cx : Cx K y bytes mx (some .long) R) (hd : Dc bytes pc .lreturn 1 pc') (hc : cl ≤ R.cells) (hs : sl ≤ R.slots) (hq : Q (some (.long z)) h) : Run K Q T (mkF K.m pc L [.long z]) := by
  refine fin X cx (fun q => nomatch q) hc hs hq fun fs hr => ?_
  obtain ⟨locs, X0, -⟩ := X; obtain ⟨hx, -, hby, -, -, hret, -⟩ := cx; obtain ⟨d, rfl⟩ := hd
  exact X0.lreturnOut hx hret (hb hby d) hr
theorem r_areturn {z : Addr} {ty : FieldType} (X : Sd K T h cl sl) (cx : Cx K y bytes mx (some ty) R) (hty : ty.isReference = true) (hd : Dc bytes pc .areturn 1 pc') (hc : cl ≤ R.cells) (hs : sl ≤ R.slots) (hq : Q (some (.ref z)) h) : Run K Q T (mkF K.m pc L [.ref z]) := by
  refine fin X cx (fun q => nomatch q) hc hs hq fun fs hr => ?_
  obtain ⟨locs, X0, -⟩ := X; obtain ⟨hx, -, hby, -, -, hret, -⟩ := cx; obtain ⟨d, rfl⟩ := hd
  exact X0.areturnOut hx rfl hret hty (hb hby d) hr
theorem r_return (X : Sd K T h cl sl) (cx : Cx K y bytes mx none R) (hd : Dc bytes pc .return_ 1 pc') (hc : cl ≤ R.cells) (hs : sl ≤ R.slots) (hq : Q none h) : Run K Q T (mkF K.m pc L []) := by
  refine fin X cx (fun _ => rfl) hc hs hq fun fs hr => ?_
  obtain ⟨locs, X0, -⟩ := X; obtain ⟨hx, -, hby, -, -, hret, -⟩ := cx; obtain ⟨d, rfl⟩ := hd
  exact X0.returnOut hx hret (hb hby d) hr
/-! fields -/
theorem r_getfield {O n d : String} {i : Nat} {a : Addr} {v : Value} {a0 : Array Value} (X : Sd K T h cl sl) (cx : Cx K y bytes mx rt R) (hd : Dc bytes pc (.getfield i) 3 pc') (w : (Cond.fieldLink y.cls i O n d).before a0 K.Z = true) (F : Fld K.Z h a O n d v) (k : ∀ T', Sd K T' h cl sl → Run K Q T' (mkF K.m pc' L (v :: S))) : Run K Q T (mkF K.m pc L (.ref a :: S)) := by
  obtain ⟨locs, X0, N, hz, eT⟩ := X; obtain ⟨hx, hZ, hby, -, hown, -⟩ := cx; obtain ⟨dd, rfl⟩ := hd
  obtain ⟨T1, X1, e1, st1⟩ := getF X0 hx hZ hown (host := "") (Or.inl w) Via.refl eT F (g := mkF K.m pc L (.ref a :: S)) rfl rfl (hb hby dd)
  exact Run.st st1 (k T1 ⟨locs, X1, N, hz, e1⟩)
theorem r_getfieldN {O n d host : String} {i : Nat} {a : Addr} {v : Value} {a0 : Array Value} (X : Sd K T h cl sl) (cx : Cx K y bytes mx rt R) (hd : Dc bytes pc (.getfield i) 3 pc') (w : (Cond.fieldLinkNest y.cls i O n d host).before a0 K.Z = true) (F : Fld K.Z h a O n d v) (k : ∀ T', Sd K T' h cl sl → Run K Q T' (mkF K.m pc' L (v :: S))) : Run K Q T (mkF K.m pc L (.ref a :: S)) := by
  obtain ⟨locs, X0, N, hz, eT⟩ := X; obtain ⟨hx, hZ, hby, -, hown, -⟩ := cx; obtain ⟨dd, rfl⟩ := hd
  obtain ⟨T1, X1, e1, st1⟩ := getF X0 hx hZ hown (host := host) (Or.inr w) Via.refl eT F (g := mkF K.m pc L (.ref a :: S)) rfl rfl (hb hby dd)
  exact Run.st st1 (k T1 ⟨locs, X1, N, hz, e1⟩)
theorem r_putfield {O n d C : String} {i kk : Nat} {a : Addr} {v old : Value} {ty : FieldType} {a0 : Array Value} (X : Sd K T h cl sl) (cx : Cx K y bytes mx rt R) (hd : Dc bytes pc (.putfield i) 3 pc') (w : (Cond.fieldLink y.cls i O n d).before a0 K.Z = true) (F : Fld K.Z h a O n d old) (E : Exa K.Z h a C) (hL : (Cond.lays C O n d).before a0 K.Z = true ∨ ((Cond.laysFinal C O n d).before a0 K.Z = true ∧ y.cls = O ∧ y.name = "<init>")) (wi : (Cond.instantiable C kk).before a0 K.Z = true)
    (hty : parseFieldDescriptor d = some ty) (hn : narrow ty v = v) (hf : fits ty v = true) (ge : K.n0 ≤ a) (k : ∀ T' h', Sd K T' h' cl sl → Wr h h' a (Jvm.RoadKit.slotOf K.Z O n d) v → Fld K.Z h' a O n d v → Run K Q T' (mkF K.m pc' L S)) : Run K Q T (mkF K.m pc L (v :: .ref a :: S)) := by
  obtain ⟨locs, X0, N, hz, eT⟩ := X; obtain ⟨hx, hZ, hby, -, hown, -, -, -, hnm⟩ := cx; obtain ⟨dd, rfl⟩ := hd
  obtain ⟨T1, h1, X1, e1, W1, st1⟩ := putF X0 hx hZ hown (host := "") (Or.inl w) Via.refl eT F E (hL.imp id fun q => ⟨q.1, q.2.1, hnm.trans q.2.2⟩) wi hty hn hf (g := mkF K.m pc L (v :: .ref a :: S)) rfl rfl (hb hby dd)
  exact Run.st st1 (k T1 h1 ⟨_, X1, Fr.snoc X1 N ge, by rw [W1.size]; exact hz, e1⟩ W1 (F.same W1))
theorem r_new {C : String} {i n : Nat} {a0 : Array Value} (X : Sd K T h cl sl) (cx : Cx K y bytes mx rt R) (hd : Dc bytes pc (.new i) 3 pc') (w : (Cond.classLink y.cls i C).before a0 K.Z = true) (wi : (Cond.instantiable C n).before a0 K.Z = true) (wz : (Cond.initialized C).before a0 K.Z = true) (hc : cl + 1 ≤ R.cells) (hs : sl + n ≤ R.slots)
    (k : ∀ T' h' a, a = h.size → K.n0 ≤ a → Sd K T' h' (cl + 1) (sl + n) → Ext h h' → Exa K.Z h' a C → (∀ {O nm d : String} {ty : FieldType}, Laid K.Z a0 C O nm d → parseFieldDescriptor d = some ty → Fld K.Z h' a O nm d (defaultValue ty)) → Run K Q T' (mkF K.m pc' L (.ref a :: S))) : Run K Q T (mkF K.m pc L S) := by
  obtain ⟨locs, X0, N, hz, eT⟩ := X; obtain ⟨hx, hZ, hby, -, hown, -, -, hR, -⟩ := cx; obtain ⟨dd, rfl⟩ := hd
  obtain ⟨T1, h1, X1, e1, E1, A1, D1, -, st1⟩ := newO X0 hx hZ hown w wi wz eT (g := mkF K.m pc L S) rfl (hb hby dd) (by rw [hR]; exact hc) (by rw [hR]; exact hs)
  exact Run.st st1 (k T1 h1 h.size rfl hz ⟨locs, X1, N, Nat.le_trans hz E1.1, e1⟩ E1 A1 D1)
theorem r_initO {i : Nat} {a : Addr} {a0 : Array Value} (X : Sd K T h cl sl) (cx : Cx K y bytes mx rt R) (hd : Dc bytes pc (.invokespecial i) 3 pc') (w1 : (Cond.methodLink y.cls i Lib.objectInit).before a0 K.Z = true) (w2 : (Cond.instanceMethod Lib.objectInit).before a0 K.Z = true) (w3 : (Cond.code Lib.objectInit ⟨#[0xb1]⟩ 1 none).before a0 K.Z = true) (hsz : L.size = mx) (hf : 1 ≤ R.frames) (hl : (S.map fun v => v.category).sum + 12 ≤ R.locals) (k : ∀ T', Sd K T' h cl sl → Run K Q T' (mkF K.m pc' L S)) : Run K Q T (mkF K.m pc L (.ref a :: S)) := by
  obtain ⟨locs, X0, N, hz, eT⟩ := X; obtain ⟨hx, hZ, hby, hml, hown, -, -, hR, -⟩ := cx; obtain ⟨dd, rfl⟩ := hd
  obtain ⟨T1, X1, e1, st1⟩ := initO X0 hx hZ hown w1 w2 w3 eT (g := mkF K.m pc L (.ref a :: S)) rfl (by rw [hml]; exact hsz) rfl (hb hby dd) (by rw [hR]; exact hf) (W := (S.map fun v => v.category).sum) (by show 2 * 0 + _ ≤ _; omega) (by rw [hR]; exact hl)
  exact Run.st st1 (k T1 ⟨locs, X1, N, hz, e1⟩)
end Rules
/-! arrays: their whole list of values -/
def AV (Z : State) (h : Heap) (a : Addr) (ty : FieldType) (vs : List Value) : Prop := ∃ c : Cell, Arr Z h a c ty ∧ c.slots.toList = vs ∧ vs.length < 2 ^ 31
def AI (ty : FieldType) (Z : State) (h : Heap) (a : Addr) (xs : List Int32) : Prop := AV Z h a ty (xs.map Value.int)
def AJ (Z : State) (h : Heap) (a : Addr) (xs : List Int64) : Prop := AV Z h a .long (xs.map Value.long)
theorem AV.ext {Z : State} {h h' : Heap} {a : Addr} {ty : FieldType} {vs : List Value} (A : AV Z h a ty vs) (E : Ext h h') : AV Z h' a ty vs := by obtain ⟨c, q, r⟩ := A; exact ⟨c, q.ext E, r⟩
theorem AV.other {Z : State} {h h' : Heap} {a b : Addr} {ty : FieldType} {vs : List Value} {sl : Nat} {v : Value} (A : AV Z h a ty vs) (W : Wr h h' b sl v) (q : a ≠ b) : AV Z h' a ty vs := by obtain ⟨c, u, r⟩ := A; exact ⟨c, u.other W q, r⟩
theorem AV.keep {Z : State} {h h' : Heap} {a : Addr} {ty : FieldType} {vs : List Value} {ws : List Addr} (A : AV Z h a ty vs) (k : Keep h h' ws) (q : a ∉ ws) : AV Z h' a ty vs := by obtain ⟨c, u, r⟩ := A; exact ⟨c, ⟨k.2.1 a c u.1 q, u.2⟩, r⟩
theorem AV.lt {Z : State} {h : Heap} {a : Addr} {ty : FieldType} {vs : List Value} (A : AV Z h a ty vs) : a < h.size := by obtain ⟨c, u, r⟩ := A; exact u.lt
theorem AV.len {Z : State} {h : Heap} {a : Addr} {ty : FieldType} {vs : List Value} (A : AV Z h a ty vs) : vs.length < 2 ^ 31 := by obtain ⟨c, u, r, q⟩ := A; exact q
theorem AV.set {Z : State} {h h' : Heap} {a : Addr} {ty : FieldType} {vs : List Value} {n : Nat} {v : Value} (A : AV Z h a ty vs) (W : Wr h h' a n v) : AV Z h' a ty (vs.set n v) := by
  obtain ⟨c, u, r, q⟩ := A
  refine ⟨_, u.same W, ?_, by simpa using q⟩
  subst r
  simp [Cell.setSlot]
section
variable {ty : FieldType} {Z : State} {h h' : Heap} {a b : Addr} {xs : List Int32} {zs : List Int64} {sl : Nat} {v : Value} {ws : List Addr}
theorem AI.ext (A : AI ty Z h a xs) (E : Ext h h') : AI ty Z h' a xs := AV.ext A E
theorem AI.other (A : AI ty Z h a xs) (W : Wr h h' b sl v) (q : a ≠ b) : AI ty Z h' a xs := AV.other A W q
theorem AI.keep (A : AI ty Z h a xs) (k : Keep h h' ws) (q : a ∉ ws) : AI ty Z h' a xs := AV.keep A k q
theorem AI.lt (A : AI ty Z h a xs) : a < h.size := AV.lt A
theorem AI.len (A : AI ty Z h a xs) : xs.length < 2 ^ 31 := by simpa using AV.len A
theorem AI.set {n : Nat} {x : Int32} (A : AI ty Z h a xs) (W : Wr h h' a n (.int x)) : AI ty Z h' a (xs.set n x) := by
  have q := AV.set A W
  show AV Z h' a ty ((xs.set n x).map Value.int)
  rw [List.map_set]; exact q
theorem AJ.ext (A : AJ Z h a zs) (E : Ext h h') : AJ Z h' a zs := AV.ext A E
theorem AJ.other (A : AJ Z h a zs) (W : Wr h h' b sl v) (q : a ≠ b) : AJ Z h' a zs := AV.other A W q
theorem AJ.keep (A : AJ Z h a zs) (k : Keep h h' ws) (q : a ∉ ws) : AJ Z h' a zs := AV.keep A k q
theorem AJ.lt (A : AJ Z h a zs) : a < h.size := AV.lt A
theorem AJ.len (A : AJ Z h a zs) : zs.length < 2 ^ 31 := by simpa using AV.len A
theorem AJ.set {n : Nat} {x : Int64} (A : AJ Z h a zs) (W : Wr h h' a n (.long x)) : AJ Z h' a (zs.set n x) := by
  have q := AV.set A W
  show AV Z h' a .long ((zs.set n x).map Value.long)
  rw [List.map_set]; exact q
end
theorem ofNat_neg {n : Nat} (hn : n < 2 ^ 31) : ¬ Int32.ofNat n < 0 := by
  rw [Int32.lt_iff_toInt_lt, Int32.toInt_ofNat_of_lt hn]
  show ¬ (n : Int) < 0
  omega
theorem ofNat_clamp {n : Nat} (hn : n < 2 ^ 31) : (Int32.ofNat n).toNatClampNeg = n := by
  show (Int32.ofNat n).toInt.toNat = n
  rw [Int32.toInt_ofNat_of_lt hn]; rfl
section Rules
variable {K : KT} {Q : Option Value → Heap → Prop} {T : State} {h : Heap} {cl sl : Nat} {y : MethodName} {bytes : ByteArray} {mx : Nat} {rt : Option FieldType} {R : Room} {pc pc' pt : Nat} {L : Array Slot} {S : List Value}
theorem r_arraylength {ty : FieldType} {vs : List Value} {a : Addr} (X : Sd K T h cl sl) (cx : Cx K y bytes mx rt R) (hd : Dc bytes pc .arraylength 1 pc') (A : AV K.Z h a ty vs) (k : Run K Q T (mkF K.m pc' L (.int (Int32.ofNat vs.length) :: S))) : Run K Q T (mkF K.m pc L (.ref a :: S)) := by
  obtain ⟨locs, X0, N, hz, eT⟩ := X; obtain ⟨hx, hZ, hby, -, hown, -⟩ := cx; obtain ⟨dd, rfl⟩ := hd
  obtain ⟨c, Ar, hc, hlen⟩ := A
  have hs : c.slots.size = vs.length := by rw [← hc]; simp
  refine Run.st (X0.arraylength hx (cell := c) (by rw [eT]; exact Ar.1) (State.isArrayOf_alike hZ.alike Ar.2.1) (g := mkF K.m pc L (.ref a :: S)) rfl (rest := S) rfl (hb hby dd)) ?_
  rw [hs]; exact k
theorem r_alen {ty : FieldType} {xs : List Int32} {a : Addr} (X : Sd K T h cl sl) (cx : Cx K y bytes mx rt R) (hd : Dc bytes pc .arraylength 1 pc') (A : AI ty K.Z h a xs) (n : Nat) (hn : xs.length = n) (k : Run K Q T (mkF K.m pc' L (.int (Int32.ofNat n) :: S))) : Run K Q T (mkF K.m pc L (.ref a :: S)) :=
  r_arraylength X cx hd A (by rw [List.length_map, hn]; exact k)
theorem r_alenJ {xs : List Int64} {a : Addr} (X : Sd K T h cl sl) (cx : Cx K y bytes mx rt R) (hd : Dc bytes pc .arraylength 1 pc') (A : AJ K.Z h a xs) (n : Nat) (hn : xs.length = n) (k : Run K Q T (mkF K.m pc' L (.int (Int32.ofNat n) :: S))) : Run K Q T (mkF K.m pc L (.ref a :: S)) :=
  r_arraylength X cx hd A (by rw [List.length_map, hn]; exact k)
theorem r_iaload {xs : List Int32} {a : Addr} {j : Int32} {v : Int32} (X : Sd K T h cl sl) (cx : Cx K y bytes mx rt R) (hd : Dc bytes pc .iaload 1 pc') (A : AI .int K.Z h a xs) (n : Nat) (hj : j = Int32.ofNat n) (hv : xs[n]? = some v) (k : Run K Q T (mkF K.m pc' L (.int v :: S))) : Run K Q T (mkF K.m pc L (.int j :: .ref a :: S)) := by
  obtain ⟨locs, X0, N, hz, eT⟩ := X; obtain ⟨hx, hZ, hby, -, hown, -⟩ := cx; obtain ⟨dd, rfl⟩ := hd
  obtain ⟨c, Ar, hc, hlen⟩ := A
  have hs : c.slots.size = xs.length := by have := congrArg List.length hc; simpa using this
  have hl : n < xs.length := (List.getElem?_eq_some_iff.mp hv).1
  have hn : n < 2 ^ 31 := by simp at hlen; omega
  subst hj
  have e1 := ofNat_clamp hn
  have hat : c.slots[(Int32.ofNat n).toNatClampNeg]? = some (.int v) := by
    rw [e1, ← Array.getElem?_toList, hc, List.getElem?_map, hv]; rfl
  exact Run.st (X0.iaload hx (cell := c) (by rw [eT]; exact Ar.1) (State.isArrayOf_alike hZ.alike Ar.2.1) Ar.2.2 (by rw [e1, hs]; intro q; rcases q with q | q; exact ofNat_neg hn q; omega) hat (g := mkF K.m pc L (.int (Int32.ofNat n) :: .ref a :: S)) rfl rfl (hb hby dd)) k
theorem r_saload {xs : List Int32} {a : Addr} {j : Int32} {v : Int32} (X : Sd K T h cl sl) (cx : Cx K y bytes mx rt R) (hd : Dc bytes pc .saload 1 pc') (A : AI .short K.Z h a xs) (n : Nat) (hj : j = Int32.ofNat n) (hv : xs[n]? = some v) (k : Run K Q T (mkF K.m pc' L (.int v :: S))) : Run K Q T (mkF K.m pc L (.int j :: .ref a :: S)) := by
  obtain ⟨locs, X0, N, hz, eT⟩ := X; obtain ⟨hx, hZ, hby, -, hown, -⟩ := cx; obtain ⟨dd, rfl⟩ := hd
  obtain ⟨c, Ar, hc, hlen⟩ := A
  have hs : c.slots.size = xs.length := by have := congrArg List.length hc; simpa using this
  have hl : n < xs.length := (List.getElem?_eq_some_iff.mp hv).1
  have hn : n < 2 ^ 31 := by simp at hlen; omega
  subst hj
  have e1 := ofNat_clamp hn
  have hat : c.slots[(Int32.ofNat n).toNatClampNeg]? = some (.int v) := by
    rw [e1, ← Array.getElem?_toList, hc, List.getElem?_map, hv]; rfl
  exact Run.st (X0.saload hx (cell := c) (by rw [eT]; exact Ar.1) (State.isArrayOf_alike hZ.alike Ar.2.1) Ar.2.2 (by rw [e1, hs]; intro q; rcases q with q | q; exact ofNat_neg hn q; omega) hat (g := mkF K.m pc L (.int (Int32.ofNat n) :: .ref a :: S)) rfl rfl (hb hby dd)) k
theorem r_baload {xs : List Int32} {a : Addr} {j : Int32} {v : Int32} (X : Sd K T h cl sl) (cx : Cx K y bytes mx rt R) (hd : Dc bytes pc .baload 1 pc') (A : AI .byte K.Z h a xs) (n : Nat) (hj : j = Int32.ofNat n) (hv : xs[n]? = some v) (k : Run K Q T (mkF K.m pc' L (.int v :: S))) : Run K Q T (mkF K.m pc L (.int j :: .ref a :: S)) := by
  obtain ⟨locs, X0, N, hz, eT⟩ := X; obtain ⟨hx, hZ, hby, -, hown, -⟩ := cx; obtain ⟨dd, rfl⟩ := hd
  obtain ⟨c, Ar, hc, hlen⟩ := A
  have hs : c.slots.size = xs.length := by have := congrArg List.length hc; simpa using this
  have hl : n < xs.length := (List.getElem?_eq_some_iff.mp hv).1
  have hn : n < 2 ^ 31 := by simp at hlen; omega
  subst hj
  have e1 := ofNat_clamp hn
  have hat : c.slots[(Int32.ofNat n).toNatClampNeg]? = some (.int v) := by
    rw [e1, ← Array.getElem?_toList, hc, List.getElem?_map, hv]; rfl
  exact Run.st (X0.baloadBytes hx (cell := c) (by rw [eT]; exact Ar.1) (State.isArrayOf_alike hZ.alike Ar.2.1) Ar.2.2 (by rw [e1, hs]; intro q; rcases q with q | q; exact ofNat_neg hn q; omega) hat (g := mkF K.m pc L (.int (Int32.ofNat n) :: .ref a :: S)) rfl rfl (hb hby dd)) k
theorem r_laload {xs : List Int64} {a : Addr} {j : Int32} {v : Int64} (X : Sd K T h cl sl) (cx : Cx K y bytes mx rt R) (hd : Dc bytes pc .laload 1 pc') (A : AJ K.Z h a xs) (n : Nat) (hj : j = Int32.ofNat n) (hv : xs[n]? = some v) (k : Run K Q T (mkF K.m pc' L (.long v :: S))) : Run K Q T (mkF K.m pc L (.int j :: .ref a :: S)) := by
  obtain ⟨locs, X0, N, hz, eT⟩ := X; obtain ⟨hx, hZ, hby, -, hown, -⟩ := cx; obtain ⟨dd, rfl⟩ := hd
  obtain ⟨c, Ar, hc, hlen⟩ := A
  have hs : c.slots.size = xs.length := by have := congrArg List.length hc; simpa using this
  have hl : n < xs.length := (List.getElem?_eq_some_iff.mp hv).1
  have hn : n < 2 ^ 31 := by simp at hlen; omega
  subst hj
  have e1 := ofNat_clamp hn
  have hat : c.slots[(Int32.ofNat n).toNatClampNeg]? = some (.long v) := by
    rw [e1, ← Array.getElem?_toList, hc, List.getElem?_map, hv]; rfl
  exact Run.st (X0.laload hx (cell := c) (by rw [eT]; exact Ar.1) (State.isArrayOf_alike hZ.alike Ar.2.1) Ar.2.2 (by rw [e1, hs]; intro q; rcases q with q | q; exact ofNat_neg hn q; omega) hat (g := mkF K.m pc L (.int (Int32.ofNat n) :: .ref a :: S)) rfl rfl (hb hby dd)) k
theorem r_iastore {xs : List Int32} {a : Addr} {j : Int32} {x : Int32} (X : Sd K T h cl sl) (cx : Cx K y bytes mx rt R) (hd : Dc bytes pc .iastore 1 pc') (A : AI .int K.Z h a xs) (n : Nat) (hj : j = Int32.ofNat n) (hl : n < xs.length) (ge : K.n0 ≤ a) (k : ∀ T' h', Sd K T' h' cl sl → Wr h h' a n (.int x) → AI .int K.Z h' a (xs.set n x) → Run K Q T' (mkF K.m pc' L S)) : Run K Q T (mkF K.m pc L (.int x :: .int j :: .ref a :: S)) := by
  obtain ⟨locs, X0, N, hz, eT⟩ := X; obtain ⟨hx, hZ, hby, -, hown, -⟩ := cx; obtain ⟨dd, rfl⟩ := hd
  have A0 := A
  obtain ⟨c, Ar, hc, hlen⟩ := A
  have hs : c.slots.size = xs.length := by have := congrArg List.length hc; simpa using this
  have hn : n < 2 ^ 31 := by simp at hlen; omega
  subst hj
  have e1 := ofNat_clamp hn
  obtain ⟨T1, h1, X1, eh1, W1, st1⟩ := stI X0 hx hZ eT Ar (j := Int32.ofNat n) (x := x) (by rw [e1, hs]; intro q; rcases q with q | q; exact ofNat_neg hn q; omega) (g := mkF K.m pc L (.int x :: .int (Int32.ofNat n) :: .ref a :: S)) rfl rfl (hb hby dd)
  have hz1 : K.n0 ≤ h1.size := by rw [W1.size]; exact hz
  have N1 := Fr.snoc X1 N ge
  rw [e1] at W1
  exact Run.st st1 (k T1 h1 ⟨_, X1, N1, hz1, eh1⟩ W1 (AI.set A0 W1))
theorem r_sastore {xs : List Int32} {a : Addr} {j : Int32} {x : Int32} (X : Sd K T h cl sl) (cx : Cx K y bytes mx rt R) (hd : Dc bytes pc .sastore 1 pc') (A : AI .short K.Z h a xs) (n : Nat) (hj : j = Int32.ofNat n) (hl : n < xs.length) (ge : K.n0 ≤ a) (k : ∀ T' h', Sd K T' h' cl sl → Wr h h' a n (.int (nar .short x)) → AI .short K.Z h' a (xs.set n (nar .short x)) → Run K Q T' (mkF K.m pc' L S)) : Run K Q T (mkF K.m pc L (.int x :: .int j :: .ref a :: S)) := by
  obtain ⟨locs, X0, N, hz, eT⟩ := X; obtain ⟨hx, hZ, hby, -, hown, -⟩ := cx; obtain ⟨dd, rfl⟩ := hd
  have A0 := A
  obtain ⟨c, Ar, hc, hlen⟩ := A
  have hs : c.slots.size = xs.length := by have := congrArg List.length hc; simpa using this
  have hn : n < 2 ^ 31 := by simp at hlen; omega
  subst hj
  have e1 := ofNat_clamp hn
  obtain ⟨T1, h1, X1, eh1, W1, st1⟩ := stS X0 hx hZ eT Ar (j := Int32.ofNat n) (x := x) (by rw [e1, hs]; intro q; rcases q with q | q; exact ofNat_neg hn q; omega) (g := mkF K.m pc L (.int x :: .int (Int32.ofNat n) :: .ref a :: S)) rfl rfl (hb hby dd)
  have hz1 : K.n0 ≤ h1.size := by rw [W1.size]; exact hz
  have N1 := Fr.snoc X1 N ge
  rw [e1] at W1
  exact Run.st st1 (k T1 h1 ⟨_, X1, N1, hz1, eh1⟩ W1 (AI.set A0 W1))
theorem r_bastore {xs : List Int32} {a : Addr} {j : Int32} {x : Int32} (X : Sd K T h cl sl) (cx : Cx K y bytes mx rt R) (hd : Dc bytes pc .bastore 1 pc') (A : AI .byte K.Z h a xs) (n : Nat) (hj : j = Int32.ofNat n) (hl : n < xs.length) (ge : K.n0 ≤ a) (k : ∀ T' h', Sd K T' h' cl sl → Wr h h' a n (.int (nar .byte x)) → AI .byte K.Z h' a (xs.set n (nar .byte x)) → Run K Q T' (mkF K.m pc' L S)) : Run K Q T (mkF K.m pc L (.int x :: .int j :: .ref a :: S)) := by
  obtain ⟨locs, X0, N, hz, eT⟩ := X; obtain ⟨hx, hZ, hby, -, hown, -⟩ := cx; obtain ⟨dd, rfl⟩ := hd
  have A0 := A
  obtain ⟨c, Ar, hc, hlen⟩ := A
  have hs : c.slots.size = xs.length := by have := congrArg List.length hc; simpa using this
  have hn : n < 2 ^ 31 := by simp at hlen; omega
  subst hj
  have e1 := ofNat_clamp hn
  obtain ⟨T1, h1, X1, eh1, W1, st1⟩ := stB X0 hx hZ eT Ar (j := Int32.ofNat n) (x := x) (by rw [e1, hs]; intro q; rcases q with q | q; exact ofNat_neg hn q; omega) (g := mkF K.m pc L (.int x :: .int (Int32.ofNat n) :: .ref a :: S)) rfl rfl (hb hby dd)
  have hz1 : K.n0 ≤ h1.size := by rw [W1.size]; exact hz
  have N1 := Fr.snoc X1 N ge
  rw [e1] at W1
  exact Run.st st1 (k T1 h1 ⟨_, X1, N1, hz1, eh1⟩ W1 (AI.set A0 W1))
theorem r_lastore {xs : List Int64} {a : Addr} {j : Int32} {x : Int64} (X : Sd K T h cl sl) (cx : Cx K y bytes mx rt R) (hd : Dc bytes pc .lastore 1 pc') (A : AJ K.Z h a xs) (n : Nat) (hj : j = Int32.ofNat n) (hl : n < xs.length) (ge : K.n0 ≤ a) (k : ∀ T' h', Sd K T' h' cl sl → Wr h h' a n (.long x) → AJ K.Z h' a (xs.set n x) → Run K Q T' (mkF K.m pc' L S)) : Run K Q T (mkF K.m pc L (.long x :: .int j :: .ref a :: S)) := by
  obtain ⟨locs, X0, N, hz, eT⟩ := X; obtain ⟨hx, hZ, hby, -, hown, -⟩ := cx; obtain ⟨dd, rfl⟩ := hd
  have A0 := A
  obtain ⟨c, Ar, hc, hlen⟩ := A
  have hs : c.slots.size = xs.length := by have := congrArg List.length hc; simpa using this
  have hn : n < 2 ^ 31 := by simp at hlen; omega
  subst hj
  have e1 := ofNat_clamp hn
  obtain ⟨T1, h1, X1, eh1, W1, st1⟩ := stJ X0 hx hZ eT Ar (j := Int32.ofNat n) (x := x) (by rw [e1, hs]; intro q; rcases q with q | q; exact ofNat_neg hn q; omega) (g := mkF K.m pc L (.long x :: .int (Int32.ofNat n) :: .ref a :: S)) rfl rfl (hb hby dd)
  have hz1 : K.n0 ≤ h1.size := by rw [W1.size]; exact hz
  have N1 := Fr.snoc X1 N ge
  rw [e1] at W1
  exact Run.st st1 (k T1 h1 ⟨_, X1, N1, hz1, eh1⟩ W1 (AJ.set A0 W1))
theorem r_newarray {aty : ArrayType} {a0 : Array Value} {z : Int32} (X : Sd K T h cl sl) (cx : Cx K y bytes mx rt R) (hd : Dc bytes pc (.newarray aty) 2 pc') (w : (Cond.arrayClass (newarray.typeOf aty)).before a0 K.Z = true) (n cap : Nat) (hj : z = Int32.ofNat n) (hcap : n ≤ cap) (hb8 : cap * 8 ≤ 536870912) (hc : cl + 1 ≤ R.cells) (hs : sl + cap ≤ R.slots)
    (k : ∀ T' h' a, a = h.size → K.n0 ≤ a → Sd K T' h' (cl + 1) (sl + cap) → Ext h h' → AV K.Z h' a (newarray.typeOf aty) (List.replicate n (defaultValue (newarray.typeOf aty))) → Run K Q T' (mkF K.m pc' L (.ref a :: S))) : Run K Q T (mkF K.m pc L (.int z :: S)) := by
  obtain ⟨locs, X0, N, hz, eT⟩ := X; obtain ⟨hx, hZ, hby, -, hown, -, -, hR, -⟩ := cx; obtain ⟨dd, rfl⟩ := hd
  have hn : n < 2 ^ 31 := by omega
  subst hj
  have e1 := ofNat_clamp hn
  obtain ⟨T1, h1, cA, X1, eh1, E1, A1, st1⟩ := newP X0 hx hZ w eT (g := mkF K.m pc L (.int (Int32.ofNat n) :: S)) rfl (hb hby dd) (n := Int32.ofNat n) rfl (ofNat_neg hn) (cap := cap) (by rw [e1]; exact hcap) hb8 (by rw [hR]; exact hc) (by rw [hR]; exact hs)
  refine Run.st st1 (k T1 h1 h.size rfl hz ⟨locs, X1, N, Nat.le_trans hz E1.1, eh1⟩ E1 ⟨_, A1, ?_, by simpa using hn⟩)
  simp [newA, e1]
theorem AI.new {ty : FieldType} {Z : State} {h : Heap} {a : Addr} {n : Nat} (A : AV Z h a ty (List.replicate n (.int 0))) : AI ty Z h a (List.replicate n 0) := by
  show AV Z h a ty _
  rw [List.map_replicate]; exact A
theorem AJ.new {Z : State} {h : Heap} {a : Addr} {n : Nat} (A : AV Z h a .long (List.replicate n (.long 0))) : AJ Z h a (List.replicate n 0) := by
  show AV Z h a .long _
  rw [List.map_replicate]; exact A
end Rules
/-! contracts and calls -/
def Con (l : Launch) (Z : State) (y : MethodName) (bytes : ByteArray) (mx : Nat) (rt : Option FieldType) (rm : Room) (as : Array Value) (h0 : Heap) (n0 : Nat) (Q : Option Value → Heap → Prop) : Prop :=
  ∀ ws, MetFree l y (head1 (Jvm.Cond.code y bytes mx rt :: ws) rm) (fun a U => a = as ∧ Z.Warmed39 U.vm ∧ U.heap = h0) (fun _ _ _ _ _ => True) (fun _ U o U' => ∃ v L, o = .returned v ∧ (Q v U'.heap ∧ Fr n0 L) ∧ FrameEnd U o U' L rm.cells rm.slots)
theorem Con.of {l : Launch} {Z : State} {y : MethodName} {bytes : ByteArray} {mx : Nat} {rt : Option FieldType} {rm : Room} {as : Array Value} {h0 : Heap} {n0 : Nat} {Q : Option Value → Heap → Prop} (hy : plainFor y = true) (Z0 : n0 ≤ h0.size)
    (body : ∀ K : KT, K.l = l → K.Z = Z → K.n0 = n0 → Cx K y bytes mx rt rm → ∀ T, Sd K T h0 0 0 → Run K Q T (entryFrame K.m as mx)) : Con l Z y bytes mx rt rm as h0 n0 Q := by
  intro ws
  refine MetFree.of_bodySF hy hisR ?_
  intro p e s m args below meth c s₁ Bd hml0 hP hK
  obtain ⟨rfl, hZ, hh⟩ := hP
  have hown : s.vm.findClass y.cls = some m.cls := findClass_of_methodNamed Bd.named
  have hnm := (name_of_methodNamed Bd.named Bd.method).1
  have X0 : Stand p l e rm s m args below meth c s₁ [] 0 0 := Stand.of_body Bd
  have e0 : s₁.heap = h0 := by rw [← hh, Bd.state]; rfl
  obtain ⟨s₂, v, L, h1, h2, h3, h4, h5, h6⟩ := body (p, l, e, rm, s, m, args, below, meth, c, Z, n0) rfl rfl rfl ⟨Bd.exec, hZ, Bd.bytes, hml0, hown, Bd.returns, Bd.notSynchronized, rfl, hnm⟩ s₁ ⟨[], X0, Fr.nil n0, Z0, e0⟩
  exact ⟨s₂, _, h1, h2, h3, v, L, rfl, ⟨h4, h5⟩, h6⟩
section Calls
variable {K : KT} {Q : Option Value → Heap → Prop} {T : State} {h : Heap} {cl sl : Nat} {y : MethodName} {bytes : ByteArray} {mx : Nat} {rt : Option FieldType} {R : Room} {pc pc' pt : Nat} {L : Array Slot}
theorem r_static {z : MethodName} {zb : ByteArray} {zm : Nat} {zr : Option FieldType} {rm : Room} {i : Nat} {a0 : Array Value} {Qz : Option Value → Heap → Prop} {St : List Value} (argsL rest : List Value) (X : Sd K T h cl sl) (cx : Cx K y bytes mx rt R) (hd : Dc bytes pc (.invokestatic i) 3 pc')
    (w1 : (Cond.methodLink y.cls i z).before a0 K.Z = true) (w2 : (Cond.static z).before a0 K.Z = true) (w3 : (Cond.initialized z.cls).before a0 K.Z = true) (w4 : (Cond.code z zb zm zr).before a0 K.Z = true) (hm : z.cls ≠ "java/lang/invoke/MethodHandle" ∧ z.cls ≠ "java/lang/invoke/VarHandle")
    (con : Con K.l K.Z z zb zm zr rm argsL.toArray h K.n0 Qz) (hpd : ∀ sig, parseMethodDescriptor z.desc = some sig → argsL.length = sig.parameters.length) (hSt : St = argsL.reverse ++ rest) (hsz : L.size = mx) (hf : rm.frames + 1 ≤ R.frames) (hl : (rest.map fun v => v.category).sum + (zm + 11) + rm.locals ≤ R.locals) (hc : cl + rm.cells ≤ R.cells) (hs : sl + rm.slots ≤ R.slots)
    (k : ∀ T' h' v, Sd K T' h' (cl + rm.cells) (sl + rm.slots) → Qz v h' → Run K Q T' (mkF K.m pc' L (v.toList ++ rest))) (hmono : ∀ v h', Qz v h' → h.size ≤ h'.size) : Run K Q T (mkF K.m pc L St) := by
  obtain ⟨locs, X0, N, hz, eT⟩ := X; obtain ⟨hx, hZ, hby, hml, hown, -, -, hR, -⟩ := cx; obtain ⟨dd, rfl⟩ := hd
  obtain ⟨v, _, ⟨T1, L1, k1, n1⟩, -, X1, ⟨Lc, ⟨hQ, hF⟩, l1, y1, z1⟩, st1⟩ := Jvm.LawKit.callS X0 hx (y := z) hown (mvT hZ w1) (mvT hZ w2) (mvT hZ w3) (mvT hZ w4) hm (backOf (W := (rest.map fun v => v.category).sum) (Q := fun v h L => Qz v h ∧ Fr K.n0 L) (con []) hZ w4 w3 (by rw [hR]; exact hf) (by rw [hR]; exact hl)) (g := mkF K.m pc L St) rfl (by rw [hml]; exact hsz) (argsL := argsL) (rest := rest) hpd hSt (by show 2 * 0 + _ ≤ _; omega) (hb hby dd) (fun _ _ => ⟨rfl, eT, by rw [hR]; exact hc, by rw [hR]; exact hs⟩)
  dsimp only [Pt.U, Pt.locs, Pt.cells, Pt.slots] at X1 l1 y1 z1 st1 hQ
  subst l1 y1 z1
  exact Run.st st1 (k T1 _ v ⟨_, X1, Fr.app N hF, Nat.le_trans hz (hmono _ _ hQ), rfl⟩ hQ)
theorem r_virtual {z : MethodName} {C : String} {zb : ByteArray} {zm : Nat} {zr : Option FieldType} {rm : Room} {i : Nat} {a : Addr} {a0 : Array Value} {Qz : Option Value → Heap → Prop} {St : List Value} (argsL rest : List Value) (X : Sd K T h cl sl) (cx : Cx K y bytes mx rt R) (hd : Dc bytes pc (.invokevirtual i) 3 pc') (E : Exa K.Z h a C)
    (w1 : (Cond.methodLink y.cls i z).before a0 K.Z = true) (w2 : (Cond.declares z).before a0 K.Z = true) (w3 : (Cond.selects C z z).before a0 K.Z = true) (w4 : (Cond.instanceMethod z).before a0 K.Z = true) (w5 : (Cond.initialized z.cls).before a0 K.Z = true) (w6 : (Cond.code z zb zm zr).before a0 K.Z = true) (hm : z.cls ≠ "java/lang/invoke/MethodHandle" ∧ z.cls ≠ "java/lang/invoke/VarHandle")
    (con : Con K.l K.Z z zb zm zr rm (.ref a :: argsL).toArray h K.n0 Qz) (hpd : ∀ sig, parseMethodDescriptor z.desc = some sig → argsL.length = sig.parameters.length) (hSt : St = argsL.reverse ++ .ref a :: rest) (hsz : L.size = mx) (hf : rm.frames + 1 ≤ R.frames) (hl : (rest.map fun v => v.category).sum + (zm + 11) + rm.locals ≤ R.locals) (hc : cl + rm.cells ≤ R.cells) (hs : sl + rm.slots ≤ R.slots)
    (k : ∀ T' h' v, Sd K T' h' (cl + rm.cells) (sl + rm.slots) → Qz v h' → Run K Q T' (mkF K.m pc' L (v.toList ++ rest))) (hmono : ∀ v h', Qz v h' → h.size ≤ h'.size) : Run K Q T (mkF K.m pc L St) := by
  obtain ⟨locs, X0, N, hz, eT⟩ := X; obtain ⟨hx, hZ, hby, hml, hown, -, -, hR, -⟩ := cx; obtain ⟨dd, rfl⟩ := hd
  obtain ⟨cq, kq, qa, qb, qc⟩ := isOf hZ eT E
  obtain ⟨v, _, ⟨T1, L1, k1, n1⟩, -, X1, ⟨Lc, ⟨hQ, hF⟩, l1, y1, z1⟩, st1⟩ := X0.virtualBack hx (y := z) (z := z) hown (mvT hZ w1) (mvT hZ w2) (notFace_of_selects (args := #[]) (mvT hZ w3)) (mvT hZ w3) (mvT hZ w4) hm (backOf (W := (rest.map fun v => v.category).sum) (Q := fun v h L => Qz v h ∧ Fr K.n0 L) (con []) hZ w6 w5 (by rw [hR]; exact hf) (by rw [hR]; exact hl)) qa qc (g := mkF K.m pc L St) rfl (by rw [hml]; exact hsz) (Steps.refl _) (argsL := argsL) (rest := rest) hpd hSt (by show 2 * 0 + _ ≤ _; omega) (hb hby dd) (fun _ _ => ⟨rfl, eT, by rw [hR]; exact hc, by rw [hR]; exact hs⟩)
  dsimp only [Pt.U, Pt.locs, Pt.cells, Pt.slots] at X1 l1 y1 z1 st1 hQ
  subst l1 y1 z1
  exact Run.st (fun t q => st1.trans q) (k T1 _ v ⟨_, X1, Fr.app N hF, Nat.le_trans hz (hmono _ _ hQ), rfl⟩ hQ)
theorem r_private {z z' : MethodName} {C C' : String} {zb : ByteArray} {zm : Nat} {zr : Option FieldType} {rm : Room} {i : Nat} {a : Addr} {a0 : Array Value} {Qz : Option Value → Heap → Prop} {St : List Value} (argsL rest : List Value) (X : Sd K T h cl sl) (cx : Cx K y bytes mx rt R) (hd : Dc bytes pc (.invokevirtual i) 3 pc') (E : Exa K.Z h a C)
    (w1 : (Cond.methodLink y.cls i z).before a0 K.Z = true) (w2 : (Cond.selects C' z' z').before a0 K.Z = true) (w3 : (Cond.instanceMethod z).before a0 K.Z = true) (w4 : (Cond.privateMethod z).before a0 K.Z = true) (w5 : (Cond.initialized z.cls).before a0 K.Z = true) (w6 : (Cond.code z zb zm zr).before a0 K.Z = true) (hzz : z'.cls = z.cls) (hm : z.cls ≠ "java/lang/invoke/MethodHandle" ∧ z.cls ≠ "java/lang/invoke/VarHandle")
    (con : Con K.l K.Z z zb zm zr rm (.ref a :: argsL).toArray h K.n0 Qz) (hpd : ∀ sig, parseMethodDescriptor z.desc = some sig → argsL.length = sig.parameters.length) (hSt : St = argsL.reverse ++ .ref a :: rest) (hsz : L.size = mx) (hf : rm.frames + 1 ≤ R.frames) (hl : (rest.map fun v => v.category).sum + (zm + 11) + rm.locals ≤ R.locals) (hc : cl + rm.cells ≤ R.cells) (hs : sl + rm.slots ≤ R.slots)
    (k : ∀ T' h' v, Sd K T' h' (cl + rm.cells) (sl + rm.slots) → Qz v h' → Run K Q T' (mkF K.m pc' L (v.toList ++ rest))) (hmono : ∀ v h', Qz v h' → h.size ≤ h'.size) : Run K Q T (mkF K.m pc L St) := by
  obtain ⟨locs, X0, N, hz, eT⟩ := X; obtain ⟨hx, hZ, hby, hml, hown, -, -, hR, -⟩ := cx; obtain ⟨dd, rfl⟩ := hd
  obtain ⟨cq, qa, qb⟩ := E.cell
  have u2 : (Cond.selects C' z' z').before K.args K.s = true := mvT hZ w2
  have u3 : (Cond.instanceMethod z).before K.args K.s = true := mvT hZ w3
  obtain ⟨c2, r2, m2, q1, q2, q3, q4, kP, hkP, hkPi⟩ := Cond.selects_spec u2
  have hc2 := findClass_of_methodNamed q3
  rw [hzz] at hc2
  have hpriv := Cond.privateMethod_at (mvP hZ w4 (args := K.args))
  have hsel := selects_self_of_private hc2 hkP hkPi hpriv u3 hm
  obtain ⟨v, _, ⟨T1, L1, k1, n1⟩, -, X1, ⟨Lc, ⟨hQ, hF⟩, l1, y1, z1⟩, st1⟩ := X0.privateBack hx (y := z) hown (mvT hZ w1) u3 hsel hpriv (mvT hZ w6) hm (backOf (W := (rest.map fun v => v.category).sum) (Q := fun v h L => Qz v h ∧ Fr K.n0 L) (con []) hZ w6 w5 (by rw [hR]; exact hf) (by rw [hR]; exact hl)) (g := mkF K.m pc L St) rfl (by rw [hml]; exact hsz) (Steps.refl _) (a := a) (by rw [eT]; exact qa) qb (argsL := argsL) (rest := rest) hpd hSt (by show 2 * 0 + _ ≤ _; omega) (hb hby dd) (fun _ _ => ⟨rfl, eT, by rw [hR]; exact hc, by rw [hR]; exact hs⟩)
  dsimp only [Pt.U, Pt.locs, Pt.cells, Pt.slots] at X1 l1 y1 z1 st1 hQ
  subst l1 y1 z1
  exact Run.st (fun t q => st1.trans q) (k T1 _ v ⟨_, X1, Fr.app N hF, Nat.le_trans hz (hmono _ _ hQ), rfl⟩ hQ)
theorem r_special {z : MethodName} {zb : ByteArray} {zm : Nat} {rm : Room} {i : Nat} {a : Addr} {a0 : Array Value} {Qz : Option Value → Heap → Prop} {St : List Value} (argsL rest : List Value) (X : Sd K T h cl sl) (cx : Cx K y bytes mx rt R) (hd : Dc bytes pc (.invokespecial i) 3 pc') (hzn : z.name = "<init>")
    (w1 : (Cond.methodLink y.cls i z).before a0 K.Z = true) (w2 : (Cond.instanceMethod z).before a0 K.Z = true) (w3 : (Cond.initialized z.cls).before a0 K.Z = true) (w4 : (Cond.code z zb zm none).before a0 K.Z = true) (hm : z.cls ≠ "java/lang/invoke/MethodHandle" ∧ z.cls ≠ "java/lang/invoke/VarHandle")
    (con : Con K.l K.Z z zb zm none rm (.ref a :: argsL).toArray h K.n0 Qz) (hpd : ∀ sig, parseMethodDescriptor z.desc = some sig → argsL.length = sig.parameters.length) (hSt : St = argsL.reverse ++ .ref a :: rest) (hsz : L.size = mx) (hf : rm.frames + 1 ≤ R.frames) (hl : (rest.map fun v => v.category).sum + (zm + 11) + rm.locals ≤ R.locals) (hc : cl + rm.cells ≤ R.cells) (hs : sl + rm.slots ≤ R.slots)
    (k : ∀ T' h' v, Sd K T' h' (cl + rm.cells) (sl + rm.slots) → Qz v h' → Run K Q T' (mkF K.m pc' L (v.toList ++ rest))) (hmono : ∀ v h', Qz v h' → h.size ≤ h'.size) : Run K Q T (mkF K.m pc L St) := by
  obtain ⟨locs, X0, N, hz, eT⟩ := X; obtain ⟨hx, hZ, hby, hml, hown, -, -, hR, -⟩ := cx; obtain ⟨dd, rfl⟩ := hd
  obtain ⟨v, _, ⟨T1, L1, k1, n1⟩, -, X1, ⟨Lc, ⟨hQ, hF⟩, l1, y1, z1⟩, st1⟩ := X0.specialBack hx (y := z) hzn hown (mvT hZ w1) (mvT hZ w2) (mvT hZ w4) hm (backOf (W := (rest.map fun v => v.category).sum) (Q := fun v h L => Qz v h ∧ Fr K.n0 L) (con []) hZ w4 w3 (by rw [hR]; exact hf) (by rw [hR]; exact hl)) (g := mkF K.m pc L St) rfl (by rw [hml]; exact hsz) (Steps.refl _) (a := a) (argsL := argsL) (rest := rest) hpd hSt (by show 2 * 0 + _ ≤ _; omega) (hb hby dd) (fun _ _ => ⟨rfl, eT, by rw [hR]; exact hc, by rw [hR]; exact hs⟩)
  dsimp only [Pt.U, Pt.locs, Pt.cells, Pt.slots] at X1 l1 y1 z1 st1 hQ
  subst l1 y1 z1
  exact Run.st (fun t q => st1.trans q) (k T1 _ v ⟨_, X1, Fr.app N hF, Nat.le_trans hz (hmono _ _ hQ), rfl⟩ hQ)
end Calls
end Jvm.Own
namespace Jvm.Pilot.@@N@@
open Jvm Jvm.ClassFile Sem Op Lib Jvm.Free Jvm.Stand Jvm.LawKit Jvm.RoadKit Bundle Jvm.Own Jvm.Pilot.@@N@@.Jvm.D
theorem pd_0 : parseMethodDescriptor "([JJ)I" = some ⟨[.array .long, .long], some (.int)⟩ := by decide +kernel
def own_bk (xs : List Int64) (d : Int64) : Int32 :=
  match xs with
  | [_] => 0
  | [a, _] => if d < a then 0 else 1
  | [a, b, _] => if d < b then (if d < a then 0 else 1) else 2
  | [a, b, c, _] => if d < b then (if d < a then 0 else 1) else (if d < c then 2 else 3)
  | _ => 0
theorem own_m3 (x : Int32) : 1 + (x &&& 3) = 1 ∨ 1 + (x &&& 3) = 2 ∨ 1 + (x &&& 3) = 3 ∨ 1 + (x &&& 3) = 4 := by
  have h : (x &&& 3).toBitVec.toNat ≤ 3 := by
    simp only [Int32.toBitVec_and, BitVec.toNat_and]; exact Nat.and_le_right
  have e : (x &&& 3) = Int32.ofNat (x &&& 3).toBitVec.toNat := by
    apply Int32.toBitVec_inj.mp
    show _ = BitVec.ofNat 32 _
    rw [BitVec.ofNat_toNat]; simp
  rw [e]
  generalize (x &&& 3).toBitVec.toNat = n at h
  have : n = 0 ∨ n = 1 ∨ n = 2 ∨ n = 3 := by omega
  rcases this with rfl | rfl | rfl | rfl <;> decide
def own_r (v : Int64) : Prop := 0 ≤ v.toInt ∧ v.toInt < 2305843009213693952
theorem own_and (x m : Int64) (hm : 0 ≤ m.toInt) : 0 ≤ (x &&& m).toInt ∧ (x &&& m).toInt ≤ m.toInt := by
  have e : m.toInt = (m.toBitVec.toNat : Int) := by
    show m.toBitVec.toInt = _
    rw [BitVec.toInt_eq_toNat_of_msb]
    rw [BitVec.msb_eq_toInt]; simpa using hm
  have hle : (x &&& m).toBitVec.toNat ≤ m.toBitVec.toNat := by
    rw [Int64.toBitVec_and, BitVec.toNat_and]; exact Nat.and_le_right
  have hlt : m.toBitVec.toNat < 2 ^ 63 := by
    have := m.toInt_lt; rw [e] at this; omega
  have e2 : (x &&& m).toInt = ((x &&& m).toBitVec.toNat : Int) := by
    show (x &&& m).toBitVec.toInt = _
    rw [BitVec.toInt_eq_toNat_of_lt]; omega
  rw [e2, e]; omega
theorem own_and1 (x : Int64) : own_r (x &&& 2305843009213693951) := by
  have := own_and x 2305843009213693951 (by decide)
  exact ⟨this.1, Int.lt_of_le_of_lt this.2 (by decide)⟩
theorem own_rem (x y : Int64) (hx : 0 ≤ x.toInt) (hy : 0 < y.toInt) : (x - x / y * y).toInt = x.toInt % y.toInt := by
  have h1 : (x / y).toInt = x.toInt / y.toInt := by
    rw [Int64.toInt_div, Int.tdiv_eq_ediv_of_nonneg hx]
    have h2 := Int.ediv_nonneg hx (Int.le_of_lt hy)
    have h3 := Int.ediv_le_self y.toInt hx
    have := x.toInt_lt
    exact Int.bmod_eq_of_le (by omega) (by omega)
  have h2 : x.toInt / y.toInt * y.toInt = x.toInt - x.toInt % y.toInt := by
    have := Int.mul_ediv_add_emod x.toInt y.toInt
    rw [Int.mul_comm] at this; omega
  have h3 := Int.emod_nonneg x.toInt (Int.ne_of_gt hy)
  have h4 := Int.emod_lt_of_pos x.toInt hy
  have h5 : x.toInt % y.toInt ≤ x.toInt := by
    have := Int.ediv_nonneg hx (Int.le_of_lt hy)
    have := Int.mul_nonneg this (Int.le_of_lt hy)
    omega
  have := x.toInt_lt
  have hm : (x / y * y).toInt = x.toInt - x.toInt % y.toInt := by
    rw [Int64.toInt_mul, h1, h2]
    exact Int.bmod_eq_of_le (by omega) (by omega)
  rw [Int64.toInt_sub, hm]
  have : x.toInt - (x.toInt - x.toInt % y.toInt) = x.toInt % y.toInt := by omega
  rw [this]
  exact Int.bmod_eq_of_le (by omega) (by omega)
theorem own_add {x y : Int64} (h : -9223372036854775808 ≤ x.toInt + y.toInt) (h2 : x.toInt + y.toInt < 9223372036854775808) : (x + y).toInt = x.toInt + y.toInt := by
  rw [Int64.toInt_add]; exact Int.bmod_eq_of_le (by omega) (by omega)
theorem P8m16_0 : Dc prog_8_method_16_code 0 (.iconst 0) 1 1 := ⟨(by decide +kernel), rfl⟩
theorem P8m16_1 : Dc prog_8_method_16_code 1 (.istore_n 3) 1 2 := ⟨(by decide +kernel), rfl⟩
theorem P8m16_2 : Dc prog_8_method_16_code 2 (.aload_n 0) 1 3 := ⟨(by decide +kernel), rfl⟩
theorem P8m16_3 : Dc prog_8_method_16_code 3 (.arraylength) 1 4 := ⟨(by decide +kernel), rfl⟩
theorem P8m16_4 : Dc prog_8_method_16_code 4 (.iconst 1) 1 5 := ⟨(by decide +kernel), rfl⟩
theorem P8m16_5 : Dc prog_8_method_16_code 5 (.isub) 1 6 := ⟨(by decide +kernel), rfl⟩
theorem P8m16_6 : Dc prog_8_method_16_code 6 (.istore 4) 2 8 := ⟨(by decide +kernel), rfl⟩
theorem P8m16_8 : Dc prog_8_method_16_code 8 (.iload_n 3) 1 9 := ⟨(by decide +kernel), rfl⟩
theorem P8m16_9 : Dc prog_8_method_16_code 9 (.iload 4) 2 11 := ⟨(by decide +kernel), rfl⟩
theorem P8m16_11 : Db prog_8_method_16_code 11 (.if_icmp .ge 35) (35) 14 46 := ⟨(by decide +kernel), rfl, by decide, by decide⟩
theorem P8m16_14 : Dc prog_8_method_16_code 14 (.iload_n 3) 1 15 := ⟨(by decide +kernel), rfl⟩
theorem P8m16_15 : Dc prog_8_method_16_code 15 (.iload 4) 2 17 := ⟨(by decide +kernel), rfl⟩
theorem P8m16_17 : Dc prog_8_method_16_code 17 (.iadd) 1 18 := ⟨(by decide +kernel), rfl⟩
theorem P8m16_18 : Dc prog_8_method_16_code 18 (.iconst 1) 1 19 := ⟨(by decide +kernel), rfl⟩
theorem P8m16_19 : Dc prog_8_method_16_code 19 (.iushr) 1 20 := ⟨(by decide +kernel), rfl⟩
theorem P8m16_20 : Dc prog_8_method_16_code 20 (.istore 5) 2 22 := ⟨(by decide +kernel), rfl⟩
theorem P8m16_22 : Dc prog_8_method_16_code 22 (.aload_n 0) 1 23 := ⟨(by decide +kernel), rfl⟩
theorem P8m16_23 : Dc prog_8_method_16_code 23 (.iload 5) 2 25 := ⟨(by decide +kernel), rfl⟩
theorem P8m16_25 : Dc prog_8_method_16_code 25 (.laload) 1 26 := ⟨(by decide +kernel), rfl⟩
theorem P8m16_26 : Dc prog_8_method_16_code 26 (.lload_n 1) 1 27 := ⟨(by decide +kernel), rfl⟩
theorem P8m16_27 : Dc prog_8_method_16_code 27 (.lcmp) 1 28 := ⟨(by decide +kernel), rfl⟩
theorem P8m16_28 : Db prog_8_method_16_code 28 (.ifCond .le 10) (10) 31 38 := ⟨(by decide +kernel), rfl, by decide, by decide⟩
theorem P8m16_31 : Dc prog_8_method_16_code 31 (.iload 5) 2 33 := ⟨(by decide +kernel), rfl⟩
theorem P8m16_33 : Dc prog_8_method_16_code 33 (.istore 4) 2 35 := ⟨(by decide +kernel), rfl⟩
theorem P8m16_35 : Db prog_8_method_16_code 35 (.goto 8) (8) 38 43 := ⟨(by decide +kernel), rfl, by decide, by decide⟩
theorem P8m16_38 : Dc prog_8_method_16_code 38 (.iload 5) 2 40 := ⟨(by decide +kernel), rfl⟩
theorem P8m16_40 : Dc prog_8_method_16_code 40 (.iconst 1) 1 41 := ⟨(by decide +kernel), rfl⟩
theorem P8m16_41 : Dc prog_8_method_16_code 41 (.iadd) 1 42 := ⟨(by decide +kernel), rfl⟩
theorem P8m16_42 : Dc prog_8_method_16_code 42 (.istore_n 3) 1 43 := ⟨(by decide +kernel), rfl⟩
theorem P8m16_43 : Db prog_8_method_16_code 43 (.goto (-35)) (-35) 46 8 := ⟨(by decide +kernel), rfl, by decide, by decide⟩
theorem P8m16_46 : Dc prog_8_method_16_code 46 (.iload_n 3) 1 47 := ⟨(by decide +kernel), rfl⟩
theorem P8m16_47 : Dc prog_8_method_16_code 47 (.ireturn) 1 48 := ⟨(by decide +kernel), rfl⟩
theorem ef_P8m16 (m : MethodId) (r : Addr) (d : Int64) : entryFrame m #[(.ref r), (.long d)] 6 = mkF m 0 #[.val (.ref r), .val (.long d), .second, .unset, .unset, .unset] [] := by first | (simp [entryFrame, mkF, argsToLocals, Value.category]; done) | rfl
set_option maxRecDepth 65536 in
set_option maxHeartbeats 40000000 in
theorem con_P8m16 (l : Launch) (Z : State) (a0 : Array Value) (hw : Tb tables_1 a0 Z) (r : Addr) (d : Int64) (h0 : Heap) (n0 : Nat) (Z0 : n0 ≤ h0.size) (xs : List Int64) (hl1 : xs.length = 1 ∨ xs.length = 2 ∨ xs.length = 3 ∨ xs.length = 4) (A_r : AJ Z h0 r xs) :
    Con l Z (⟨"com/example/kindred/kindred/BucketLayout", "bucketAt", "([JJ)I"⟩ : MethodName) prog_8_method_16_code 6 (some (.int)) ({ frames := 0, cells := 0, slots := 0, locals := 0 } : Room) #[(.ref r), (.long d)] h0 n0 (fun v h => h0 = h ∧ v = some (.int (own_bk xs d))) := by
  refine Con.of (plainFor_of_name (by decide +kernel)) Z0 ?_
  intro K hl hZ hn cx T0 X0
  subst hl hZ hn
  refine Run.cast (ef_P8m16 K.m r d) ?_
  match xs, hl1, A_r with
  | [], hl, _ => exact absurd hl (by simp)
  | _ :: _ :: _ :: _ :: _ :: _, hl, _ => exact absurd hl (by simp)
  | [x0], _, A_r =>
    refine r_iconst (0) X0 cx P8m16_0 rfl ?_
    refine r_istoreN (fun zz => #[.val (.ref r), .val (.long d), .second, .val (.int zz), .unset, .unset]) X0 cx P8m16_1 (fun _ => rfl) (fun i1 e_i1 => ?_)
    subst e_i1
    refine r_aloadN X0 cx P8m16_2 rfl ?_
    refine r_alenJ X0 cx P8m16_3 A_r (1) rfl ?_
    refine r_iconst (1) X0 cx P8m16_4 rfl ?_
    refine r_isub X0 cx P8m16_5 ?_
    refine r_top (v' := 0) (by decide) ?_
    refine r_istore (fun zz => #[.val (.ref r), .val (.long d), .second, .val (.int (0 : Int32)), .val (.int zz), .unset]) X0 cx P8m16_6 (fun _ => rfl) (fun i2 e_i2 => ?_)
    subst e_i2
    refine r_iloadN X0 cx P8m16_8 rfl ?_
    refine r_iload X0 cx P8m16_9 rfl ?_
    refine r_icmpge X0 cx P8m16_11 (fun _ => ?_) (fun c => absurd c (by decide))
    refine r_iloadN X0 cx P8m16_46 rfl ?_
    refine r_ireturn X0 cx P8m16_47 (by decide) (by decide) ?_
    exact ⟨rfl, by simp only [own_bk, ↓reduceIte]⟩
  | [x0, x1], _, A_r =>
    refine r_iconst (0) X0 cx P8m16_0 rfl ?_
    refine r_istoreN (fun zz => #[.val (.ref r), .val (.long d), .second, .val (.int zz), .unset, .unset]) X0 cx P8m16_1 (fun _ => rfl) (fun i1 e_i1 => ?_)
    subst e_i1
    refine r_aloadN X0 cx P8m16_2 rfl ?_
    refine r_alenJ X0 cx P8m16_3 A_r (2) rfl ?_
    refine r_iconst (1) X0 cx P8m16_4 rfl ?_
    refine r_isub X0 cx P8m16_5 ?_
    refine r_top (v' := 1) (by decide) ?_
    refine r_istore (fun zz => #[.val (.ref r), .val (.long d), .second, .val (.int (0 : Int32)), .val (.int zz), .unset]) X0 cx P8m16_6 (fun _ => rfl) (fun i2 e_i2 => ?_)
    subst e_i2
    refine r_iloadN X0 cx P8m16_8 rfl ?_
    refine r_iload X0 cx P8m16_9 rfl ?_
    refine r_icmpge X0 cx P8m16_11 (fun c => absurd c (by decide)) (fun _ => ?_)
    refine r_iloadN X0 cx P8m16_14 rfl ?_
    refine r_iload X0 cx P8m16_15 rfl ?_
    refine r_iadd X0 cx P8m16_17 ?_
    refine r_top (v' := 1) (by decide) ?_
    refine r_iconst (1) X0 cx P8m16_18 rfl ?_
    refine r_iushr X0 cx P8m16_19 ?_
    refine r_top (v' := 0) (by decide) ?_
    refine r_istore (fun zz => #[.val (.ref r), .val (.long d), .second, .val (.int (0 : Int32)), .val (.int (1 : Int32)), .val (.int zz)]) X0 cx P8m16_20 (fun _ => rfl) (fun i3 e_i3 => ?_)
    subst e_i3
    refine r_aloadN X0 cx P8m16_22 rfl ?_
    refine r_iload X0 cx P8m16_23 rfl ?_
    refine r_laload X0 cx P8m16_25 A_r (0) rfl (v := x0) rfl ?_
    refine r_lloadN X0 cx P8m16_26 rfl ?_
    refine r_lcmp X0 cx P8m16_27 ?_
    refine r_lcmple X0 cx P8m16_28 (fun c28 => ?_) (fun c28 => ?_)
    · refine r_iload X0 cx P8m16_38 rfl ?_
      refine r_iconst (1) X0 cx P8m16_40 rfl ?_
      refine r_iadd X0 cx P8m16_41 ?_
      refine r_top (v' := 1) (by decide) ?_
      refine r_istoreN (fun zz => #[.val (.ref r), .val (.long d), .second, .val (.int zz), .val (.int (1 : Int32)), .val (.int (0 : Int32))]) X0 cx P8m16_42 (fun _ => rfl) (fun i4 e_i4 => ?_)
      subst e_i4
      refine r_goto X0 cx P8m16_43 ?_
      refine r_iloadN X0 cx P8m16_8 rfl ?_
      refine r_iload X0 cx P8m16_9 rfl ?_
      refine r_icmpge X0 cx P8m16_11 (fun _ => ?_) (fun c => absurd c (by decide))
      refine r_iloadN X0 cx P8m16_46 rfl ?_
      refine r_ireturn X0 cx P8m16_47 (by decide) (by decide) ?_
      exact ⟨rfl, by simp only [own_bk, c28, ↓reduceIte]⟩
    · refine r_iload X0 cx P8m16_31 rfl ?_
      refine r_istore (fun zz => #[.val (.ref r), .val (.long d), .second, .val (.int (0 : Int32)), .val (.int zz), .val (.int (0 : Int32))]) X0 cx P8m16_33 (fun _ => rfl) (fun i4 e_i4 => ?_)
      subst e_i4
      refine r_goto X0 cx P8m16_35 ?_
      refine r_goto X0 cx P8m16_43 ?_
      refine r_iloadN X0 cx P8m16_8 rfl ?_
      refine r_iload X0 cx P8m16_9 rfl ?_
      refine r_icmpge X0 cx P8m16_11 (fun _ => ?_) (fun c => absurd c (by decide))
      refine r_iloadN X0 cx P8m16_46 rfl ?_
      refine r_ireturn X0 cx P8m16_47 (by decide) (by decide) ?_
      exact ⟨rfl, by simp only [own_bk, c28, ↓reduceIte]⟩
  | [x0, x1, x2], _, A_r =>
    refine r_iconst (0) X0 cx P8m16_0 rfl ?_
    refine r_istoreN (fun zz => #[.val (.ref r), .val (.long d), .second, .val (.int zz), .unset, .unset]) X0 cx P8m16_1 (fun _ => rfl) (fun i1 e_i1 => ?_)
    subst e_i1
    refine r_aloadN X0 cx P8m16_2 rfl ?_
    refine r_alenJ X0 cx P8m16_3 A_r (3) rfl ?_
    refine r_iconst (1) X0 cx P8m16_4 rfl ?_
    refine r_isub X0 cx P8m16_5 ?_
    refine r_top (v' := 2) (by decide) ?_
    refine r_istore (fun zz => #[.val (.ref r), .val (.long d), .second, .val (.int (0 : Int32)), .val (.int zz), .unset]) X0 cx P8m16_6 (fun _ => rfl) (fun i2 e_i2 => ?_)
    subst e_i2
    refine r_iloadN X0 cx P8m16_8 rfl ?_
    refine r_iload X0 cx P8m16_9 rfl ?_
    refine r_icmpge X0 cx P8m16_11 (fun c => absurd c (by decide)) (fun _ => ?_)
    refine r_iloadN X0 cx P8m16_14 rfl ?_
    refine r_iload X0 cx P8m16_15 rfl ?_
    refine r_iadd X0 cx P8m16_17 ?_
    refine r_top (v' := 2) (by decide) ?_
    refine r_iconst (1) X0 cx P8m16_18 rfl ?_
    refine r_iushr X0 cx P8m16_19 ?_
    refine r_top (v' := 1) (by decide) ?_
    refine r_istore (fun zz => #[.val (.ref r), .val (.long d), .second, .val (.int (0 : Int32)), .val (.int (2 : Int32)), .val (.int zz)]) X0 cx P8m16_20 (fun _ => rfl) (fun i3 e_i3 => ?_)
    subst e_i3
    refine r_aloadN X0 cx P8m16_22 rfl ?_
    refine r_iload X0 cx P8m16_23 rfl ?_
    refine r_laload X0 cx P8m16_25 A_r (1) rfl (v := x1) rfl ?_
    refine r_lloadN X0 cx P8m16_26 rfl ?_
    refine r_lcmp X0 cx P8m16_27 ?_
    refine r_lcmple X0 cx P8m16_28 (fun c28 => ?_) (fun c28 => ?_)
    · refine r_iload X0 cx P8m16_38 rfl ?_
      refine r_iconst (1) X0 cx P8m16_40 rfl ?_
      refine r_iadd X0 cx P8m16_41 ?_
      refine r_top (v' := 2) (by decide) ?_
      refine r_istoreN (fun zz => #[.val (.ref r), .val (.long d), .second, .val (.int zz), .val (.int (2 : Int32)), .val (.int (1 : Int32))]) X0 cx P8m16_42 (fun _ => rfl) (fun i4 e_i4 => ?_)
      subst e_i4
      refine r_goto X0 cx P8m16_43 ?_
      refine r_iloadN X0 cx P8m16_8 rfl ?_
      refine r_iload X0 cx P8m16_9 rfl ?_
      refine r_icmpge X0 cx P8m16_11 (fun _ => ?_) (fun c => absurd c (by decide))
      refine r_iloadN X0 cx P8m16_46 rfl ?_
      refine r_ireturn X0 cx P8m16_47 (by decide) (by decide) ?_
      exact ⟨rfl, by simp only [own_bk, c28, ↓reduceIte]⟩
    · refine r_iload X0 cx P8m16_31 rfl ?_
      refine r_istore (fun zz => #[.val (.ref r), .val (.long d), .second, .val (.int (0 : Int32)), .val (.int zz), .val (.int (1 : Int32))]) X0 cx P8m16_33 (fun _ => rfl) (fun i4 e_i4 => ?_)
      subst e_i4
      refine r_goto X0 cx P8m16_35 ?_
      refine r_goto X0 cx P8m16_43 ?_
      refine r_iloadN X0 cx P8m16_8 rfl ?_
      refine r_iload X0 cx P8m16_9 rfl ?_
      refine r_icmpge X0 cx P8m16_11 (fun c => absurd c (by decide)) (fun _ => ?_)
      refine r_iloadN X0 cx P8m16_14 rfl ?_
      refine r_iload X0 cx P8m16_15 rfl ?_
      refine r_iadd X0 cx P8m16_17 ?_
      refine r_top (v' := 1) (by decide) ?_
      refine r_iconst (1) X0 cx P8m16_18 rfl ?_
      refine r_iushr X0 cx P8m16_19 ?_
      refine r_top (v' := 0) (by decide) ?_
      refine r_istore (fun zz => #[.val (.ref r), .val (.long d), .second, .val (.int (0 : Int32)), .val (.int (1 : Int32)), .val (.int zz)]) X0 cx P8m16_20 (fun _ => rfl) (fun i5 e_i5 => ?_)
      subst e_i5
      refine r_aloadN X0 cx P8m16_22 rfl ?_
      refine r_iload X0 cx P8m16_23 rfl ?_
      refine r_laload X0 cx P8m16_25 A_r (0) rfl (v := x0) rfl ?_
      refine r_lloadN X0 cx P8m16_26 rfl ?_
      refine r_lcmp X0 cx P8m16_27 ?_
      refine r_lcmple X0 cx P8m16_28 (fun c28_2 => ?_) (fun c28_2 => ?_)
      · refine r_iload X0 cx P8m16_38 rfl ?_
        refine r_iconst (1) X0 cx P8m16_40 rfl ?_
        refine r_iadd X0 cx P8m16_41 ?_
        refine r_top (v' := 1) (by decide) ?_
        refine r_istoreN (fun zz => #[.val (.ref r), .val (.long d), .second, .val (.int zz), .val (.int (1 : Int32)), .val (.int (0 : Int32))]) X0 cx P8m16_42 (fun _ => rfl) (fun i6 e_i6 => ?_)
        subst e_i6
        refine r_goto X0 cx P8m16_43 ?_
        refine r_iloadN X0 cx P8m16_8 rfl ?_
        refine r_iload X0 cx P8m16_9 rfl ?_
        refine r_icmpge X0 cx P8m16_11 (fun _ => ?_) (fun c => absurd c (by decide))
        refine r_iloadN X0 cx P8m16_46 rfl ?_
        refine r_ireturn X0 cx P8m16_47 (by decide) (by decide) ?_
        exact ⟨rfl, by simp only [own_bk, c28, c28_2, ↓reduceIte]⟩
      · refine r_iload X0 cx P8m16_31 rfl ?_
        refine r_istore (fun zz => #[.val (.ref r), .val (.long d), .second, .val (.int (0 : Int32)), .val (.int zz), .val (.int (0 : Int32))]) X0 cx P8m16_33 (fun _ => rfl) (fun i6 e_i6 => ?_)
        subst e_i6
        refine r_goto X0 cx P8m16_35 ?_
        refine r_goto X0 cx P8m16_43 ?_
        refine r_iloadN X0 cx P8m16_8 rfl ?_
        refine r_iload X0 cx P8m16_9 rfl ?_
        refine r_icmpge X0 cx P8m16_11 (fun _ => ?_) (fun c => absurd c (by decide))
        refine r_iloadN X0 cx P8m16_46 rfl ?_
        refine r_ireturn X0 cx P8m16_47 (by decide) (by decide) ?_
        exact ⟨rfl, by simp only [own_bk, c28, c28_2, ↓reduceIte]⟩
  | [x0, x1, x2, x3], _, A_r =>
    refine r_iconst (0) X0 cx P8m16_0 rfl ?_
    refine r_istoreN (fun zz => #[.val (.ref r), .val (.long d), .second, .val (.int zz), .unset, .unset]) X0 cx P8m16_1 (fun _ => rfl) (fun i1 e_i1 => ?_)
    subst e_i1
    refine r_aloadN X0 cx P8m16_2 rfl ?_
    refine r_alenJ X0 cx P8m16_3 A_r (4) rfl ?_
    refine r_iconst (1) X0 cx P8m16_4 rfl ?_
    refine r_isub X0 cx P8m16_5 ?_
    refine r_top (v' := 3) (by decide) ?_
    refine r_istore (fun zz => #[.val (.ref r), .val (.long d), .second, .val (.int (0 : Int32)), .val (.int zz), .unset]) X0 cx P8m16_6 (fun _ => rfl) (fun i2 e_i2 => ?_)
    subst e_i2
    refine r_iloadN X0 cx P8m16_8 rfl ?_
    refine r_iload X0 cx P8m16_9 rfl ?_
    refine r_icmpge X0 cx P8m16_11 (fun c => absurd c (by decide)) (fun _ => ?_)
    refine r_iloadN X0 cx P8m16_14 rfl ?_
    refine r_iload X0 cx P8m16_15 rfl ?_
    refine r_iadd X0 cx P8m16_17 ?_
    refine r_top (v' := 3) (by decide) ?_
    refine r_iconst (1) X0 cx P8m16_18 rfl ?_
    refine r_iushr X0 cx P8m16_19 ?_
    refine r_top (v' := 1) (by decide) ?_
    refine r_istore (fun zz => #[.val (.ref r), .val (.long d), .second, .val (.int (0 : Int32)), .val (.int (3 : Int32)), .val (.int zz)]) X0 cx P8m16_20 (fun _ => rfl) (fun i3 e_i3 => ?_)
    subst e_i3
    refine r_aloadN X0 cx P8m16_22 rfl ?_
    refine r_iload X0 cx P8m16_23 rfl ?_
    refine r_laload X0 cx P8m16_25 A_r (1) rfl (v := x1) rfl ?_
    refine r_lloadN X0 cx P8m16_26 rfl ?_
    refine r_lcmp X0 cx P8m16_27 ?_
    refine r_lcmple X0 cx P8m16_28 (fun c28 => ?_) (fun c28 => ?_)
    · refine r_iload X0 cx P8m16_38 rfl ?_
      refine r_iconst (1) X0 cx P8m16_40 rfl ?_
      refine r_iadd X0 cx P8m16_41 ?_
      refine r_top (v' := 2) (by decide) ?_
      refine r_istoreN (fun zz => #[.val (.ref r), .val (.long d), .second, .val (.int zz), .val (.int (3 : Int32)), .val (.int (1 : Int32))]) X0 cx P8m16_42 (fun _ => rfl) (fun i4 e_i4 => ?_)
      subst e_i4
      refine r_goto X0 cx P8m16_43 ?_
      refine r_iloadN X0 cx P8m16_8 rfl ?_
      refine r_iload X0 cx P8m16_9 rfl ?_
      refine r_icmpge X0 cx P8m16_11 (fun c => absurd c (by decide)) (fun _ => ?_)
      refine r_iloadN X0 cx P8m16_14 rfl ?_
      refine r_iload X0 cx P8m16_15 rfl ?_
      refine r_iadd X0 cx P8m16_17 ?_
      refine r_top (v' := 5) (by decide) ?_
      refine r_iconst (1) X0 cx P8m16_18 rfl ?_
      refine r_iushr X0 cx P8m16_19 ?_
      refine r_top (v' := 2) (by decide) ?_
      refine r_istore (fun zz => #[.val (.ref r), .val (.long d), .second, .val (.int (2 : Int32)), .val (.int (3 : Int32)), .val (.int zz)]) X0 cx P8m16_20 (fun _ => rfl) (fun i5 e_i5 => ?_)
      subst e_i5
      refine r_aloadN X0 cx P8m16_22 rfl ?_
      refine r_iload X0 cx P8m16_23 rfl ?_
      refine r_laload X0 cx P8m16_25 A_r (2) rfl (v := x2) rfl ?_
      refine r_lloadN X0 cx P8m16_26 rfl ?_
      refine r_lcmp X0 cx P8m16_27 ?_
      refine r_lcmple X0 cx P8m16_28 (fun c28_2 => ?_) (fun c28_2 => ?_)
      · refine r_iload X0 cx P8m16_38 rfl ?_
        refine r_iconst (1) X0 cx P8m16_40 rfl ?_
        refine r_iadd X0 cx P8m16_41 ?_
        refine r_top (v' := 3) (by decide) ?_
        refine r_istoreN (fun zz => #[.val (.ref r), .val (.long d), .second, .val (.int zz), .val (.int (3 : Int32)), .val (.int (2 : Int32))]) X0 cx P8m16_42 (fun _ => rfl) (fun i6 e_i6 => ?_)
        subst e_i6
        refine r_goto X0 cx P8m16_43 ?_
        refine r_iloadN X0 cx P8m16_8 rfl ?_
        refine r_iload X0 cx P8m16_9 rfl ?_
        refine r_icmpge X0 cx P8m16_11 (fun _ => ?_) (fun c => absurd c (by decide))
        refine r_iloadN X0 cx P8m16_46 rfl ?_
        refine r_ireturn X0 cx P8m16_47 (by decide) (by decide) ?_
        exact ⟨rfl, by simp only [own_bk, c28, c28_2, ↓reduceIte]⟩
      · refine r_iload X0 cx P8m16_31 rfl ?_
        refine r_istore (fun zz => #[.val (.ref r), .val (.long d), .second, .val (.int (2 : Int32)), .val (.int zz), .val (.int (2 : Int32))]) X0 cx P8m16_33 (fun _ => rfl) (fun i6 e_i6 => ?_)
        subst e_i6
        refine r_goto X0 cx P8m16_35 ?_
        refine r_goto X0 cx P8m16_43 ?_
        refine r_iloadN X0 cx P8m16_8 rfl ?_
        refine r_iload X0 cx P8m16_9 rfl ?_
        refine r_icmpge X0 cx P8m16_11 (fun _ => ?_) (fun c => absurd c (by decide))
        refine r_iloadN X0 cx P8m16_46 rfl ?_
        refine r_ireturn X0 cx P8m16_47 (by decide) (by decide) ?_
        exact ⟨rfl, by simp only [own_bk, c28, c28_2, ↓reduceIte]⟩
    · refine r_iload X0 cx P8m16_31 rfl ?_
      refine r_istore (fun zz => #[.val (.ref r), .val (.long d), .second, .val (.int (0 : Int32)), .val (.int zz), .val (.int (1 : Int32))]) X0 cx P8m16_33 (fun _ => rfl) (fun i4 e_i4 => ?_)
      subst e_i4
      refine r_goto X0 cx P8m16_35 ?_
      refine r_goto X0 cx P8m16_43 ?_
      refine r_iloadN X0 cx P8m16_8 rfl ?_
      refine r_iload X0 cx P8m16_9 rfl ?_
      refine r_icmpge X0 cx P8m16_11 (fun c => absurd c (by decide)) (fun _ => ?_)
      refine r_iloadN X0 cx P8m16_14 rfl ?_
      refine r_iload X0 cx P8m16_15 rfl ?_
      refine r_iadd X0 cx P8m16_17 ?_
      refine r_top (v' := 1) (by decide) ?_
      refine r_iconst (1) X0 cx P8m16_18 rfl ?_
      refine r_iushr X0 cx P8m16_19 ?_
      refine r_top (v' := 0) (by decide) ?_
      refine r_istore (fun zz => #[.val (.ref r), .val (.long d), .second, .val (.int (0 : Int32)), .val (.int (1 : Int32)), .val (.int zz)]) X0 cx P8m16_20 (fun _ => rfl) (fun i5 e_i5 => ?_)
      subst e_i5
      refine r_aloadN X0 cx P8m16_22 rfl ?_
      refine r_iload X0 cx P8m16_23 rfl ?_
      refine r_laload X0 cx P8m16_25 A_r (0) rfl (v := x0) rfl ?_
      refine r_lloadN X0 cx P8m16_26 rfl ?_
      refine r_lcmp X0 cx P8m16_27 ?_
      refine r_lcmple X0 cx P8m16_28 (fun c28_2 => ?_) (fun c28_2 => ?_)
      · refine r_iload X0 cx P8m16_38 rfl ?_
        refine r_iconst (1) X0 cx P8m16_40 rfl ?_
        refine r_iadd X0 cx P8m16_41 ?_
        refine r_top (v' := 1) (by decide) ?_
        refine r_istoreN (fun zz => #[.val (.ref r), .val (.long d), .second, .val (.int zz), .val (.int (1 : Int32)), .val (.int (0 : Int32))]) X0 cx P8m16_42 (fun _ => rfl) (fun i6 e_i6 => ?_)
        subst e_i6
        refine r_goto X0 cx P8m16_43 ?_
        refine r_iloadN X0 cx P8m16_8 rfl ?_
        refine r_iload X0 cx P8m16_9 rfl ?_
        refine r_icmpge X0 cx P8m16_11 (fun _ => ?_) (fun c => absurd c (by decide))
        refine r_iloadN X0 cx P8m16_46 rfl ?_
        refine r_ireturn X0 cx P8m16_47 (by decide) (by decide) ?_
        exact ⟨rfl, by simp only [own_bk, c28, c28_2, ↓reduceIte]⟩
      · refine r_iload X0 cx P8m16_31 rfl ?_
        refine r_istore (fun zz => #[.val (.ref r), .val (.long d), .second, .val (.int (0 : Int32)), .val (.int zz), .val (.int (0 : Int32))]) X0 cx P8m16_33 (fun _ => rfl) (fun i6 e_i6 => ?_)
        subst e_i6
        refine r_goto X0 cx P8m16_35 ?_
        refine r_goto X0 cx P8m16_43 ?_
        refine r_iloadN X0 cx P8m16_8 rfl ?_
        refine r_iload X0 cx P8m16_9 rfl ?_
        refine r_icmpge X0 cx P8m16_11 (fun _ => ?_) (fun c => absurd c (by decide))
        refine r_iloadN X0 cx P8m16_46 rfl ?_
        refine r_ireturn X0 cx P8m16_47 (by decide) (by decide) ?_
        exact ⟨rfl, by simp only [own_bk, c28, c28_2, ↓reduceIte]⟩
theorem L_0 : Dc code 0 (.iconst 1) 1 1 := ⟨at_0, rfl⟩
theorem L_1 : Dc code 1 (.iload 10) 2 3 := ⟨at_1, rfl⟩
theorem L_3 : Dc code 3 (.iconst 3) 1 4 := ⟨at_3, rfl⟩
theorem L_4 : Dc code 4 (.iand) 1 5 := ⟨at_4, rfl⟩
theorem L_5 : Dc code 5 (.iadd) 1 6 := ⟨at_5, rfl⟩
theorem L_6 : Dc code 6 (.istore 11) 2 8 := ⟨at_6, rfl⟩
theorem L_8 : Dc code 8 (.iload 10) 2 10 := ⟨at_8, rfl⟩
theorem L_10 : Dc code 10 (.iconst 2) 1 11 := ⟨at_10, rfl⟩
theorem L_11 : Dc code 11 (.iushr) 1 12 := ⟨at_11, rfl⟩
theorem L_12 : Dc code 12 (.iconst 1) 1 13 := ⟨at_12, rfl⟩
theorem L_13 : Dc code 13 (.iand) 1 14 := ⟨at_13, rfl⟩
theorem L_14 : Db code 14 (.ifCond .eq 7) (7) 17 21 := ⟨at_14, rfl, by decide, by decide⟩
theorem L_17 : Dc code 17 (.lconst 0) 1 18 := ⟨at_17, rfl⟩
theorem L_18 : Db code 18 (.goto 8) (8) 21 26 := ⟨at_18, rfl, by decide, by decide⟩
theorem L_21 : Dc code 21 (.lload_n 0) 1 22 := ⟨at_21, rfl⟩
theorem L_22 : Dc code 22 (.ldc2_w 7) 3 25 := ⟨at_22, rfl⟩
theorem L_25 : Dc code 25 (.land) 1 26 := ⟨at_25, rfl⟩
theorem L_26 : Dc code 26 (.lstore 12) 2 28 := ⟨at_26, rfl⟩
theorem L_28 : Dc code 28 (.iload 10) 2 30 := ⟨at_28, rfl⟩
theorem L_30 : Dc code 30 (.iconst 3) 1 31 := ⟨at_30, rfl⟩
theorem L_31 : Dc code 31 (.iushr) 1 32 := ⟨at_31, rfl⟩
theorem L_32 : Dc code 32 (.iconst 1) 1 33 := ⟨at_32, rfl⟩
theorem L_33 : Dc code 33 (.iand) 1 34 := ⟨at_33, rfl⟩
theorem L_34 : Db code 34 (.ifCond .eq 7) (7) 37 41 := ⟨at_34, rfl, by decide, by decide⟩
theorem L_37 : Dc code 37 (.lconst 0) 1 38 := ⟨at_37, rfl⟩
theorem L_38 : Db code 38 (.goto 8) (8) 41 46 := ⟨at_38, rfl, by decide, by decide⟩
theorem L_41 : Dc code 41 (.lload_n 2) 1 42 := ⟨at_41, rfl⟩
theorem L_42 : Dc code 42 (.ldc2_w 7) 3 45 := ⟨at_42, rfl⟩
theorem L_45 : Dc code 45 (.land) 1 46 := ⟨at_45, rfl⟩
theorem L_46 : Dc code 46 (.lstore 14) 2 48 := ⟨at_46, rfl⟩
theorem L_48 : Dc code 48 (.iload 10) 2 50 := ⟨at_48, rfl⟩
theorem L_50 : Dc code 50 (.iconst 4) 1 51 := ⟨at_50, rfl⟩
theorem L_51 : Dc code 51 (.iushr) 1 52 := ⟨at_51, rfl⟩
theorem L_52 : Dc code 52 (.iconst 1) 1 53 := ⟨at_52, rfl⟩
theorem L_53 : Dc code 53 (.iand) 1 54 := ⟨at_53, rfl⟩
theorem L_54 : Db code 54 (.ifCond .eq 7) (7) 57 61 := ⟨at_54, rfl, by decide, by decide⟩
theorem L_57 : Dc code 57 (.lconst 0) 1 58 := ⟨at_57, rfl⟩
theorem L_58 : Db code 58 (.goto 9) (9) 61 67 := ⟨at_58, rfl, by decide, by decide⟩
theorem L_61 : Dc code 61 (.lload 4) 2 63 := ⟨at_61, rfl⟩
theorem L_63 : Dc code 63 (.ldc2_w 7) 3 66 := ⟨at_63, rfl⟩
theorem L_66 : Dc code 66 (.land) 1 67 := ⟨at_66, rfl⟩
theorem L_67 : Dc code 67 (.lstore 16) 2 69 := ⟨at_67, rfl⟩
theorem L_69 : Dc code 69 (.iload 10) 2 71 := ⟨at_69, rfl⟩
theorem L_71 : Dc code 71 (.iconst 5) 1 72 := ⟨at_71, rfl⟩
theorem L_72 : Dc code 72 (.iushr) 1 73 := ⟨at_72, rfl⟩
theorem L_73 : Dc code 73 (.iconst 1) 1 74 := ⟨at_73, rfl⟩
theorem L_74 : Dc code 74 (.iand) 1 75 := ⟨at_74, rfl⟩
theorem L_75 : Db code 75 (.ifCond .eq 7) (7) 78 82 := ⟨at_75, rfl, by decide, by decide⟩
theorem L_78 : Dc code 78 (.lconst 0) 1 79 := ⟨at_78, rfl⟩
theorem L_79 : Db code 79 (.goto 9) (9) 82 88 := ⟨at_79, rfl, by decide, by decide⟩
theorem L_82 : Dc code 82 (.lload 6) 2 84 := ⟨at_82, rfl⟩
theorem L_84 : Dc code 84 (.ldc2_w 7) 3 87 := ⟨at_84, rfl⟩
theorem L_87 : Dc code 87 (.land) 1 88 := ⟨at_87, rfl⟩
theorem L_88 : Dc code 88 (.lstore 18) 2 90 := ⟨at_88, rfl⟩
theorem L_90 : Dc code 90 (.lload 12) 2 92 := ⟨at_90, rfl⟩
theorem L_92 : Dc code 92 (.lstore 20) 2 94 := ⟨at_92, rfl⟩
theorem L_94 : Dc code 94 (.lload 20) 2 96 := ⟨at_94, rfl⟩
theorem L_96 : Dc code 96 (.lload 14) 2 98 := ⟨at_96, rfl⟩
theorem L_98 : Dc code 98 (.ladd) 1 99 := ⟨at_98, rfl⟩
theorem L_99 : Dc code 99 (.lstore 22) 2 101 := ⟨at_99, rfl⟩
theorem L_101 : Dc code 101 (.lload 22) 2 103 := ⟨at_101, rfl⟩
theorem L_103 : Dc code 103 (.lload 16) 2 105 := ⟨at_103, rfl⟩
theorem L_105 : Dc code 105 (.ladd) 1 106 := ⟨at_105, rfl⟩
theorem L_106 : Dc code 106 (.lstore 24) 2 108 := ⟨at_106, rfl⟩
theorem L_108 : Dc code 108 (.lload 24) 2 110 := ⟨at_108, rfl⟩
theorem L_110 : Dc code 110 (.lload 18) 2 112 := ⟨at_110, rfl⟩
theorem L_112 : Dc code 112 (.ladd) 1 113 := ⟨at_112, rfl⟩
theorem L_113 : Dc code 113 (.lstore 26) 2 115 := ⟨at_113, rfl⟩
theorem L_115 : Dc code 115 (.iload 11) 2 117 := ⟨at_115, rfl⟩
theorem L_117 : Dc code 117 (.iconst 1) 1 118 := ⟨at_117, rfl⟩
theorem L_118 : Db code 118 (.if_icmp .ne 8) (8) 121 126 := ⟨at_118, rfl, by decide, by decide⟩
theorem L_121 : Dc code 121 (.lload 20) 2 123 := ⟨at_121, rfl⟩
theorem L_123 : Db code 123 (.goto 27) (27) 126 150 := ⟨at_123, rfl, by decide, by decide⟩
theorem L_126 : Dc code 126 (.iload 11) 2 128 := ⟨at_126, rfl⟩
theorem L_128 : Dc code 128 (.iconst 2) 1 129 := ⟨at_128, rfl⟩
theorem L_129 : Db code 129 (.if_icmp .ne 8) (8) 132 137 := ⟨at_129, rfl, by decide, by decide⟩
theorem L_132 : Dc code 132 (.lload 22) 2 134 := ⟨at_132, rfl⟩
theorem L_134 : Db code 134 (.goto 16) (16) 137 150 := ⟨at_134, rfl, by decide, by decide⟩
theorem L_137 : Dc code 137 (.iload 11) 2 139 := ⟨at_137, rfl⟩
theorem L_139 : Dc code 139 (.iconst 3) 1 140 := ⟨at_139, rfl⟩
theorem L_140 : Db code 140 (.if_icmp .ne 8) (8) 143 148 := ⟨at_140, rfl, by decide, by decide⟩
theorem L_143 : Dc code 143 (.lload 24) 2 145 := ⟨at_143, rfl⟩
theorem L_145 : Db code 145 (.goto 5) (5) 148 150 := ⟨at_145, rfl, by decide, by decide⟩
theorem L_148 : Dc code 148 (.lload 26) 2 150 := ⟨at_148, rfl⟩
theorem L_150 : Dc code 150 (.lstore 28) 2 152 := ⟨at_150, rfl⟩
theorem L_152 : Dc code 152 (.lload 28) 2 154 := ⟨at_152, rfl⟩
theorem L_154 : Dc code 154 (.lconst 0) 1 155 := ⟨at_154, rfl⟩
theorem L_155 : Dc code 155 (.lcmp) 1 156 := ⟨at_155, rfl⟩
theorem L_156 : Db code 156 (.ifCond .gt 5) (5) 159 161 := ⟨at_156, rfl, by decide, by decide⟩
theorem L_159 : Dc code 159 (.iconst 1) 1 160 := ⟨at_159, rfl⟩
theorem L_160 : Dc code 160 (.ireturn) 1 161 := ⟨at_160, rfl⟩
theorem L_161 : Dc code 161 (.lload 8) 2 163 := ⟨at_161, rfl⟩
theorem L_163 : Dc code 163 (.lload 28) 2 165 := ⟨at_163, rfl⟩
theorem L_165 : Dc code 165 (.lcmp) 1 166 := ⟨at_165, rfl⟩
theorem L_166 : Db code 166 (.ifCond .ge 8) (8) 169 174 := ⟨at_166, rfl, by decide, by decide⟩
theorem L_169 : Dc code 169 (.lload 8) 2 171 := ⟨at_169, rfl⟩
theorem L_171 : Db code 171 (.goto 12) (12) 174 183 := ⟨at_171, rfl, by decide, by decide⟩
theorem L_174 : Dc code 174 (.lload 8) 2 176 := ⟨at_174, rfl⟩
theorem L_176 : Dc code 176 (.ldc2_w 11) 3 179 := ⟨at_176, rfl⟩
theorem L_179 : Dc code 179 (.land) 1 180 := ⟨at_179, rfl⟩
theorem L_180 : Dc code 180 (.lload 28) 2 182 := ⟨at_180, rfl⟩
theorem L_182 : Dc code 182 (.lrem) 1 183 := ⟨at_182, rfl⟩
theorem L_183 : Dc code 183 (.lstore 30) 2 185 := ⟨at_183, rfl⟩
theorem L_185 : Dc code 185 (.iload 11) 2 187 := ⟨at_185, rfl⟩
theorem L_187 : Dc code 187 (.iconst 1) 1 188 := ⟨at_187, rfl⟩
theorem L_188 : Db code 188 (.if_icmp .ne 16) (16) 191 204 := ⟨at_188, rfl, by decide, by decide⟩
theorem L_191 : Dc code 191 (.iconst 1) 1 192 := ⟨at_191, rfl⟩
theorem L_192 : Dc code 192 (.newarray .long) 2 194 := ⟨at_192, rfl⟩
theorem L_194 : Dc code 194 (.dup) 1 195 := ⟨at_194, rfl⟩
theorem L_195 : Dc code 195 (.iconst 0) 1 196 := ⟨at_195, rfl⟩
theorem L_196 : Dc code 196 (.lload 20) 2 198 := ⟨at_196, rfl⟩
theorem L_198 : Dc code 198 (.lastore) 1 199 := ⟨at_198, rfl⟩
theorem L_199 : Dc code 199 (.astore 32) 2 201 := ⟨at_199, rfl⟩
theorem L_201 : Db code 201 (.goto 81) (81) 204 282 := ⟨at_201, rfl, by decide, by decide⟩
theorem L_204 : Dc code 204 (.iload 11) 2 206 := ⟨at_204, rfl⟩
theorem L_206 : Dc code 206 (.iconst 2) 1 207 := ⟨at_206, rfl⟩
theorem L_207 : Db code 207 (.if_icmp .ne 21) (21) 210 228 := ⟨at_207, rfl, by decide, by decide⟩
theorem L_210 : Dc code 210 (.iconst 2) 1 211 := ⟨at_210, rfl⟩
theorem L_211 : Dc code 211 (.newarray .long) 2 213 := ⟨at_211, rfl⟩
theorem L_213 : Dc code 213 (.dup) 1 214 := ⟨at_213, rfl⟩
theorem L_214 : Dc code 214 (.iconst 0) 1 215 := ⟨at_214, rfl⟩
theorem L_215 : Dc code 215 (.lload 20) 2 217 := ⟨at_215, rfl⟩
theorem L_217 : Dc code 217 (.lastore) 1 218 := ⟨at_217, rfl⟩
theorem L_218 : Dc code 218 (.dup) 1 219 := ⟨at_218, rfl⟩
theorem L_219 : Dc code 219 (.iconst 1) 1 220 := ⟨at_219, rfl⟩
theorem L_220 : Dc code 220 (.lload 22) 2 222 := ⟨at_220, rfl⟩
theorem L_222 : Dc code 222 (.lastore) 1 223 := ⟨at_222, rfl⟩
theorem L_223 : Dc code 223 (.astore 32) 2 225 := ⟨at_223, rfl⟩
theorem L_225 : Db code 225 (.goto 57) (57) 228 282 := ⟨at_225, rfl, by decide, by decide⟩
theorem L_228 : Dc code 228 (.iload 11) 2 230 := ⟨at_228, rfl⟩
theorem L_230 : Dc code 230 (.iconst 3) 1 231 := ⟨at_230, rfl⟩
theorem L_231 : Db code 231 (.if_icmp .ne 26) (26) 234 257 := ⟨at_231, rfl, by decide, by decide⟩
theorem L_234 : Dc code 234 (.iconst 3) 1 235 := ⟨at_234, rfl⟩
theorem L_235 : Dc code 235 (.newarray .long) 2 237 := ⟨at_235, rfl⟩
theorem L_237 : Dc code 237 (.dup) 1 238 := ⟨at_237, rfl⟩
theorem L_238 : Dc code 238 (.iconst 0) 1 239 := ⟨at_238, rfl⟩
theorem L_239 : Dc code 239 (.lload 20) 2 241 := ⟨at_239, rfl⟩
theorem L_241 : Dc code 241 (.lastore) 1 242 := ⟨at_241, rfl⟩
theorem L_242 : Dc code 242 (.dup) 1 243 := ⟨at_242, rfl⟩
theorem L_243 : Dc code 243 (.iconst 1) 1 244 := ⟨at_243, rfl⟩
theorem L_244 : Dc code 244 (.lload 22) 2 246 := ⟨at_244, rfl⟩
theorem L_246 : Dc code 246 (.lastore) 1 247 := ⟨at_246, rfl⟩
theorem L_247 : Dc code 247 (.dup) 1 248 := ⟨at_247, rfl⟩
theorem L_248 : Dc code 248 (.iconst 2) 1 249 := ⟨at_248, rfl⟩
theorem L_249 : Dc code 249 (.lload 24) 2 251 := ⟨at_249, rfl⟩
theorem L_251 : Dc code 251 (.lastore) 1 252 := ⟨at_251, rfl⟩
theorem L_252 : Dc code 252 (.astore 32) 2 254 := ⟨at_252, rfl⟩
theorem L_254 : Db code 254 (.goto 28) (28) 257 282 := ⟨at_254, rfl, by decide, by decide⟩
theorem L_257 : Dc code 257 (.iconst 4) 1 258 := ⟨at_257, rfl⟩
theorem L_258 : Dc code 258 (.newarray .long) 2 260 := ⟨at_258, rfl⟩
theorem L_260 : Dc code 260 (.dup) 1 261 := ⟨at_260, rfl⟩
theorem L_261 : Dc code 261 (.iconst 0) 1 262 := ⟨at_261, rfl⟩
theorem L_262 : Dc code 262 (.lload 20) 2 264 := ⟨at_262, rfl⟩
theorem L_264 : Dc code 264 (.lastore) 1 265 := ⟨at_264, rfl⟩
theorem L_265 : Dc code 265 (.dup) 1 266 := ⟨at_265, rfl⟩
theorem L_266 : Dc code 266 (.iconst 1) 1 267 := ⟨at_266, rfl⟩
theorem L_267 : Dc code 267 (.lload 22) 2 269 := ⟨at_267, rfl⟩
theorem L_269 : Dc code 269 (.lastore) 1 270 := ⟨at_269, rfl⟩
theorem L_270 : Dc code 270 (.dup) 1 271 := ⟨at_270, rfl⟩
theorem L_271 : Dc code 271 (.iconst 2) 1 272 := ⟨at_271, rfl⟩
theorem L_272 : Dc code 272 (.lload 24) 2 274 := ⟨at_272, rfl⟩
theorem L_274 : Dc code 274 (.lastore) 1 275 := ⟨at_274, rfl⟩
theorem L_275 : Dc code 275 (.dup) 1 276 := ⟨at_275, rfl⟩
theorem L_276 : Dc code 276 (.iconst 3) 1 277 := ⟨at_276, rfl⟩
theorem L_277 : Dc code 277 (.lload 26) 2 279 := ⟨at_277, rfl⟩
theorem L_279 : Dc code 279 (.lastore) 1 280 := ⟨at_279, rfl⟩
theorem L_280 : Dc code 280 (.astore 32) 2 282 := ⟨at_280, rfl⟩
theorem L_282 : Dc code 282 (.lload 20) 2 284 := ⟨at_282, rfl⟩
theorem L_284 : Dc code 284 (.lload 30) 2 286 := ⟨at_284, rfl⟩
theorem L_286 : Dc code 286 (.lcmp) 1 287 := ⟨at_286, rfl⟩
theorem L_287 : Db code 287 (.ifCond .le 9) (9) 290 296 := ⟨at_287, rfl, by decide, by decide⟩
theorem L_290 : Dc code 290 (.iconst 0) 1 291 := ⟨at_290, rfl⟩
theorem L_291 : Dc code 291 (.istore 33) 2 293 := ⟨at_291, rfl⟩
theorem L_293 : Db code 293 (.goto 34) (34) 296 327 := ⟨at_293, rfl, by decide, by decide⟩
theorem L_296 : Dc code 296 (.lload 22) 2 298 := ⟨at_296, rfl⟩
theorem L_298 : Dc code 298 (.lload 30) 2 300 := ⟨at_298, rfl⟩
theorem L_300 : Dc code 300 (.lcmp) 1 301 := ⟨at_300, rfl⟩
theorem L_301 : Db code 301 (.ifCond .le 9) (9) 304 310 := ⟨at_301, rfl, by decide, by decide⟩
theorem L_304 : Dc code 304 (.iconst 1) 1 305 := ⟨at_304, rfl⟩
theorem L_305 : Dc code 305 (.istore 33) 2 307 := ⟨at_305, rfl⟩
theorem L_307 : Db code 307 (.goto 20) (20) 310 327 := ⟨at_307, rfl, by decide, by decide⟩
theorem L_310 : Dc code 310 (.lload 24) 2 312 := ⟨at_310, rfl⟩
theorem L_312 : Dc code 312 (.lload 30) 2 314 := ⟨at_312, rfl⟩
theorem L_314 : Dc code 314 (.lcmp) 1 315 := ⟨at_314, rfl⟩
theorem L_315 : Db code 315 (.ifCond .le 9) (9) 318 324 := ⟨at_315, rfl, by decide, by decide⟩
theorem L_318 : Dc code 318 (.iconst 2) 1 319 := ⟨at_318, rfl⟩
theorem L_319 : Dc code 319 (.istore 33) 2 321 := ⟨at_319, rfl⟩
theorem L_321 : Db code 321 (.goto 6) (6) 324 327 := ⟨at_321, rfl, by decide, by decide⟩
theorem L_324 : Dc code 324 (.iconst 3) 1 325 := ⟨at_324, rfl⟩
theorem L_325 : Dc code 325 (.istore 33) 2 327 := ⟨at_325, rfl⟩
theorem L_327 : Dc code 327 (.aload 32) 2 329 := ⟨at_327, rfl⟩
theorem L_329 : Dc code 329 (.lload 30) 2 331 := ⟨at_329, rfl⟩
theorem L_331 : Dc code 331 (.invokestatic 13) 3 334 := ⟨at_331, rfl⟩
theorem L_334 : Dc code 334 (.iload 33) 2 336 := ⟨at_334, rfl⟩
theorem L_336 : Db code 336 (.if_icmp .ne 7) (7) 339 343 := ⟨at_336, rfl, by decide, by decide⟩
theorem L_339 : Dc code 339 (.iconst 1) 1 340 := ⟨at_339, rfl⟩
theorem L_340 : Db code 340 (.goto 4) (4) 343 344 := ⟨at_340, rfl, by decide, by decide⟩
theorem L_343 : Dc code 343 (.iconst 0) 1 344 := ⟨at_343, rfl⟩
theorem L_344 : Dc code 344 (.ireturn) 1 345 := ⟨at_344, rfl⟩
theorem ef_L (m : MethodId) (i0 : Int64) (i1 : Int64) (i2 : Int64) (i3 : Int64) (i4 : Int64) (i5 : Int32) : entryFrame m #[(.long i0), (.long i1), (.long i2), (.long i3), (.long i4), (.int i5)] maxLocals = mkF m 0 #[.val (.long i0), .second, .val (.long i1), .second, .val (.long i2), .second, .val (.long i3), .second, .val (.long i4), .second, .val (.int i5), .unset, .unset, .unset, .unset, .unset, .unset, .unset, .unset, .unset, .unset, .unset, .unset, .unset, .unset, .unset, .unset, .unset, .unset, .unset, .unset, .unset, .unset, .unset] [] := by first | (simp [entryFrame, mkF, argsToLocals, Value.category, maxLocals]; done) | rfl
set_option maxRecDepth 65536 in
set_option maxHeartbeats 40000000 in
theorem con_L (l : Launch) (Z : State) (a0 : Array Value) (hw : Tb tables_1 a0 Z) (i0 : Int64) (i1 : Int64) (i2 : Int64) (i3 : Int64) (i4 : Int64) (i5 : Int32) (h0 : Heap) (n0 : Nat) (Z0 : n0 ≤ h0.size)  :
    Con l Z x code maxLocals ret room_1 #[(.long i0), (.long i1), (.long i2), (.long i3), (.long i4), (.int i5)] h0 n0 (fun v _ => v = some (.int 1)) := by
  refine Con.of (plainFor_of_name (by decide +kernel)) Z0 ?_
  intro K hl hZ hn cx T0 X0
  subst hl hZ hn
  refine Run.cast (ef_L K.m i0 i1 i2 i3 i4 i5) ?_
  refine r_iconst (1) X0 cx L_0 rfl ?_
  refine r_iload X0 cx L_1 rfl ?_
  refine r_iconst (3) X0 cx L_3 rfl ?_
  refine r_iand X0 cx L_4 ?_
  refine r_iadd X0 cx L_5 ?_
  refine r_istore (fun zz => #[.val (.long i0), .second, .val (.long i1), .second, .val (.long i2), .second, .val (.long i3), .second, .val (.long i4), .second, .val (.int i5), .val (.int zz), .unset, .unset, .unset, .unset, .unset, .unset, .unset, .unset, .unset, .unset, .unset, .unset, .unset, .unset, .unset, .unset, .unset, .unset, .unset, .unset, .unset, .unset]) X0 cx L_6 (fun _ => rfl) (fun nn e_nn => ?_)
  have kj26 : (∀ v : Int64, (own_r v) → Run K (fun v _ => v = some (.int 1)) T0 (mkF K.m 26 #[.val (.long i0), .second, .val (.long i1), .second, .val (.long i2), .second, .val (.long i3), .second, .val (.long i4), .second, .val (.int i5), .val (.int nn), .unset, .unset, .unset, .unset, .unset, .unset, .unset, .unset, .unset, .unset, .unset, .unset, .unset, .unset, .unset, .unset, .unset, .unset, .unset, .unset, .unset, .unset] (.long v :: []))) → Run K (fun v _ => v = some (.int 1)) T0 (mkF K.m 8 #[.val (.long i0), .second, .val (.long i1), .second, .val (.long i2), .second, .val (.long i3), .second, .val (.long i4), .second, .val (.int i5), .val (.int nn), .unset, .unset, .unset, .unset, .unset, .unset, .unset, .unset, .unset, .unset, .unset, .unset, .unset, .unset, .unset, .unset, .unset, .unset, .unset, .unset, .unset, .unset] []) := by
    intro kj
    refine r_iload X0 cx L_8 rfl ?_
    refine r_iconst (2) X0 cx L_10 rfl ?_
    refine r_iushr X0 cx L_11 ?_
    refine r_iconst (1) X0 cx L_12 rfl ?_
    refine r_iand X0 cx L_13 ?_
    refine r_ifeq X0 cx L_14 (fun c14 => ?_) (fun c14 => ?_)
    · refine r_lloadN X0 cx L_21 rfl ?_
      refine r_ldc2 X0 cx L_22 (hw.get 0 rfl) ?_
      refine r_land X0 cx L_25 ?_
      exact kj _ (own_and1 _)
    · refine r_lconst (0) X0 cx L_17 rfl ?_
      refine r_goto X0 cx L_18 ?_
      exact kj _ (by constructor <;> decide)
  refine kj26 (fun ia p_ia => ?_)
  refine r_lstore (fun zz => #[.val (.long i0), .second, .val (.long i1), .second, .val (.long i2), .second, .val (.long i3), .second, .val (.long i4), .second, .val (.int i5), .val (.int nn), .val (.long zz), .second, .unset, .unset, .unset, .unset, .unset, .unset, .unset, .unset, .unset, .unset, .unset, .unset, .unset, .unset, .unset, .unset, .unset, .unset, .unset, .unset]) X0 cx L_26 (fun _ => rfl) (fun ia e_ia => ?_)
  replace e_ia := e_ia.symm
  subst e_ia
  have kj46 : (∀ v : Int64, (own_r v) → Run K (fun v _ => v = some (.int 1)) T0 (mkF K.m 46 #[.val (.long i0), .second, .val (.long i1), .second, .val (.long i2), .second, .val (.long i3), .second, .val (.long i4), .second, .val (.int i5), .val (.int nn), .val (.long ia), .second, .unset, .unset, .unset, .unset, .unset, .unset, .unset, .unset, .unset, .unset, .unset, .unset, .unset, .unset, .unset, .unset, .unset, .unset, .unset, .unset] (.long v :: []))) → Run K (fun v _ => v = some (.int 1)) T0 (mkF K.m 28 #[.val (.long i0), .second, .val (.long i1), .second, .val (.long i2), .second, .val (.long i3), .second, .val (.long i4), .second, .val (.int i5), .val (.int nn), .val (.long ia), .second, .unset, .unset, .unset, .unset, .unset, .unset, .unset, .unset, .unset, .unset, .unset, .unset, .unset, .unset, .unset, .unset, .unset, .unset, .unset, .unset] []) := by
    intro kj
    refine r_iload X0 cx L_28 rfl ?_
    refine r_iconst (3) X0 cx L_30 rfl ?_
    refine r_iushr X0 cx L_31 ?_
    refine r_iconst (1) X0 cx L_32 rfl ?_
    refine r_iand X0 cx L_33 ?_
    refine r_ifeq X0 cx L_34 (fun c34 => ?_) (fun c34 => ?_)
    · refine r_lloadN X0 cx L_41 rfl ?_
      refine r_ldc2 X0 cx L_42 (hw.get 0 rfl) ?_
      refine r_land X0 cx L_45 ?_
      exact kj _ (own_and1 _)
    · refine r_lconst (0) X0 cx L_37 rfl ?_
      refine r_goto X0 cx L_38 ?_
      exact kj _ (by constructor <;> decide)
  refine kj46 (fun ib p_ib => ?_)
  refine r_lstore (fun zz => #[.val (.long i0), .second, .val (.long i1), .second, .val (.long i2), .second, .val (.long i3), .second, .val (.long i4), .second, .val (.int i5), .val (.int nn), .val (.long ia), .second, .val (.long zz), .second, .unset, .unset, .unset, .unset, .unset, .unset, .unset, .unset, .unset, .unset, .unset, .unset, .unset, .unset, .unset, .unset, .unset, .unset]) X0 cx L_46 (fun _ => rfl) (fun ib e_ib => ?_)
  replace e_ib := e_ib.symm
  subst e_ib
  have kj67 : (∀ v : Int64, (own_r v) → Run K (fun v _ => v = some (.int 1)) T0 (mkF K.m 67 #[.val (.long i0), .second, .val (.long i1), .second, .val (.long i2), .second, .val (.long i3), .second, .val (.long i4), .second, .val (.int i5), .val (.int nn), .val (.long ia), .second, .val (.long ib), .second, .unset, .unset, .unset, .unset, .unset, .unset, .unset, .unset, .unset, .unset, .unset, .unset, .unset, .unset, .unset, .unset, .unset, .unset] (.long v :: []))) → Run K (fun v _ => v = some (.int 1)) T0 (mkF K.m 48 #[.val (.long i0), .second, .val (.long i1), .second, .val (.long i2), .second, .val (.long i3), .second, .val (.long i4), .second, .val (.int i5), .val (.int nn), .val (.long ia), .second, .val (.long ib), .second, .unset, .unset, .unset, .unset, .unset, .unset, .unset, .unset, .unset, .unset, .unset, .unset, .unset, .unset, .unset, .unset, .unset, .unset] []) := by
    intro kj
    refine r_iload X0 cx L_48 rfl ?_
    refine r_iconst (4) X0 cx L_50 rfl ?_
    refine r_iushr X0 cx L_51 ?_
    refine r_iconst (1) X0 cx L_52 rfl ?_
    refine r_iand X0 cx L_53 ?_
    refine r_ifeq X0 cx L_54 (fun c54 => ?_) (fun c54 => ?_)
    · refine r_lload X0 cx L_61 rfl ?_
      refine r_ldc2 X0 cx L_63 (hw.get 0 rfl) ?_
      refine r_land X0 cx L_66 ?_
      exact kj _ (own_and1 _)
    · refine r_lconst (0) X0 cx L_57 rfl ?_
      refine r_goto X0 cx L_58 ?_
      exact kj _ (by constructor <;> decide)
  refine kj67 (fun ic p_ic => ?_)
  refine r_lstore (fun zz => #[.val (.long i0), .second, .val (.long i1), .second, .val (.long i2), .second, .val (.long i3), .second, .val (.long i4), .second, .val (.int i5), .val (.int nn), .val (.long ia), .second, .val (.long ib), .second, .val (.long zz), .second, .unset, .unset, .unset, .unset, .unset, .unset, .unset, .unset, .unset, .unset, .unset, .unset, .unset, .unset, .unset, .unset]) X0 cx L_67 (fun _ => rfl) (fun ic e_ic => ?_)
  replace e_ic := e_ic.symm
  subst e_ic
  have kj88 : (∀ v : Int64, (own_r v) → Run K (fun v _ => v = some (.int 1)) T0 (mkF K.m 88 #[.val (.long i0), .second, .val (.long i1), .second, .val (.long i2), .second, .val (.long i3), .second, .val (.long i4), .second, .val (.int i5), .val (.int nn), .val (.long ia), .second, .val (.long ib), .second, .val (.long ic), .second, .unset, .unset, .unset, .unset, .unset, .unset, .unset, .unset, .unset, .unset, .unset, .unset, .unset, .unset, .unset, .unset] (.long v :: []))) → Run K (fun v _ => v = some (.int 1)) T0 (mkF K.m 69 #[.val (.long i0), .second, .val (.long i1), .second, .val (.long i2), .second, .val (.long i3), .second, .val (.long i4), .second, .val (.int i5), .val (.int nn), .val (.long ia), .second, .val (.long ib), .second, .val (.long ic), .second, .unset, .unset, .unset, .unset, .unset, .unset, .unset, .unset, .unset, .unset, .unset, .unset, .unset, .unset, .unset, .unset] []) := by
    intro kj
    refine r_iload X0 cx L_69 rfl ?_
    refine r_iconst (5) X0 cx L_71 rfl ?_
    refine r_iushr X0 cx L_72 ?_
    refine r_iconst (1) X0 cx L_73 rfl ?_
    refine r_iand X0 cx L_74 ?_
    refine r_ifeq X0 cx L_75 (fun c75 => ?_) (fun c75 => ?_)
    · refine r_lload X0 cx L_82 rfl ?_
      refine r_ldc2 X0 cx L_84 (hw.get 0 rfl) ?_
      refine r_land X0 cx L_87 ?_
      exact kj _ (own_and1 _)
    · refine r_lconst (0) X0 cx L_78 rfl ?_
      refine r_goto X0 cx L_79 ?_
      exact kj _ (by constructor <;> decide)
  refine kj88 (fun id p_id => ?_)
  refine r_lstore (fun zz => #[.val (.long i0), .second, .val (.long i1), .second, .val (.long i2), .second, .val (.long i3), .second, .val (.long i4), .second, .val (.int i5), .val (.int nn), .val (.long ia), .second, .val (.long ib), .second, .val (.long ic), .second, .val (.long zz), .second, .unset, .unset, .unset, .unset, .unset, .unset, .unset, .unset, .unset, .unset, .unset, .unset, .unset, .unset]) X0 cx L_88 (fun _ => rfl) (fun id e_id => ?_)
  replace e_id := e_id.symm
  subst e_id
  refine r_lload X0 cx L_90 rfl ?_
  refine r_lstore (fun zz => #[.val (.long i0), .second, .val (.long i1), .second, .val (.long i2), .second, .val (.long i3), .second, .val (.long i4), .second, .val (.int i5), .val (.int nn), .val (.long ia), .second, .val (.long ib), .second, .val (.long ic), .second, .val (.long id), .second, .val (.long zz), .second, .unset, .unset, .unset, .unset, .unset, .unset, .unset, .unset, .unset, .unset, .unset, .unset]) X0 cx L_92 (fun _ => rfl) (fun s0 e_s0 => ?_)
  replace e_s0 := e_s0.symm
  subst e_s0
  refine r_lload X0 cx L_94 rfl ?_
  refine r_lload X0 cx L_96 rfl ?_
  refine r_ladd X0 cx L_98 ?_
  refine r_lstore (fun zz => #[.val (.long i0), .second, .val (.long i1), .second, .val (.long i2), .second, .val (.long i3), .second, .val (.long i4), .second, .val (.int i5), .val (.int nn), .val (.long ia), .second, .val (.long ib), .second, .val (.long ic), .second, .val (.long id), .second, .val (.long ia), .second, .val (.long zz), .second, .unset, .unset, .unset, .unset, .unset, .unset, .unset, .unset, .unset, .unset]) X0 cx L_99 (fun _ => rfl) (fun s1 e_s1 => ?_)
  refine r_lload X0 cx L_101 rfl ?_
  refine r_lload X0 cx L_103 rfl ?_
  refine r_ladd X0 cx L_105 ?_
  refine r_lstore (fun zz => #[.val (.long i0), .second, .val (.long i1), .second, .val (.long i2), .second, .val (.long i3), .second, .val (.long i4), .second, .val (.int i5), .val (.int nn), .val (.long ia), .second, .val (.long ib), .second, .val (.long ic), .second, .val (.long id), .second, .val (.long ia), .second, .val (.long s1), .second, .val (.long zz), .second, .unset, .unset, .unset, .unset, .unset, .unset, .unset, .unset]) X0 cx L_106 (fun _ => rfl) (fun s2 e_s2 => ?_)
  refine r_lload X0 cx L_108 rfl ?_
  refine r_lload X0 cx L_110 rfl ?_
  refine r_ladd X0 cx L_112 ?_
  refine r_lstore (fun zz => #[.val (.long i0), .second, .val (.long i1), .second, .val (.long i2), .second, .val (.long i3), .second, .val (.long i4), .second, .val (.int i5), .val (.int nn), .val (.long ia), .second, .val (.long ib), .second, .val (.long ic), .second, .val (.long id), .second, .val (.long ia), .second, .val (.long s1), .second, .val (.long s2), .second, .val (.long zz), .second, .unset, .unset, .unset, .unset, .unset, .unset]) X0 cx L_113 (fun _ => rfl) (fun s3 e_s3 => ?_)
  have t1 : s1.toInt = ia.toInt + ib.toInt := by rw [e_s1]; have := p_ia; have := p_ib; simp only [own_r] at *; exact own_add (by omega) (by omega)
  have t2 : s2.toInt = s1.toInt + ic.toInt := by rw [e_s2]; have := p_ia; have := p_ib; have := p_ic; simp only [own_r] at *; exact own_add (by omega) (by omega)
  have t3 : s3.toInt = s2.toInt + id.toInt := by rw [e_s3]; have := p_ia; have := p_ib; have := p_ic; have := p_id; simp only [own_r] at *; exact own_add (by omega) (by omega)
  have l1 : ia.toInt ≤ s1.toInt := by have := p_ib; simp only [own_r] at *; omega
  have l2 : s1.toInt ≤ s2.toInt := by have := p_ic; simp only [own_r] at *; omega
  have l3 : s2.toInt ≤ s3.toInt := by have := p_id; simp only [own_r] at *; omega
  clear e_s1 e_s2 e_s3 t1 t2 t3 kj26 kj46 kj67 kj88
  rcases own_m3 i5 with m3 | m3 | m3 | m3
  · obtain rfl : nn = (1 : Int32) := e_nn.trans m3
    refine r_iload X0 cx L_115 rfl ?_
    refine r_iconst (1) X0 cx L_117 rfl ?_
    refine r_icmpne X0 cx L_118 (fun c => absurd c (by decide)) (fun _ => ?_)
    refine r_lload X0 cx L_121 rfl ?_
    refine r_goto X0 cx L_123 ?_
    refine r_lstore (fun zz => #[.val (.long i0), .second, .val (.long i1), .second, .val (.long i2), .second, .val (.long i3), .second, .val (.long i4), .second, .val (.int i5), .val (.int (1 : Int32)), .val (.long ia), .second, .val (.long ib), .second, .val (.long ic), .second, .val (.long id), .second, .val (.long ia), .second, .val (.long s1), .second, .val (.long s2), .second, .val (.long s3), .second, .val (.long zz), .second, .unset, .unset, .unset, .unset]) X0 cx L_150 (fun _ => rfl) (fun last e_last => ?_)
    replace e_last := e_last.symm
    subst e_last
    refine r_lload X0 cx L_152 rfl ?_
    refine r_lconst (0) X0 cx L_154 rfl ?_
    refine r_lcmp X0 cx L_155 ?_
    refine r_lcmpgt X0 cx L_156 (fun c156 => ?_) (fun c156 => ?_)
    · have kj183 : (∀ v : Int64, (v < ia) → Run K (fun v _ => v = some (.int 1)) T0 (mkF K.m 183 #[.val (.long i0), .second, .val (.long i1), .second, .val (.long i2), .second, .val (.long i3), .second, .val (.long i4), .second, .val (.int i5), .val (.int (1 : Int32)), .val (.long ia), .second, .val (.long ib), .second, .val (.long ic), .second, .val (.long id), .second, .val (.long ia), .second, .val (.long s1), .second, .val (.long s2), .second, .val (.long s3), .second, .val (.long ia), .second, .unset, .unset, .unset, .unset] (.long v :: []))) → Run K (fun v _ => v = some (.int 1)) T0 (mkF K.m 161 #[.val (.long i0), .second, .val (.long i1), .second, .val (.long i2), .second, .val (.long i3), .second, .val (.long i4), .second, .val (.int i5), .val (.int (1 : Int32)), .val (.long ia), .second, .val (.long ib), .second, .val (.long ic), .second, .val (.long id), .second, .val (.long ia), .second, .val (.long s1), .second, .val (.long s2), .second, .val (.long s3), .second, .val (.long ia), .second, .unset, .unset, .unset, .unset] []) := by
        intro kj
        refine r_lload X0 cx L_161 rfl ?_
        refine r_lload X0 cx L_163 rfl ?_
        refine r_lcmp X0 cx L_165 ?_
        refine r_lcmpge X0 cx L_166 (fun c166 => ?_) (fun c166 => ?_)
        · refine r_lload X0 cx L_174 rfl ?_
          refine r_ldc2 X0 cx L_176 (hw.get 6 rfl) ?_
          refine r_land X0 cx L_179 ?_
          refine r_lload X0 cx L_180 rfl ?_
          refine r_lrem X0 cx L_182 (by rintro rfl; exact absurd c156 (by decide)) ?_
          exact kj _ (by rw [Int64.lt_iff_toInt_lt, own_rem _ _ (own_and _ _ (by decide)).1 (Int64.lt_iff_toInt_lt.mp c156)]; exact Int.emod_lt_of_pos _ (Int64.lt_iff_toInt_lt.mp c156))
        · refine r_lload X0 cx L_169 rfl ?_
          refine r_goto X0 cx L_171 ?_
          exact kj _ c166
      refine kj183 (fun dr p_dr => ?_)
      refine r_lstore (fun zz => #[.val (.long i0), .second, .val (.long i1), .second, .val (.long i2), .second, .val (.long i3), .second, .val (.long i4), .second, .val (.int i5), .val (.int (1 : Int32)), .val (.long ia), .second, .val (.long ib), .second, .val (.long ic), .second, .val (.long id), .second, .val (.long ia), .second, .val (.long s1), .second, .val (.long s2), .second, .val (.long s3), .second, .val (.long ia), .second, .val (.long zz), .second, .unset, .unset]) X0 cx L_183 (fun _ => rfl) (fun dr e_dr => ?_)
      replace e_dr := e_dr.symm
      subst e_dr
      refine r_iload X0 cx L_185 rfl ?_
      refine r_iconst (1) X0 cx L_187 rfl ?_
      refine r_icmpne X0 cx L_188 (fun c => absurd c (by decide)) (fun _ => ?_)
      refine r_iconst (1) X0 cx L_191 rfl ?_
      refine r_newarray X0 cx L_192 (hw.get 1 rfl) (1) 1 rfl (Nat.le_refl _) (by decide) (by decide) (by decide) (fun T251 h251 arr ea251 g_arr X251 Ex251 A251 => ?_)
      have A_arr : AJ K.Z h251 arr [0] := AJ.new A251
      refine r_dup X251 cx L_194 rfl ?_
      refine r_iconst (0) X251 cx L_195 rfl ?_
      refine r_lload X251 cx L_196 rfl ?_
      refine r_lastore X251 cx L_198 A_arr (0) rfl (ltb rfl) g_arr (fun T252 h252 X252 W252 N252 => ?_)
      have A_arr : AJ K.Z h252 arr [ia] := N252
      refine r_astore #[.val (.long i0), .second, .val (.long i1), .second, .val (.long i2), .second, .val (.long i3), .second, .val (.long i4), .second, .val (.int i5), .val (.int (1 : Int32)), .val (.long ia), .second, .val (.long ib), .second, .val (.long ic), .second, .val (.long id), .second, .val (.long ia), .second, .val (.long s1), .second, .val (.long s2), .second, .val (.long s3), .second, .val (.long ia), .second, .val (.long dr), .second, .val (.ref arr), .unset] X252 cx L_199 rfl ?_
      refine r_goto X252 cx L_201 ?_
      refine r_lload X252 cx L_282 rfl ?_
      refine r_lload X252 cx L_284 rfl ?_
      refine r_lcmp X252 cx L_286 ?_
      refine r_lcmple X252 cx L_287 (fun c287 => ?_) (fun c287 => ?_)
      · refine r_lload X252 cx L_296 rfl ?_
        refine r_lload X252 cx L_298 rfl ?_
        refine r_lcmp X252 cx L_300 ?_
        refine r_lcmple X252 cx L_301 (fun c301 => ?_) (fun c301 => ?_)
        · refine r_lload X252 cx L_310 rfl ?_
          refine r_lload X252 cx L_312 rfl ?_
          refine r_lcmp X252 cx L_314 ?_
          refine r_lcmple X252 cx L_315 (fun c315 => ?_) (fun c315 => ?_)
          · refine r_iconst (3) X252 cx L_324 rfl ?_
            refine r_istore (fun zz => #[.val (.long i0), .second, .val (.long i1), .second, .val (.long i2), .second, .val (.long i3), .second, .val (.long i4), .second, .val (.int i5), .val (.int (1 : Int32)), .val (.long ia), .second, .val (.long ib), .second, .val (.long ic), .second, .val (.long id), .second, .val (.long ia), .second, .val (.long s1), .second, .val (.long s2), .second, .val (.long s3), .second, .val (.long ia), .second, .val (.long dr), .second, .val (.ref arr), .val (.int zz)]) X252 cx L_325 (fun _ => rfl) (fun i253 e_i253 => ?_)
            subst e_i253
            refine r_aload X252 cx L_327 rfl ?_
            refine r_lload X252 cx L_329 rfl ?_
            refine r_static [(.ref arr), (.long dr)] [] X252 cx L_331 (hw.get 2 rfl) (hw.get 3 rfl) (hw.get 4 rfl) (hw.get 5 rfl) (by decide) (con_P8m16 K.l K.Z a0 hw arr dr h252 K.n0 X252.ge [ia] (by simp) A_arr) (lenOf pd_0 rfl) rfl rfl (by decide) (leb rfl) (by decide) (by decide) (fun T254 h254 v254 X254 q254 => ?_) (fun _ _ q => Nat.le_of_eq (congrArg Array.size q.1))
            obtain ⟨rfl, rfl⟩ := q254
            refine r_iload X254 cx L_334 rfl ?_
            refine r_icmpne X254 cx L_336 (fun c336 => ?_) (fun c336 => ?_)
            · exfalso
              apply c336
              simp only [own_bk, Int64.lt_iff_toInt_lt] at *
              first | rfl | (exfalso; omega) | (repeat (first | rfl | (rw [if_pos (by omega)]) | (rw [if_neg (by omega)])))
            · refine r_iconst (1) X254 cx L_339 rfl ?_
              refine r_goto X254 cx L_340 ?_
              refine r_zreturn X254 cx L_344 (by decide) (by decide) ?_
              rfl
          · refine r_iconst (2) X252 cx L_318 rfl ?_
            refine r_istore (fun zz => #[.val (.long i0), .second, .val (.long i1), .second, .val (.long i2), .second, .val (.long i3), .second, .val (.long i4), .second, .val (.int i5), .val (.int (1 : Int32)), .val (.long ia), .second, .val (.long ib), .second, .val (.long ic), .second, .val (.long id), .second, .val (.long ia), .second, .val (.long s1), .second, .val (.long s2), .second, .val (.long s3), .second, .val (.long ia), .second, .val (.long dr), .second, .val (.ref arr), .val (.int zz)]) X252 cx L_319 (fun _ => rfl) (fun i253 e_i253 => ?_)
            subst e_i253
            refine r_goto X252 cx L_321 ?_
            refine r_aload X252 cx L_327 rfl ?_
            refine r_lload X252 cx L_329 rfl ?_
            refine r_static [(.ref arr), (.long dr)] [] X252 cx L_331 (hw.get 2 rfl) (hw.get 3 rfl) (hw.get 4 rfl) (hw.get 5 rfl) (by decide) (con_P8m16 K.l K.Z a0 hw arr dr h252 K.n0 X252.ge [ia] (by simp) A_arr) (lenOf pd_0 rfl) rfl rfl (by decide) (leb rfl) (by decide) (by decide) (fun T254 h254 v254 X254 q254 => ?_) (fun _ _ q => Nat.le_of_eq (congrArg Array.size q.1))
            obtain ⟨rfl, rfl⟩ := q254
            refine r_iload X254 cx L_334 rfl ?_
            refine r_icmpne X254 cx L_336 (fun c336 => ?_) (fun c336 => ?_)
            · exfalso
              apply c336
              simp only [own_bk, Int64.lt_iff_toInt_lt] at *
              first | rfl | (exfalso; omega) | (repeat (first | rfl | (rw [if_pos (by omega)]) | (rw [if_neg (by omega)])))
            · refine r_iconst (1) X254 cx L_339 rfl ?_
              refine r_goto X254 cx L_340 ?_
              refine r_zreturn X254 cx L_344 (by decide) (by decide) ?_
              rfl
        · refine r_iconst (1) X252 cx L_304 rfl ?_
          refine r_istore (fun zz => #[.val (.long i0), .second, .val (.long i1), .second, .val (.long i2), .second, .val (.long i3), .second, .val (.long i4), .second, .val (.int i5), .val (.int (1 : Int32)), .val (.long ia), .second, .val (.long ib), .second, .val (.long ic), .second, .val (.long id), .second, .val (.long ia), .second, .val (.long s1), .second, .val (.long s2), .second, .val (.long s3), .second, .val (.long ia), .second, .val (.long dr), .second, .val (.ref arr), .val (.int zz)]) X252 cx L_305 (fun _ => rfl) (fun i253 e_i253 => ?_)
          subst e_i253
          refine r_goto X252 cx L_307 ?_
          refine r_aload X252 cx L_327 rfl ?_
          refine r_lload X252 cx L_329 rfl ?_
          refine r_static [(.ref arr), (.long dr)] [] X252 cx L_331 (hw.get 2 rfl) (hw.get 3 rfl) (hw.get 4 rfl) (hw.get 5 rfl) (by decide) (con_P8m16 K.l K.Z a0 hw arr dr h252 K.n0 X252.ge [ia] (by simp) A_arr) (lenOf pd_0 rfl) rfl rfl (by decide) (leb rfl) (by decide) (by decide) (fun T254 h254 v254 X254 q254 => ?_) (fun _ _ q => Nat.le_of_eq (congrArg Array.size q.1))
          obtain ⟨rfl, rfl⟩ := q254
          refine r_iload X254 cx L_334 rfl ?_
          refine r_icmpne X254 cx L_336 (fun c336 => ?_) (fun c336 => ?_)
          · exfalso
            apply c336
            simp only [own_bk, Int64.lt_iff_toInt_lt] at *
            first | rfl | (exfalso; omega) | (repeat (first | rfl | (rw [if_pos (by omega)]) | (rw [if_neg (by omega)])))
          · refine r_iconst (1) X254 cx L_339 rfl ?_
            refine r_goto X254 cx L_340 ?_
            refine r_zreturn X254 cx L_344 (by decide) (by decide) ?_
            rfl
      · refine r_iconst (0) X252 cx L_290 rfl ?_
        refine r_istore (fun zz => #[.val (.long i0), .second, .val (.long i1), .second, .val (.long i2), .second, .val (.long i3), .second, .val (.long i4), .second, .val (.int i5), .val (.int (1 : Int32)), .val (.long ia), .second, .val (.long ib), .second, .val (.long ic), .second, .val (.long id), .second, .val (.long ia), .second, .val (.long s1), .second, .val (.long s2), .second, .val (.long s3), .second, .val (.long ia), .second, .val (.long dr), .second, .val (.ref arr), .val (.int zz)]) X252 cx L_291 (fun _ => rfl) (fun i253 e_i253 => ?_)
        subst e_i253
        refine r_goto X252 cx L_293 ?_
        refine r_aload X252 cx L_327 rfl ?_
        refine r_lload X252 cx L_329 rfl ?_
        refine r_static [(.ref arr), (.long dr)] [] X252 cx L_331 (hw.get 2 rfl) (hw.get 3 rfl) (hw.get 4 rfl) (hw.get 5 rfl) (by decide) (con_P8m16 K.l K.Z a0 hw arr dr h252 K.n0 X252.ge [ia] (by simp) A_arr) (lenOf pd_0 rfl) rfl rfl (by decide) (leb rfl) (by decide) (by decide) (fun T254 h254 v254 X254 q254 => ?_) (fun _ _ q => Nat.le_of_eq (congrArg Array.size q.1))
        obtain ⟨rfl, rfl⟩ := q254
        refine r_iload X254 cx L_334 rfl ?_
        refine r_icmpne X254 cx L_336 (fun c336 => ?_) (fun c336 => ?_)
        · exfalso
          apply c336
          simp only [own_bk, Int64.lt_iff_toInt_lt] at *
          first | rfl | (exfalso; omega) | (repeat (first | rfl | (rw [if_pos (by omega)]) | (rw [if_neg (by omega)])))
        · refine r_iconst (1) X254 cx L_339 rfl ?_
          refine r_goto X254 cx L_340 ?_
          refine r_zreturn X254 cx L_344 (by decide) (by decide) ?_
          rfl
    · refine r_iconst (1) X0 cx L_159 rfl ?_
      refine r_zreturn X0 cx L_160 (by decide) (by decide) ?_
      rfl
  · obtain rfl : nn = (2 : Int32) := e_nn.trans m3
    refine r_iload X0 cx L_115 rfl ?_
    refine r_iconst (1) X0 cx L_117 rfl ?_
    refine r_icmpne X0 cx L_118 (fun _ => ?_) (fun c => absurd c (by decide))
    refine r_iload X0 cx L_126 rfl ?_
    refine r_iconst (2) X0 cx L_128 rfl ?_
    refine r_icmpne X0 cx L_129 (fun c => absurd c (by decide)) (fun _ => ?_)
    refine r_lload X0 cx L_132 rfl ?_
    refine r_goto X0 cx L_134 ?_
    refine r_lstore (fun zz => #[.val (.long i0), .second, .val (.long i1), .second, .val (.long i2), .second, .val (.long i3), .second, .val (.long i4), .second, .val (.int i5), .val (.int (2 : Int32)), .val (.long ia), .second, .val (.long ib), .second, .val (.long ic), .second, .val (.long id), .second, .val (.long ia), .second, .val (.long s1), .second, .val (.long s2), .second, .val (.long s3), .second, .val (.long zz), .second, .unset, .unset, .unset, .unset]) X0 cx L_150 (fun _ => rfl) (fun last e_last => ?_)
    replace e_last := e_last.symm
    subst e_last
    refine r_lload X0 cx L_152 rfl ?_
    refine r_lconst (0) X0 cx L_154 rfl ?_
    refine r_lcmp X0 cx L_155 ?_
    refine r_lcmpgt X0 cx L_156 (fun c156 => ?_) (fun c156 => ?_)
    · have kj183 : (∀ v : Int64, (v < s1) → Run K (fun v _ => v = some (.int 1)) T0 (mkF K.m 183 #[.val (.long i0), .second, .val (.long i1), .second, .val (.long i2), .second, .val (.long i3), .second, .val (.long i4), .second, .val (.int i5), .val (.int (2 : Int32)), .val (.long ia), .second, .val (.long ib), .second, .val (.long ic), .second, .val (.long id), .second, .val (.long ia), .second, .val (.long s1), .second, .val (.long s2), .second, .val (.long s3), .second, .val (.long s1), .second, .unset, .unset, .unset, .unset] (.long v :: []))) → Run K (fun v _ => v = some (.int 1)) T0 (mkF K.m 161 #[.val (.long i0), .second, .val (.long i1), .second, .val (.long i2), .second, .val (.long i3), .second, .val (.long i4), .second, .val (.int i5), .val (.int (2 : Int32)), .val (.long ia), .second, .val (.long ib), .second, .val (.long ic), .second, .val (.long id), .second, .val (.long ia), .second, .val (.long s1), .second, .val (.long s2), .second, .val (.long s3), .second, .val (.long s1), .second, .unset, .unset, .unset, .unset] []) := by
        intro kj
        refine r_lload X0 cx L_161 rfl ?_
        refine r_lload X0 cx L_163 rfl ?_
        refine r_lcmp X0 cx L_165 ?_
        refine r_lcmpge X0 cx L_166 (fun c166 => ?_) (fun c166 => ?_)
        · refine r_lload X0 cx L_174 rfl ?_
          refine r_ldc2 X0 cx L_176 (hw.get 6 rfl) ?_
          refine r_land X0 cx L_179 ?_
          refine r_lload X0 cx L_180 rfl ?_
          refine r_lrem X0 cx L_182 (by rintro rfl; exact absurd c156 (by decide)) ?_
          exact kj _ (by rw [Int64.lt_iff_toInt_lt, own_rem _ _ (own_and _ _ (by decide)).1 (Int64.lt_iff_toInt_lt.mp c156)]; exact Int.emod_lt_of_pos _ (Int64.lt_iff_toInt_lt.mp c156))
        · refine r_lload X0 cx L_169 rfl ?_
          refine r_goto X0 cx L_171 ?_
          exact kj _ c166
      refine kj183 (fun dr p_dr => ?_)
      refine r_lstore (fun zz => #[.val (.long i0), .second, .val (.long i1), .second, .val (.long i2), .second, .val (.long i3), .second, .val (.long i4), .second, .val (.int i5), .val (.int (2 : Int32)), .val (.long ia), .second, .val (.long ib), .second, .val (.long ic), .second, .val (.long id), .second, .val (.long ia), .second, .val (.long s1), .second, .val (.long s2), .second, .val (.long s3), .second, .val (.long s1), .second, .val (.long zz), .second, .unset, .unset]) X0 cx L_183 (fun _ => rfl) (fun dr e_dr => ?_)
      replace e_dr := e_dr.symm
      subst e_dr
      refine r_iload X0 cx L_185 rfl ?_
      refine r_iconst (1) X0 cx L_187 rfl ?_
      refine r_icmpne X0 cx L_188 (fun _ => ?_) (fun c => absurd c (by decide))
      refine r_iload X0 cx L_204 rfl ?_
      refine r_iconst (2) X0 cx L_206 rfl ?_
      refine r_icmpne X0 cx L_207 (fun c => absurd c (by decide)) (fun _ => ?_)
      refine r_iconst (2) X0 cx L_210 rfl ?_
      refine r_newarray X0 cx L_211 (hw.get 1 rfl) (2) 2 rfl (Nat.le_refl _) (by decide) (by decide) (by decide) (fun T251 h251 arr ea251 g_arr X251 Ex251 A251 => ?_)
      have A_arr : AJ K.Z h251 arr [0, 0] := AJ.new A251
      refine r_dup X251 cx L_213 rfl ?_
      refine r_iconst (0) X251 cx L_214 rfl ?_
      refine r_lload X251 cx L_215 rfl ?_
      refine r_lastore X251 cx L_217 A_arr (0) rfl (ltb rfl) g_arr (fun T252 h252 X252 W252 N252 => ?_)
      have A_arr : AJ K.Z h252 arr [ia, 0] := N252
      refine r_dup X252 cx L_218 rfl ?_
      refine r_iconst (1) X252 cx L_219 rfl ?_
      refine r_lload X252 cx L_220 rfl ?_
      refine r_lastore X252 cx L_222 A_arr (1) rfl (ltb rfl) g_arr (fun T253 h253 X253 W253 N253 => ?_)
      have A_arr : AJ K.Z h253 arr [ia, s1] := N253
      refine r_astore #[.val (.long i0), .second, .val (.long i1), .second, .val (.long i2), .second, .val (.long i3), .second, .val (.long i4), .second, .val (.int i5), .val (.int (2 : Int32)), .val (.long ia), .second, .val (.long ib), .second, .val (.long ic), .second, .val (.long id), .second, .val (.long ia), .second, .val (.long s1), .second, .val (.long s2), .second, .val (.long s3), .second, .val (.long s1), .second, .val (.long dr), .second, .val (.ref arr), .unset] X253 cx L_223 rfl ?_
      refine r_goto X253 cx L_225 ?_
      refine r_lload X253 cx L_282 rfl ?_
      refine r_lload X253 cx L_284 rfl ?_
      refine r_lcmp X253 cx L_286 ?_
      refine r_lcmple X253 cx L_287 (fun c287 => ?_) (fun c287 => ?_)
      · refine r_lload X253 cx L_296 rfl ?_
        refine r_lload X253 cx L_298 rfl ?_
        refine r_lcmp X253 cx L_300 ?_
        refine r_lcmple X253 cx L_301 (fun c301 => ?_) (fun c301 => ?_)
        · refine r_lload X253 cx L_310 rfl ?_
          refine r_lload X253 cx L_312 rfl ?_
          refine r_lcmp X253 cx L_314 ?_
          refine r_lcmple X253 cx L_315 (fun c315 => ?_) (fun c315 => ?_)
          · refine r_iconst (3) X253 cx L_324 rfl ?_
            refine r_istore (fun zz => #[.val (.long i0), .second, .val (.long i1), .second, .val (.long i2), .second, .val (.long i3), .second, .val (.long i4), .second, .val (.int i5), .val (.int (2 : Int32)), .val (.long ia), .second, .val (.long ib), .second, .val (.long ic), .second, .val (.long id), .second, .val (.long ia), .second, .val (.long s1), .second, .val (.long s2), .second, .val (.long s3), .second, .val (.long s1), .second, .val (.long dr), .second, .val (.ref arr), .val (.int zz)]) X253 cx L_325 (fun _ => rfl) (fun i254 e_i254 => ?_)
            subst e_i254
            refine r_aload X253 cx L_327 rfl ?_
            refine r_lload X253 cx L_329 rfl ?_
            refine r_static [(.ref arr), (.long dr)] [] X253 cx L_331 (hw.get 2 rfl) (hw.get 3 rfl) (hw.get 4 rfl) (hw.get 5 rfl) (by decide) (con_P8m16 K.l K.Z a0 hw arr dr h253 K.n0 X253.ge [ia, s1] (by simp) A_arr) (lenOf pd_0 rfl) rfl rfl (by decide) (leb rfl) (by decide) (by decide) (fun T255 h255 v255 X255 q255 => ?_) (fun _ _ q => Nat.le_of_eq (congrArg Array.size q.1))
            obtain ⟨rfl, rfl⟩ := q255
            refine r_iload X255 cx L_334 rfl ?_
            refine r_icmpne X255 cx L_336 (fun c336 => ?_) (fun c336 => ?_)
            · exfalso
              apply c336
              simp only [own_bk, Int64.lt_iff_toInt_lt] at *
              first | rfl | (exfalso; omega) | (repeat (first | rfl | (rw [if_pos (by omega)]) | (rw [if_neg (by omega)])))
            · refine r_iconst (1) X255 cx L_339 rfl ?_
              refine r_goto X255 cx L_340 ?_
              refine r_zreturn X255 cx L_344 (by decide) (by decide) ?_
              rfl
          · refine r_iconst (2) X253 cx L_318 rfl ?_
            refine r_istore (fun zz => #[.val (.long i0), .second, .val (.long i1), .second, .val (.long i2), .second, .val (.long i3), .second, .val (.long i4), .second, .val (.int i5), .val (.int (2 : Int32)), .val (.long ia), .second, .val (.long ib), .second, .val (.long ic), .second, .val (.long id), .second, .val (.long ia), .second, .val (.long s1), .second, .val (.long s2), .second, .val (.long s3), .second, .val (.long s1), .second, .val (.long dr), .second, .val (.ref arr), .val (.int zz)]) X253 cx L_319 (fun _ => rfl) (fun i254 e_i254 => ?_)
            subst e_i254
            refine r_goto X253 cx L_321 ?_
            refine r_aload X253 cx L_327 rfl ?_
            refine r_lload X253 cx L_329 rfl ?_
            refine r_static [(.ref arr), (.long dr)] [] X253 cx L_331 (hw.get 2 rfl) (hw.get 3 rfl) (hw.get 4 rfl) (hw.get 5 rfl) (by decide) (con_P8m16 K.l K.Z a0 hw arr dr h253 K.n0 X253.ge [ia, s1] (by simp) A_arr) (lenOf pd_0 rfl) rfl rfl (by decide) (leb rfl) (by decide) (by decide) (fun T255 h255 v255 X255 q255 => ?_) (fun _ _ q => Nat.le_of_eq (congrArg Array.size q.1))
            obtain ⟨rfl, rfl⟩ := q255
            refine r_iload X255 cx L_334 rfl ?_
            refine r_icmpne X255 cx L_336 (fun c336 => ?_) (fun c336 => ?_)
            · exfalso
              apply c336
              simp only [own_bk, Int64.lt_iff_toInt_lt] at *
              first | rfl | (exfalso; omega) | (repeat (first | rfl | (rw [if_pos (by omega)]) | (rw [if_neg (by omega)])))
            · refine r_iconst (1) X255 cx L_339 rfl ?_
              refine r_goto X255 cx L_340 ?_
              refine r_zreturn X255 cx L_344 (by decide) (by decide) ?_
              rfl
        · refine r_iconst (1) X253 cx L_304 rfl ?_
          refine r_istore (fun zz => #[.val (.long i0), .second, .val (.long i1), .second, .val (.long i2), .second, .val (.long i3), .second, .val (.long i4), .second, .val (.int i5), .val (.int (2 : Int32)), .val (.long ia), .second, .val (.long ib), .second, .val (.long ic), .second, .val (.long id), .second, .val (.long ia), .second, .val (.long s1), .second, .val (.long s2), .second, .val (.long s3), .second, .val (.long s1), .second, .val (.long dr), .second, .val (.ref arr), .val (.int zz)]) X253 cx L_305 (fun _ => rfl) (fun i254 e_i254 => ?_)
          subst e_i254
          refine r_goto X253 cx L_307 ?_
          refine r_aload X253 cx L_327 rfl ?_
          refine r_lload X253 cx L_329 rfl ?_
          refine r_static [(.ref arr), (.long dr)] [] X253 cx L_331 (hw.get 2 rfl) (hw.get 3 rfl) (hw.get 4 rfl) (hw.get 5 rfl) (by decide) (con_P8m16 K.l K.Z a0 hw arr dr h253 K.n0 X253.ge [ia, s1] (by simp) A_arr) (lenOf pd_0 rfl) rfl rfl (by decide) (leb rfl) (by decide) (by decide) (fun T255 h255 v255 X255 q255 => ?_) (fun _ _ q => Nat.le_of_eq (congrArg Array.size q.1))
          obtain ⟨rfl, rfl⟩ := q255
          refine r_iload X255 cx L_334 rfl ?_
          refine r_icmpne X255 cx L_336 (fun c336 => ?_) (fun c336 => ?_)
          · exfalso
            apply c336
            simp only [own_bk, Int64.lt_iff_toInt_lt] at *
            first | rfl | (exfalso; omega) | (repeat (first | rfl | (rw [if_pos (by omega)]) | (rw [if_neg (by omega)])))
          · refine r_iconst (1) X255 cx L_339 rfl ?_
            refine r_goto X255 cx L_340 ?_
            refine r_zreturn X255 cx L_344 (by decide) (by decide) ?_
            rfl
      · refine r_iconst (0) X253 cx L_290 rfl ?_
        refine r_istore (fun zz => #[.val (.long i0), .second, .val (.long i1), .second, .val (.long i2), .second, .val (.long i3), .second, .val (.long i4), .second, .val (.int i5), .val (.int (2 : Int32)), .val (.long ia), .second, .val (.long ib), .second, .val (.long ic), .second, .val (.long id), .second, .val (.long ia), .second, .val (.long s1), .second, .val (.long s2), .second, .val (.long s3), .second, .val (.long s1), .second, .val (.long dr), .second, .val (.ref arr), .val (.int zz)]) X253 cx L_291 (fun _ => rfl) (fun i254 e_i254 => ?_)
        subst e_i254
        refine r_goto X253 cx L_293 ?_
        refine r_aload X253 cx L_327 rfl ?_
        refine r_lload X253 cx L_329 rfl ?_
        refine r_static [(.ref arr), (.long dr)] [] X253 cx L_331 (hw.get 2 rfl) (hw.get 3 rfl) (hw.get 4 rfl) (hw.get 5 rfl) (by decide) (con_P8m16 K.l K.Z a0 hw arr dr h253 K.n0 X253.ge [ia, s1] (by simp) A_arr) (lenOf pd_0 rfl) rfl rfl (by decide) (leb rfl) (by decide) (by decide) (fun T255 h255 v255 X255 q255 => ?_) (fun _ _ q => Nat.le_of_eq (congrArg Array.size q.1))
        obtain ⟨rfl, rfl⟩ := q255
        refine r_iload X255 cx L_334 rfl ?_
        refine r_icmpne X255 cx L_336 (fun c336 => ?_) (fun c336 => ?_)
        · exfalso
          apply c336
          simp only [own_bk, Int64.lt_iff_toInt_lt] at *
          first | rfl | (exfalso; omega) | (repeat (first | rfl | (rw [if_pos (by omega)]) | (rw [if_neg (by omega)])))
        · refine r_iconst (1) X255 cx L_339 rfl ?_
          refine r_goto X255 cx L_340 ?_
          refine r_zreturn X255 cx L_344 (by decide) (by decide) ?_
          rfl
    · refine r_iconst (1) X0 cx L_159 rfl ?_
      refine r_zreturn X0 cx L_160 (by decide) (by decide) ?_
      rfl
  · obtain rfl : nn = (3 : Int32) := e_nn.trans m3
    refine r_iload X0 cx L_115 rfl ?_
    refine r_iconst (1) X0 cx L_117 rfl ?_
    refine r_icmpne X0 cx L_118 (fun _ => ?_) (fun c => absurd c (by decide))
    refine r_iload X0 cx L_126 rfl ?_
    refine r_iconst (2) X0 cx L_128 rfl ?_
    refine r_icmpne X0 cx L_129 (fun _ => ?_) (fun c => absurd c (by decide))
    refine r_iload X0 cx L_137 rfl ?_
    refine r_iconst (3) X0 cx L_139 rfl ?_
    refine r_icmpne X0 cx L_140 (fun c => absurd c (by decide)) (fun _ => ?_)
    refine r_lload X0 cx L_143 rfl ?_
    refine r_goto X0 cx L_145 ?_
    refine r_lstore (fun zz => #[.val (.long i0), .second, .val (.long i1), .second, .val (.long i2), .second, .val (.long i3), .second, .val (.long i4), .second, .val (.int i5), .val (.int (3 : Int32)), .val (.long ia), .second, .val (.long ib), .second, .val (.long ic), .second, .val (.long id), .second, .val (.long ia), .second, .val (.long s1), .second, .val (.long s2), .second, .val (.long s3), .second, .val (.long zz), .second, .unset, .unset, .unset, .unset]) X0 cx L_150 (fun _ => rfl) (fun last e_last => ?_)
    replace e_last := e_last.symm
    subst e_last
    refine r_lload X0 cx L_152 rfl ?_
    refine r_lconst (0) X0 cx L_154 rfl ?_
    refine r_lcmp X0 cx L_155 ?_
    refine r_lcmpgt X0 cx L_156 (fun c156 => ?_) (fun c156 => ?_)
    · have kj183 : (∀ v : Int64, (v < s2) → Run K (fun v _ => v = some (.int 1)) T0 (mkF K.m 183 #[.val (.long i0), .second, .val (.long i1), .second, .val (.long i2), .second, .val (.long i3), .second, .val (.long i4), .second, .val (.int i5), .val (.int (3 : Int32)), .val (.long ia), .second, .val (.long ib), .second, .val (.long ic), .second, .val (.long id), .second, .val (.long ia), .second, .val (.long s1), .second, .val (.long s2), .second, .val (.long s3), .second, .val (.long s2), .second, .unset, .unset, .unset, .unset] (.long v :: []))) → Run K (fun v _ => v = some (.int 1)) T0 (mkF K.m 161 #[.val (.long i0), .second, .val (.long i1), .second, .val (.long i2), .second, .val (.long i3), .second, .val (.long i4), .second, .val (.int i5), .val (.int (3 : Int32)), .val (.long ia), .second, .val (.long ib), .second, .val (.long ic), .second, .val (.long id), .second, .val (.long ia), .second, .val (.long s1), .second, .val (.long s2), .second, .val (.long s3), .second, .val (.long s2), .second, .unset, .unset, .unset, .unset] []) := by
        intro kj
        refine r_lload X0 cx L_161 rfl ?_
        refine r_lload X0 cx L_163 rfl ?_
        refine r_lcmp X0 cx L_165 ?_
        refine r_lcmpge X0 cx L_166 (fun c166 => ?_) (fun c166 => ?_)
        · refine r_lload X0 cx L_174 rfl ?_
          refine r_ldc2 X0 cx L_176 (hw.get 6 rfl) ?_
          refine r_land X0 cx L_179 ?_
          refine r_lload X0 cx L_180 rfl ?_
          refine r_lrem X0 cx L_182 (by rintro rfl; exact absurd c156 (by decide)) ?_
          exact kj _ (by rw [Int64.lt_iff_toInt_lt, own_rem _ _ (own_and _ _ (by decide)).1 (Int64.lt_iff_toInt_lt.mp c156)]; exact Int.emod_lt_of_pos _ (Int64.lt_iff_toInt_lt.mp c156))
        · refine r_lload X0 cx L_169 rfl ?_
          refine r_goto X0 cx L_171 ?_
          exact kj _ c166
      refine kj183 (fun dr p_dr => ?_)
      refine r_lstore (fun zz => #[.val (.long i0), .second, .val (.long i1), .second, .val (.long i2), .second, .val (.long i3), .second, .val (.long i4), .second, .val (.int i5), .val (.int (3 : Int32)), .val (.long ia), .second, .val (.long ib), .second, .val (.long ic), .second, .val (.long id), .second, .val (.long ia), .second, .val (.long s1), .second, .val (.long s2), .second, .val (.long s3), .second, .val (.long s2), .second, .val (.long zz), .second, .unset, .unset]) X0 cx L_183 (fun _ => rfl) (fun dr e_dr => ?_)
      replace e_dr := e_dr.symm
      subst e_dr
      refine r_iload X0 cx L_185 rfl ?_
      refine r_iconst (1) X0 cx L_187 rfl ?_
      refine r_icmpne X0 cx L_188 (fun _ => ?_) (fun c => absurd c (by decide))
      refine r_iload X0 cx L_204 rfl ?_
      refine r_iconst (2) X0 cx L_206 rfl ?_
      refine r_icmpne X0 cx L_207 (fun _ => ?_) (fun c => absurd c (by decide))
      refine r_iload X0 cx L_228 rfl ?_
      refine r_iconst (3) X0 cx L_230 rfl ?_
      refine r_icmpne X0 cx L_231 (fun c => absurd c (by decide)) (fun _ => ?_)
      refine r_iconst (3) X0 cx L_234 rfl ?_
      refine r_newarray X0 cx L_235 (hw.get 1 rfl) (3) 3 rfl (Nat.le_refl _) (by decide) (by decide) (by decide) (fun T251 h251 arr ea251 g_arr X251 Ex251 A251 => ?_)
      have A_arr : AJ K.Z h251 arr [0, 0, 0] := AJ.new A251
      refine r_dup X251 cx L_237 rfl ?_
      refine r_iconst (0) X251 cx L_238 rfl ?_
      refine r_lload X251 cx L_239 rfl ?_
      refine r_lastore X251 cx L_241 A_arr (0) rfl (ltb rfl) g_arr (fun T252 h252 X252 W252 N252 => ?_)
      have A_arr : AJ K.Z h252 arr [ia, 0, 0] := N252
      refine r_dup X252 cx L_242 rfl ?_
      refine r_iconst (1) X252 cx L_243 rfl ?_
      refine r_lload X252 cx L_244 rfl ?_
      refine r_lastore X252 cx L_246 A_arr (1) rfl (ltb rfl) g_arr (fun T253 h253 X253 W253 N253 => ?_)
      have A_arr : AJ K.Z h253 arr [ia, s1, 0] := N253
      refine r_dup X253 cx L_247 rfl ?_
      refine r_iconst (2) X253 cx L_248 rfl ?_
      refine r_lload X253 cx L_249 rfl ?_
      refine r_lastore X253 cx L_251 A_arr (2) rfl (ltb rfl) g_arr (fun T254 h254 X254 W254 N254 => ?_)
      have A_arr : AJ K.Z h254 arr [ia, s1, s2] := N254
      refine r_astore #[.val (.long i0), .second, .val (.long i1), .second, .val (.long i2), .second, .val (.long i3), .second, .val (.long i4), .second, .val (.int i5), .val (.int (3 : Int32)), .val (.long ia), .second, .val (.long ib), .second, .val (.long ic), .second, .val (.long id), .second, .val (.long ia), .second, .val (.long s1), .second, .val (.long s2), .second, .val (.long s3), .second, .val (.long s2), .second, .val (.long dr), .second, .val (.ref arr), .unset] X254 cx L_252 rfl ?_
      refine r_goto X254 cx L_254 ?_
      refine r_lload X254 cx L_282 rfl ?_
      refine r_lload X254 cx L_284 rfl ?_
      refine r_lcmp X254 cx L_286 ?_
      refine r_lcmple X254 cx L_287 (fun c287 => ?_) (fun c287 => ?_)
      · refine r_lload X254 cx L_296 rfl ?_
        refine r_lload X254 cx L_298 rfl ?_
        refine r_lcmp X254 cx L_300 ?_
        refine r_lcmple X254 cx L_301 (fun c301 => ?_) (fun c301 => ?_)
        · refine r_lload X254 cx L_310 rfl ?_
          refine r_lload X254 cx L_312 rfl ?_
          refine r_lcmp X254 cx L_314 ?_
          refine r_lcmple X254 cx L_315 (fun c315 => ?_) (fun c315 => ?_)
          · refine r_iconst (3) X254 cx L_324 rfl ?_
            refine r_istore (fun zz => #[.val (.long i0), .second, .val (.long i1), .second, .val (.long i2), .second, .val (.long i3), .second, .val (.long i4), .second, .val (.int i5), .val (.int (3 : Int32)), .val (.long ia), .second, .val (.long ib), .second, .val (.long ic), .second, .val (.long id), .second, .val (.long ia), .second, .val (.long s1), .second, .val (.long s2), .second, .val (.long s3), .second, .val (.long s2), .second, .val (.long dr), .second, .val (.ref arr), .val (.int zz)]) X254 cx L_325 (fun _ => rfl) (fun i255 e_i255 => ?_)
            subst e_i255
            refine r_aload X254 cx L_327 rfl ?_
            refine r_lload X254 cx L_329 rfl ?_
            refine r_static [(.ref arr), (.long dr)] [] X254 cx L_331 (hw.get 2 rfl) (hw.get 3 rfl) (hw.get 4 rfl) (hw.get 5 rfl) (by decide) (con_P8m16 K.l K.Z a0 hw arr dr h254 K.n0 X254.ge [ia, s1, s2] (by simp) A_arr) (lenOf pd_0 rfl) rfl rfl (by decide) (leb rfl) (by decide) (by decide) (fun T256 h256 v256 X256 q256 => ?_) (fun _ _ q => Nat.le_of_eq (congrArg Array.size q.1))
            obtain ⟨rfl, rfl⟩ := q256
            refine r_iload X256 cx L_334 rfl ?_
            refine r_icmpne X256 cx L_336 (fun c336 => ?_) (fun c336 => ?_)
            · exfalso
              apply c336
              simp only [own_bk, Int64.lt_iff_toInt_lt] at *
              first | rfl | (exfalso; omega) | (repeat (first | rfl | (rw [if_pos (by omega)]) | (rw [if_neg (by omega)])))
            · refine r_iconst (1) X256 cx L_339 rfl ?_
              refine r_goto X256 cx L_340 ?_
              refine r_zreturn X256 cx L_344 (by decide) (by decide) ?_
              rfl
          · refine r_iconst (2) X254 cx L_318 rfl ?_
            refine r_istore (fun zz => #[.val (.long i0), .second, .val (.long i1), .second, .val (.long i2), .second, .val (.long i3), .second, .val (.long i4), .second, .val (.int i5), .val (.int (3 : Int32)), .val (.long ia), .second, .val (.long ib), .second, .val (.long ic), .second, .val (.long id), .second, .val (.long ia), .second, .val (.long s1), .second, .val (.long s2), .second, .val (.long s3), .second, .val (.long s2), .second, .val (.long dr), .second, .val (.ref arr), .val (.int zz)]) X254 cx L_319 (fun _ => rfl) (fun i255 e_i255 => ?_)
            subst e_i255
            refine r_goto X254 cx L_321 ?_
            refine r_aload X254 cx L_327 rfl ?_
            refine r_lload X254 cx L_329 rfl ?_
            refine r_static [(.ref arr), (.long dr)] [] X254 cx L_331 (hw.get 2 rfl) (hw.get 3 rfl) (hw.get 4 rfl) (hw.get 5 rfl) (by decide) (con_P8m16 K.l K.Z a0 hw arr dr h254 K.n0 X254.ge [ia, s1, s2] (by simp) A_arr) (lenOf pd_0 rfl) rfl rfl (by decide) (leb rfl) (by decide) (by decide) (fun T256 h256 v256 X256 q256 => ?_) (fun _ _ q => Nat.le_of_eq (congrArg Array.size q.1))
            obtain ⟨rfl, rfl⟩ := q256
            refine r_iload X256 cx L_334 rfl ?_
            refine r_icmpne X256 cx L_336 (fun c336 => ?_) (fun c336 => ?_)
            · exfalso
              apply c336
              simp only [own_bk, Int64.lt_iff_toInt_lt] at *
              first | rfl | (exfalso; omega) | (repeat (first | rfl | (rw [if_pos (by omega)]) | (rw [if_neg (by omega)])))
            · refine r_iconst (1) X256 cx L_339 rfl ?_
              refine r_goto X256 cx L_340 ?_
              refine r_zreturn X256 cx L_344 (by decide) (by decide) ?_
              rfl
        · refine r_iconst (1) X254 cx L_304 rfl ?_
          refine r_istore (fun zz => #[.val (.long i0), .second, .val (.long i1), .second, .val (.long i2), .second, .val (.long i3), .second, .val (.long i4), .second, .val (.int i5), .val (.int (3 : Int32)), .val (.long ia), .second, .val (.long ib), .second, .val (.long ic), .second, .val (.long id), .second, .val (.long ia), .second, .val (.long s1), .second, .val (.long s2), .second, .val (.long s3), .second, .val (.long s2), .second, .val (.long dr), .second, .val (.ref arr), .val (.int zz)]) X254 cx L_305 (fun _ => rfl) (fun i255 e_i255 => ?_)
          subst e_i255
          refine r_goto X254 cx L_307 ?_
          refine r_aload X254 cx L_327 rfl ?_
          refine r_lload X254 cx L_329 rfl ?_
          refine r_static [(.ref arr), (.long dr)] [] X254 cx L_331 (hw.get 2 rfl) (hw.get 3 rfl) (hw.get 4 rfl) (hw.get 5 rfl) (by decide) (con_P8m16 K.l K.Z a0 hw arr dr h254 K.n0 X254.ge [ia, s1, s2] (by simp) A_arr) (lenOf pd_0 rfl) rfl rfl (by decide) (leb rfl) (by decide) (by decide) (fun T256 h256 v256 X256 q256 => ?_) (fun _ _ q => Nat.le_of_eq (congrArg Array.size q.1))
          obtain ⟨rfl, rfl⟩ := q256
          refine r_iload X256 cx L_334 rfl ?_
          refine r_icmpne X256 cx L_336 (fun c336 => ?_) (fun c336 => ?_)
          · exfalso
            apply c336
            simp only [own_bk, Int64.lt_iff_toInt_lt] at *
            first | rfl | (exfalso; omega) | (repeat (first | rfl | (rw [if_pos (by omega)]) | (rw [if_neg (by omega)])))
          · refine r_iconst (1) X256 cx L_339 rfl ?_
            refine r_goto X256 cx L_340 ?_
            refine r_zreturn X256 cx L_344 (by decide) (by decide) ?_
            rfl
      · refine r_iconst (0) X254 cx L_290 rfl ?_
        refine r_istore (fun zz => #[.val (.long i0), .second, .val (.long i1), .second, .val (.long i2), .second, .val (.long i3), .second, .val (.long i4), .second, .val (.int i5), .val (.int (3 : Int32)), .val (.long ia), .second, .val (.long ib), .second, .val (.long ic), .second, .val (.long id), .second, .val (.long ia), .second, .val (.long s1), .second, .val (.long s2), .second, .val (.long s3), .second, .val (.long s2), .second, .val (.long dr), .second, .val (.ref arr), .val (.int zz)]) X254 cx L_291 (fun _ => rfl) (fun i255 e_i255 => ?_)
        subst e_i255
        refine r_goto X254 cx L_293 ?_
        refine r_aload X254 cx L_327 rfl ?_
        refine r_lload X254 cx L_329 rfl ?_
        refine r_static [(.ref arr), (.long dr)] [] X254 cx L_331 (hw.get 2 rfl) (hw.get 3 rfl) (hw.get 4 rfl) (hw.get 5 rfl) (by decide) (con_P8m16 K.l K.Z a0 hw arr dr h254 K.n0 X254.ge [ia, s1, s2] (by simp) A_arr) (lenOf pd_0 rfl) rfl rfl (by decide) (leb rfl) (by decide) (by decide) (fun T256 h256 v256 X256 q256 => ?_) (fun _ _ q => Nat.le_of_eq (congrArg Array.size q.1))
        obtain ⟨rfl, rfl⟩ := q256
        refine r_iload X256 cx L_334 rfl ?_
        refine r_icmpne X256 cx L_336 (fun c336 => ?_) (fun c336 => ?_)
        · exfalso
          apply c336
          simp only [own_bk, Int64.lt_iff_toInt_lt] at *
          first | rfl | (exfalso; omega) | (repeat (first | rfl | (rw [if_pos (by omega)]) | (rw [if_neg (by omega)])))
        · refine r_iconst (1) X256 cx L_339 rfl ?_
          refine r_goto X256 cx L_340 ?_
          refine r_zreturn X256 cx L_344 (by decide) (by decide) ?_
          rfl
    · refine r_iconst (1) X0 cx L_159 rfl ?_
      refine r_zreturn X0 cx L_160 (by decide) (by decide) ?_
      rfl
  · obtain rfl : nn = (4 : Int32) := e_nn.trans m3
    refine r_iload X0 cx L_115 rfl ?_
    refine r_iconst (1) X0 cx L_117 rfl ?_
    refine r_icmpne X0 cx L_118 (fun _ => ?_) (fun c => absurd c (by decide))
    refine r_iload X0 cx L_126 rfl ?_
    refine r_iconst (2) X0 cx L_128 rfl ?_
    refine r_icmpne X0 cx L_129 (fun _ => ?_) (fun c => absurd c (by decide))
    refine r_iload X0 cx L_137 rfl ?_
    refine r_iconst (3) X0 cx L_139 rfl ?_
    refine r_icmpne X0 cx L_140 (fun _ => ?_) (fun c => absurd c (by decide))
    refine r_lload X0 cx L_148 rfl ?_
    refine r_lstore (fun zz => #[.val (.long i0), .second, .val (.long i1), .second, .val (.long i2), .second, .val (.long i3), .second, .val (.long i4), .second, .val (.int i5), .val (.int (4 : Int32)), .val (.long ia), .second, .val (.long ib), .second, .val (.long ic), .second, .val (.long id), .second, .val (.long ia), .second, .val (.long s1), .second, .val (.long s2), .second, .val (.long s3), .second, .val (.long zz), .second, .unset, .unset, .unset, .unset]) X0 cx L_150 (fun _ => rfl) (fun last e_last => ?_)
    replace e_last := e_last.symm
    subst e_last
    refine r_lload X0 cx L_152 rfl ?_
    refine r_lconst (0) X0 cx L_154 rfl ?_
    refine r_lcmp X0 cx L_155 ?_
    refine r_lcmpgt X0 cx L_156 (fun c156 => ?_) (fun c156 => ?_)
    · have kj183 : (∀ v : Int64, (v < s3) → Run K (fun v _ => v = some (.int 1)) T0 (mkF K.m 183 #[.val (.long i0), .second, .val (.long i1), .second, .val (.long i2), .second, .val (.long i3), .second, .val (.long i4), .second, .val (.int i5), .val (.int (4 : Int32)), .val (.long ia), .second, .val (.long ib), .second, .val (.long ic), .second, .val (.long id), .second, .val (.long ia), .second, .val (.long s1), .second, .val (.long s2), .second, .val (.long s3), .second, .val (.long s3), .second, .unset, .unset, .unset, .unset] (.long v :: []))) → Run K (fun v _ => v = some (.int 1)) T0 (mkF K.m 161 #[.val (.long i0), .second, .val (.long i1), .second, .val (.long i2), .second, .val (.long i3), .second, .val (.long i4), .second, .val (.int i5), .val (.int (4 : Int32)), .val (.long ia), .second, .val (.long ib), .second, .val (.long ic), .second, .val (.long id), .second, .val (.long ia), .second, .val (.long s1), .second, .val (.long s2), .second, .val (.long s3), .second, .val (.long s3), .second, .unset, .unset, .unset, .unset] []) := by
        intro kj
        refine r_lload X0 cx L_161 rfl ?_
        refine r_lload X0 cx L_163 rfl ?_
        refine r_lcmp X0 cx L_165 ?_
        refine r_lcmpge X0 cx L_166 (fun c166 => ?_) (fun c166 => ?_)
        · refine r_lload X0 cx L_174 rfl ?_
          refine r_ldc2 X0 cx L_176 (hw.get 6 rfl) ?_
          refine r_land X0 cx L_179 ?_
          refine r_lload X0 cx L_180 rfl ?_
          refine r_lrem X0 cx L_182 (by rintro rfl; exact absurd c156 (by decide)) ?_
          exact kj _ (by rw [Int64.lt_iff_toInt_lt, own_rem _ _ (own_and _ _ (by decide)).1 (Int64.lt_iff_toInt_lt.mp c156)]; exact Int.emod_lt_of_pos _ (Int64.lt_iff_toInt_lt.mp c156))
        · refine r_lload X0 cx L_169 rfl ?_
          refine r_goto X0 cx L_171 ?_
          exact kj _ c166
      refine kj183 (fun dr p_dr => ?_)
      refine r_lstore (fun zz => #[.val (.long i0), .second, .val (.long i1), .second, .val (.long i2), .second, .val (.long i3), .second, .val (.long i4), .second, .val (.int i5), .val (.int (4 : Int32)), .val (.long ia), .second, .val (.long ib), .second, .val (.long ic), .second, .val (.long id), .second, .val (.long ia), .second, .val (.long s1), .second, .val (.long s2), .second, .val (.long s3), .second, .val (.long s3), .second, .val (.long zz), .second, .unset, .unset]) X0 cx L_183 (fun _ => rfl) (fun dr e_dr => ?_)
      replace e_dr := e_dr.symm
      subst e_dr
      refine r_iload X0 cx L_185 rfl ?_
      refine r_iconst (1) X0 cx L_187 rfl ?_
      refine r_icmpne X0 cx L_188 (fun _ => ?_) (fun c => absurd c (by decide))
      refine r_iload X0 cx L_204 rfl ?_
      refine r_iconst (2) X0 cx L_206 rfl ?_
      refine r_icmpne X0 cx L_207 (fun _ => ?_) (fun c => absurd c (by decide))
      refine r_iload X0 cx L_228 rfl ?_
      refine r_iconst (3) X0 cx L_230 rfl ?_
      refine r_icmpne X0 cx L_231 (fun _ => ?_) (fun c => absurd c (by decide))
      refine r_iconst (4) X0 cx L_257 rfl ?_
      refine r_newarray X0 cx L_258 (hw.get 1 rfl) (4) 4 rfl (Nat.le_refl _) (by decide) (by decide) (by decide) (fun T251 h251 arr ea251 g_arr X251 Ex251 A251 => ?_)
      have A_arr : AJ K.Z h251 arr [0, 0, 0, 0] := AJ.new A251
      refine r_dup X251 cx L_260 rfl ?_
      refine r_iconst (0) X251 cx L_261 rfl ?_
      refine r_lload X251 cx L_262 rfl ?_
      refine r_lastore X251 cx L_264 A_arr (0) rfl (ltb rfl) g_arr (fun T252 h252 X252 W252 N252 => ?_)
      have A_arr : AJ K.Z h252 arr [ia, 0, 0, 0] := N252
      refine r_dup X252 cx L_265 rfl ?_
      refine r_iconst (1) X252 cx L_266 rfl ?_
      refine r_lload X252 cx L_267 rfl ?_
      refine r_lastore X252 cx L_269 A_arr (1) rfl (ltb rfl) g_arr (fun T253 h253 X253 W253 N253 => ?_)
      have A_arr : AJ K.Z h253 arr [ia, s1, 0, 0] := N253
      refine r_dup X253 cx L_270 rfl ?_
      refine r_iconst (2) X253 cx L_271 rfl ?_
      refine r_lload X253 cx L_272 rfl ?_
      refine r_lastore X253 cx L_274 A_arr (2) rfl (ltb rfl) g_arr (fun T254 h254 X254 W254 N254 => ?_)
      have A_arr : AJ K.Z h254 arr [ia, s1, s2, 0] := N254
      refine r_dup X254 cx L_275 rfl ?_
      refine r_iconst (3) X254 cx L_276 rfl ?_
      refine r_lload X254 cx L_277 rfl ?_
      refine r_lastore X254 cx L_279 A_arr (3) rfl (ltb rfl) g_arr (fun T255 h255 X255 W255 N255 => ?_)
      have A_arr : AJ K.Z h255 arr [ia, s1, s2, s3] := N255
      refine r_astore #[.val (.long i0), .second, .val (.long i1), .second, .val (.long i2), .second, .val (.long i3), .second, .val (.long i4), .second, .val (.int i5), .val (.int (4 : Int32)), .val (.long ia), .second, .val (.long ib), .second, .val (.long ic), .second, .val (.long id), .second, .val (.long ia), .second, .val (.long s1), .second, .val (.long s2), .second, .val (.long s3), .second, .val (.long s3), .second, .val (.long dr), .second, .val (.ref arr), .unset] X255 cx L_280 rfl ?_
      refine r_lload X255 cx L_282 rfl ?_
      refine r_lload X255 cx L_284 rfl ?_
      refine r_lcmp X255 cx L_286 ?_
      refine r_lcmple X255 cx L_287 (fun c287 => ?_) (fun c287 => ?_)
      · refine r_lload X255 cx L_296 rfl ?_
        refine r_lload X255 cx L_298 rfl ?_
        refine r_lcmp X255 cx L_300 ?_
        refine r_lcmple X255 cx L_301 (fun c301 => ?_) (fun c301 => ?_)
        · refine r_lload X255 cx L_310 rfl ?_
          refine r_lload X255 cx L_312 rfl ?_
          refine r_lcmp X255 cx L_314 ?_
          refine r_lcmple X255 cx L_315 (fun c315 => ?_) (fun c315 => ?_)
          · refine r_iconst (3) X255 cx L_324 rfl ?_
            refine r_istore (fun zz => #[.val (.long i0), .second, .val (.long i1), .second, .val (.long i2), .second, .val (.long i3), .second, .val (.long i4), .second, .val (.int i5), .val (.int (4 : Int32)), .val (.long ia), .second, .val (.long ib), .second, .val (.long ic), .second, .val (.long id), .second, .val (.long ia), .second, .val (.long s1), .second, .val (.long s2), .second, .val (.long s3), .second, .val (.long s3), .second, .val (.long dr), .second, .val (.ref arr), .val (.int zz)]) X255 cx L_325 (fun _ => rfl) (fun i256 e_i256 => ?_)
            subst e_i256
            refine r_aload X255 cx L_327 rfl ?_
            refine r_lload X255 cx L_329 rfl ?_
            refine r_static [(.ref arr), (.long dr)] [] X255 cx L_331 (hw.get 2 rfl) (hw.get 3 rfl) (hw.get 4 rfl) (hw.get 5 rfl) (by decide) (con_P8m16 K.l K.Z a0 hw arr dr h255 K.n0 X255.ge [ia, s1, s2, s3] (by simp) A_arr) (lenOf pd_0 rfl) rfl rfl (by decide) (leb rfl) (by decide) (by decide) (fun T257 h257 v257 X257 q257 => ?_) (fun _ _ q => Nat.le_of_eq (congrArg Array.size q.1))
            obtain ⟨rfl, rfl⟩ := q257
            refine r_iload X257 cx L_334 rfl ?_
            refine r_icmpne X257 cx L_336 (fun c336 => ?_) (fun c336 => ?_)
            · exfalso
              apply c336
              simp only [own_bk, Int64.lt_iff_toInt_lt] at *
              first | rfl | (exfalso; omega) | (repeat (first | rfl | (rw [if_pos (by omega)]) | (rw [if_neg (by omega)])))
            · refine r_iconst (1) X257 cx L_339 rfl ?_
              refine r_goto X257 cx L_340 ?_
              refine r_zreturn X257 cx L_344 (by decide) (by decide) ?_
              rfl
          · refine r_iconst (2) X255 cx L_318 rfl ?_
            refine r_istore (fun zz => #[.val (.long i0), .second, .val (.long i1), .second, .val (.long i2), .second, .val (.long i3), .second, .val (.long i4), .second, .val (.int i5), .val (.int (4 : Int32)), .val (.long ia), .second, .val (.long ib), .second, .val (.long ic), .second, .val (.long id), .second, .val (.long ia), .second, .val (.long s1), .second, .val (.long s2), .second, .val (.long s3), .second, .val (.long s3), .second, .val (.long dr), .second, .val (.ref arr), .val (.int zz)]) X255 cx L_319 (fun _ => rfl) (fun i256 e_i256 => ?_)
            subst e_i256
            refine r_goto X255 cx L_321 ?_
            refine r_aload X255 cx L_327 rfl ?_
            refine r_lload X255 cx L_329 rfl ?_
            refine r_static [(.ref arr), (.long dr)] [] X255 cx L_331 (hw.get 2 rfl) (hw.get 3 rfl) (hw.get 4 rfl) (hw.get 5 rfl) (by decide) (con_P8m16 K.l K.Z a0 hw arr dr h255 K.n0 X255.ge [ia, s1, s2, s3] (by simp) A_arr) (lenOf pd_0 rfl) rfl rfl (by decide) (leb rfl) (by decide) (by decide) (fun T257 h257 v257 X257 q257 => ?_) (fun _ _ q => Nat.le_of_eq (congrArg Array.size q.1))
            obtain ⟨rfl, rfl⟩ := q257
            refine r_iload X257 cx L_334 rfl ?_
            refine r_icmpne X257 cx L_336 (fun c336 => ?_) (fun c336 => ?_)
            · exfalso
              apply c336
              simp only [own_bk, Int64.lt_iff_toInt_lt] at *
              first | rfl | (exfalso; omega) | (repeat (first | rfl | (rw [if_pos (by omega)]) | (rw [if_neg (by omega)])))
            · refine r_iconst (1) X257 cx L_339 rfl ?_
              refine r_goto X257 cx L_340 ?_
              refine r_zreturn X257 cx L_344 (by decide) (by decide) ?_
              rfl
        · refine r_iconst (1) X255 cx L_304 rfl ?_
          refine r_istore (fun zz => #[.val (.long i0), .second, .val (.long i1), .second, .val (.long i2), .second, .val (.long i3), .second, .val (.long i4), .second, .val (.int i5), .val (.int (4 : Int32)), .val (.long ia), .second, .val (.long ib), .second, .val (.long ic), .second, .val (.long id), .second, .val (.long ia), .second, .val (.long s1), .second, .val (.long s2), .second, .val (.long s3), .second, .val (.long s3), .second, .val (.long dr), .second, .val (.ref arr), .val (.int zz)]) X255 cx L_305 (fun _ => rfl) (fun i256 e_i256 => ?_)
          subst e_i256
          refine r_goto X255 cx L_307 ?_
          refine r_aload X255 cx L_327 rfl ?_
          refine r_lload X255 cx L_329 rfl ?_
          refine r_static [(.ref arr), (.long dr)] [] X255 cx L_331 (hw.get 2 rfl) (hw.get 3 rfl) (hw.get 4 rfl) (hw.get 5 rfl) (by decide) (con_P8m16 K.l K.Z a0 hw arr dr h255 K.n0 X255.ge [ia, s1, s2, s3] (by simp) A_arr) (lenOf pd_0 rfl) rfl rfl (by decide) (leb rfl) (by decide) (by decide) (fun T257 h257 v257 X257 q257 => ?_) (fun _ _ q => Nat.le_of_eq (congrArg Array.size q.1))
          obtain ⟨rfl, rfl⟩ := q257
          refine r_iload X257 cx L_334 rfl ?_
          refine r_icmpne X257 cx L_336 (fun c336 => ?_) (fun c336 => ?_)
          · exfalso
            apply c336
            simp only [own_bk, Int64.lt_iff_toInt_lt] at *
            first | rfl | (exfalso; omega) | (repeat (first | rfl | (rw [if_pos (by omega)]) | (rw [if_neg (by omega)])))
          · refine r_iconst (1) X257 cx L_339 rfl ?_
            refine r_goto X257 cx L_340 ?_
            refine r_zreturn X257 cx L_344 (by decide) (by decide) ?_
            rfl
      · refine r_iconst (0) X255 cx L_290 rfl ?_
        refine r_istore (fun zz => #[.val (.long i0), .second, .val (.long i1), .second, .val (.long i2), .second, .val (.long i3), .second, .val (.long i4), .second, .val (.int i5), .val (.int (4 : Int32)), .val (.long ia), .second, .val (.long ib), .second, .val (.long ic), .second, .val (.long id), .second, .val (.long ia), .second, .val (.long s1), .second, .val (.long s2), .second, .val (.long s3), .second, .val (.long s3), .second, .val (.long dr), .second, .val (.ref arr), .val (.int zz)]) X255 cx L_291 (fun _ => rfl) (fun i256 e_i256 => ?_)
        subst e_i256
        refine r_goto X255 cx L_293 ?_
        refine r_aload X255 cx L_327 rfl ?_
        refine r_lload X255 cx L_329 rfl ?_
        refine r_static [(.ref arr), (.long dr)] [] X255 cx L_331 (hw.get 2 rfl) (hw.get 3 rfl) (hw.get 4 rfl) (hw.get 5 rfl) (by decide) (con_P8m16 K.l K.Z a0 hw arr dr h255 K.n0 X255.ge [ia, s1, s2, s3] (by simp) A_arr) (lenOf pd_0 rfl) rfl rfl (by decide) (leb rfl) (by decide) (by decide) (fun T257 h257 v257 X257 q257 => ?_) (fun _ _ q => Nat.le_of_eq (congrArg Array.size q.1))
        obtain ⟨rfl, rfl⟩ := q257
        refine r_iload X257 cx L_334 rfl ?_
        refine r_icmpne X257 cx L_336 (fun c336 => ?_) (fun c336 => ?_)
        · exfalso
          apply c336
          simp only [own_bk, Int64.lt_iff_toInt_lt] at *
          first | rfl | (exfalso; omega) | (repeat (first | rfl | (rw [if_pos (by omega)]) | (rw [if_neg (by omega)])))
        · refine r_iconst (1) X257 cx L_339 rfl ?_
          refine r_goto X257 cx L_340 ?_
          refine r_zreturn X257 cx L_344 (by decide) (by decide) ?_
          rfl
    · refine r_iconst (1) X0 cx L_159 rfl ?_
      refine r_zreturn X0 cx L_160 (by decide) (by decide) ?_
      rfl
set_option maxRecDepth 65536 in
set_option maxHeartbeats 40000000 in
theorem comes_1 {Post : Tables → Env → Array Value → State → Outcome → State → Prop} (hpost : ∀ tb e args s v u, (limb_1_1.after args s (.returned v) u = true ∧ limb_1_2.after args s (.returned v) u = true ∧ True) → FrameEnd s (.returned v) u (Jvm.fieldLocs frame_1_writes args s ++ Jvm.arrayLocs frame_1_arrays args s ++ Jvm.staticLocs frame_1_statics s) 16 128 → Post tb e args s (.returned v) u) :
    ArmFor flags0 classFile x code maxLocals ret World_1 tables_1 room_1 Calls_1 rest_1 Pre_1 Post := by
  intro l hfl _ _ p e ha hc hk s m args below hf hA hF happ hP
  obtain ⟨hcalls, hrest, hpre⟩ := hP
  obtain ⟨-, -, -, hnamed, -, -, -, hat⟩ := (Spec.applies_iff hf).mp happ
  obtain ⟨hg, hn⟩ := and_e (Cond.before_iff.mp (show (Jvm.Cond.and given_1 narrow_1).before args s = true from hpre))
  obtain ⟨gc, r0⟩ := and_e hg
  obtain ⟨g0, r1⟩ := and_e r0
  obtain ⟨g1, r2⟩ := and_e r1
  obtain ⟨g2, r3⟩ := and_e r2
  obtain ⟨g3, r4⟩ := and_e r3
  obtain ⟨g4, r5⟩ := and_e r4
  obtain ⟨w0, w1, w2, w3, w4, w5, rfl⟩ : ∃ w0 w1 w2 w3 w4 w5 : Value, args = #[w0, w1, w2, w3, w4, w5] := by
    have hs : args.size = 6 := by simpa [Cond.value, given_1] using gc
    obtain ⟨L⟩ := args
    match L, hs with
    | [w0, w1, w2, w3, w4, w5], _ => exact ⟨w0, w1, w2, w3, w4, w5, rfl⟩
  have hw : Tb tables_1 #[w0, w1, w2, w3, w4, w5] s := fun d (hd : d ∈ tables_1) => atoms_spec (ws := Jvm.Cond.code x code maxLocals ret :: tables_1) hat d (List.mem_cons_of_mem _ hd)
  obtain ⟨i0, ei0⟩ := isL_v g0
  obtain rfl : w0 = (.long i0) := Option.some.inj ei0
  obtain ⟨i1, ei1⟩ := isL_v g1
  obtain rfl : w1 = (.long i1) := Option.some.inj ei1
  obtain ⟨i2, ei2⟩ := isL_v g2
  obtain rfl : w2 = (.long i2) := Option.some.inj ei2
  obtain ⟨i3, ei3⟩ := isL_v g3
  obtain rfl : w3 = (.long i3) := Option.some.inj ei3
  obtain ⟨i4, ei4⟩ := isL_v g4
  obtain rfl : w4 = (.long i4) := Option.some.inj ei4
  obtain ⟨i5, ei5⟩ := is_v r5
  obtain rfl : w5 = (.int i5) := Option.some.inj ei5
  obtain ⟨n, o, h1, h2, h3, _, L, rfl, ⟨rfl, N⟩, hq⟩ := con_L l s _ hw i0 i1 i2 i3 i4 i5 s.heap s.heap.size (Nat.le_refl _) tables_1 p e ha hc hk s m _ below hf ((Spec.applies_iff_loose hf).mp happ).1 ⟨rfl, State.Warmed39.refl s, rfl⟩ trivial
  refine ⟨n, _, h1, h2, h3, hpost _ _ _ _ _ _ ⟨Cond.after_iff.mpr rfl, Cond.after_iff.mpr (eq_i res_at (Term.int_eval (1)) rfl), trivial⟩ ⟨hq.1, hq.2.1, (hq.2.2.sift fun y hy => Or.inr (N y hy)).mono (by decide) (by decide)⟩⟩
theorem main_1_1 : Claimed_1_1 := comes_1 fun _ _ _ _ _ _ h hF => ⟨h.1, hF⟩
theorem main_1_2 : Claimed_1_2 := comes_1 fun _ _ _ _ _ _ h hF => ⟨h.2.1, hF⟩
end Jvm.Pilot.@@N@@
namespace Jvm.Pilot.@@N@@
open Jvm Jvm.ClassFile Sem Op Lib Jvm.Free Jvm.Stand Jvm.Pilot.@@N@@.Jvm.D
/-! MADE BY PROGRAM (witnessworld.py) out of the Statement's table words and the real class files: 11 classes; the members and pool entries that the words name. The judged class is class 1, her method 1. -/
namespace start1
open Jvm.ClassFile
def u (s : String) : CpInfo := .utf8 (stringToUtf16 s)
/-- a pool by its gaps: so many unusable entries, then the entry; so many at the end -/
def gap : Nat → List CpInfo → List CpInfo
  | 0, r => r
  | n + 1, r => .unusable :: gap n r
def poolList (es : List (Nat × CpInfo)) (last : Nat) : List CpInfo := es.foldr (fun e r => gap e.1 (e.2 :: r)) (gap last [])
def pool (es : List (Nat × CpInfo)) (last : Nat) : Array CpInfo := ⟨poolList es last⟩
def fileOf (pool : Array CpInfo) (this : Nat) (attrs : Array Attribute := #[]) (ms : Array MethodInfo := #[]) (fl : Nat := 33) (sup : Nat := 0) (ifs : Array Nat := #[]) (fds : Array FieldInfo := #[]) : ClassFile where
  minorVersion := 0
  majorVersion := 65
  constantPool := pool
  accessFlags := fl
  thisClass := this
  superClass := sup
  interfaces := ifs
  fields := fds
  methods := ms
  attributes := attrs
def plain (name : String) (sup : Option ClassId) : Class where
  name := name
  kind := .ordinary
  loader := none
  accessFlags := 33
  super := sup
  interfaces := #[]
  cf := none
  fields := #[]
  methods := #[]
  instanceTypes := #[]
  staticTypes := #[]
  resolved := #[]
  callSites := []
  init := .initialized
  statics := none
  mirror := none

def pool0 : Array CpInfo := pool [(5, u "<init>"), (0, u "()V"), (1, .class_ 10), (1, u "java/lang/Object")] 113

def k0m0 : Method := { name := "<init>", desc := "()V", sig := { parameters := [], returnType := none }, accessFlags := 1, code := none }
/-- java/lang/Object -/
def k0 : Class := { plain "java/lang/Object" none with
  accessFlags := 33
  interfaces := #[]
  cf := some (fileOf pool0 8 #[] #[{ accessFlags := 1, nameIndex := 5, descriptorIndex := 6, attributes := #[] }] 33 0 #[] #[])
  fields := #[]
  methods := #[k0m0]
  instanceTypes := #[]
  staticTypes := #[]
  resolved := Array.replicate 124 none
  statics := none }

def pool1 : Array CpInfo := pool [(2, .class_ 4), (1, u "java/lang/Object"), (0, u "<init>"), (0, u "()V"), (0, .long 2305843009213693951), (3, .long 9223372036854775807), (1, .methodref 14 15), (0, .class_ 16), (0, .nameAndType 17 18), (0, u "com/example/kindred/kindred/BucketLayout"), (0, u "bucketAt"), (0, u "([JJ)I"), (0, .class_ 20), (0, u "com/example/kindred/kindred/BucketLayoutBucketAtPinLaw"), (2, u "law"), (0, u "(JJJJJI)Z")] 5

def k1m0 : Method := { name := "<init>", desc := "()V", sig := { parameters := [], returnType := none }, accessFlags := 2, code := none }
def k1c1 : Code := { maxStack := 5, maxLocals := 34, code := code, exceptionTable := #[], attributes := #[] }
def k1m1 : Method := { name := "law", desc := "(JJJJJI)Z", sig := { parameters := [.long, .long, .long, .long, .long, .int], returnType := some .boolean }, accessFlags := 9, code := some k1c1 }
/-- com/example/kindred/kindred/BucketLayoutBucketAtPinLaw -/
def k1 : Class := { plain "com/example/kindred/kindred/BucketLayoutBucketAtPinLaw" (some 0) with
  accessFlags := 49
  interfaces := #[]
  cf := some (fileOf pool1 19 #[] #[{ accessFlags := 2, nameIndex := 5, descriptorIndex := 6, attributes := #[] }, { accessFlags := 9, nameIndex := 23, descriptorIndex := 24, attributes := #[] }] 49 2 #[] #[])
  fields := #[]
  methods := #[k1m0, k1m1]
  instanceTypes := #[]
  staticTypes := #[]
  resolved := Array.replicate 30 none
  statics := none }

def pool2 : Array CpInfo := pool [(8, .class_ 10), (1, u "com/example/kindred/kindred/BucketLayout"), (3, .class_ 16), (1, u "java/lang/Object"), (3, u "_pairing"), (0, u "Lcom/example/kindred/kindred/Pairing;"), (2, u "_members"), (0, u "[I"), (2, u "_starts"), (2, u "_pairSums"), (0, u "[J"), (49, u "bucketAt"), (0, u "([JJ)I"), (12, .class_ 97), (0, u "com/example/kindred/kindred/BucketLayout$Pair"), (4, .class_ 104), (1, u "com/example/kindred/kindred/BucketLayout$Splitter")] 43

def k2c0 : Code := { maxStack := 4, maxLocals := 6, code := prog_8_method_16_code, exceptionTable := #[], attributes := #[] }
def k2m0 : Method := { name := "bucketAt", desc := "([JJ)I", sig := { parameters := [(.array .long), .long], returnType := some .int }, accessFlags := 8, code := some k2c0 }
/-- com/example/kindred/kindred/BucketLayout -/
def k2 : Class := { plain "com/example/kindred/kindred/BucketLayout" (some 0) with
  accessFlags := 48
  interfaces := #[]
  cf := some (fileOf pool2 8 #[.nestMembers #[102, 96]] #[{ accessFlags := 8, nameIndex := 82, descriptorIndex := 83, attributes := #[] }] 48 14 #[] #[{ accessFlags := 18, nameIndex := 20, descriptorIndex := 21, attributes := #[] }, { accessFlags := 18, nameIndex := 24, descriptorIndex := 25, attributes := #[] }, { accessFlags := 18, nameIndex := 28, descriptorIndex := 25, attributes := #[] }, { accessFlags := 18, nameIndex := 31, descriptorIndex := 32, attributes := #[] }])
  fields := #[{ name := "_pairing", type := (.object "com/example/kindred/kindred/Pairing"), accessFlags := 18, slot := 0, constantValue := 0 }, { name := "_members", type := (.array .int), accessFlags := 18, slot := 1, constantValue := 0 }, { name := "_starts", type := (.array .int), accessFlags := 18, slot := 2, constantValue := 0 }, { name := "_pairSums", type := (.array .long), accessFlags := 18, slot := 3, constantValue := 0 }]
  methods := #[k2m0]
  instanceTypes := #[(.object "com/example/kindred/kindred/Pairing"), (.array .int), (.array .int), (.array .long)]
  staticTypes := #[]
  resolved := Array.replicate 148 none
  statics := none }

def pool3 : Array CpInfo := pool [(1, u "java/lang/Cloneable"), (0, .class_ 1), (0, u "java/lang/Object"), (0, .class_ 3)] 3

/-- java/lang/Cloneable -/
def k3 : Class := { plain "java/lang/Cloneable" (some 0) with
  accessFlags := 1537
  interfaces := #[]
  cf := some (fileOf pool3 2 #[] #[] 1537 4 #[] #[])
  fields := #[]
  methods := #[]
  instanceTypes := #[]
  staticTypes := #[]
  resolved := Array.replicate 8 none
  statics := none }

def pool4 : Array CpInfo := pool [(1, u "java/io/Serializable"), (0, .class_ 1), (0, u "java/lang/Object"), (0, .class_ 3)] 3

/-- java/io/Serializable -/
def k4 : Class := { plain "java/io/Serializable" (some 0) with
  accessFlags := 1537
  interfaces := #[]
  cf := some (fileOf pool4 2 #[] #[] 1537 4 #[] #[])
  fields := #[]
  methods := #[]
  instanceTypes := #[]
  staticTypes := #[]
  resolved := Array.replicate 8 none
  statics := none }

/-- the primitive byte -/
def k5 : Class := { plain "byte" none with kind := .primitive 'B', accessFlags := 0x411 }
/-- [B -/
def k6 : Class := { plain "[B" (some 0) with kind := .array 5 .byte, interfaces := #[3, 4], accessFlags := 1041 }

/-- the primitive int -/
def k7 : Class := { plain "int" none with kind := .primitive 'I', accessFlags := 0x411 }
/-- [I -/
def k8 : Class := { plain "[I" (some 0) with kind := .array 7 .int, interfaces := #[3, 4], accessFlags := 1041 }

/-- the primitive long -/
def k9 : Class := { plain "long" none with kind := .primitive 'J', accessFlags := 0x411 }
/-- [J -/
def k10 : Class := { plain "[J" (some 0) with kind := .array 9 .long, interfaces := #[3, 4], accessFlags := 1041 }

def heap : Heap := #[]
def classes : Array Class := #[k0, k1, k2, k3, k4, k5, k6, k7, k8, k9, k10]
def interned : List (Array UInt16 × Addr) := []
def slotsUsed : Nat := 0
def theMethod : MethodId := ⟨1, 1⟩
def args0 : Array Value := #[.long 5, .long 6, .long 7, .long 8, .long 9, .int 10]
def aboutOver (below : List Frame) : State where
  vm := { classes := classes, interned := interned.toArray }
  heap := heap
  slotsUsed := slotsUsed
  threads := #[{ frames := .invoking theMethod args0 :: below }]
def below0 : List Frame := [.native { method := ⟨0, 0⟩, args := #[] }]
def about1 : State := aboutOver below0
def p0 : Program := .bare "" "" ""
def e0 : Env := launch0.env 0 0 0
theorem w_frames : about1.frames = Frame.invoking theMethod args0 :: below0 := rfl
set_option maxRecDepth 65536 in
theorem w_args : argsFit about1.vm theMethod args0 = true := by decide +kernel
set_option maxRecDepth 65536 in
theorem w_heap : heapFits about1 = true := by decide +kernel
set_option maxRecDepth 65536 in
theorem w_runnable : about1.curStatus? = some .runnable := by decide +kernel
set_option maxRecDepth 65536 in
theorem w_alone : about1.alone = true := by decide +kernel
set_option maxRecDepth 65536 in
theorem w_named : about1.methodNamed? x = some theMethod := by decide +kernel
set_option maxRecDepth 65536 in
theorem w_hears : about1.hears theMethod below0 = true := by decide +kernel
set_option maxRecDepth 65536 in
theorem w_ripe : about1.ripe theMethod args0 below0 = true := by decide +kernel
theorem w_running : about1.status = .running := rfl
set_option maxRecDepth 65536 in
theorem w_room : about1.hasRoom e0.platform room_1 = true :=
  launch0.hasRoom_least _ room_1 (by decide +kernel) (by decide +kernel) (by decide +kernel) (by decide +kernel) (by decide +kernel) (by decide +kernel)
theorem allAtoms_all (ts : List Jvm.Cond) (a : Array Jvm.Value) (st : Jvm.State) : (allAtoms ts).before a st = ts.all (fun c => c.before a st) := by
  induction ts with
  | nil => rfl
  | cons c t ih =>
    show (Jvm.Cond.and c (allAtoms t)).before a st = _
    rw [Jvm.Cond.before_and, ih, List.all_cons]
def words1 : List Jvm.Cond := Jvm.Cond.code x code maxLocals ret :: tables_1
/-- a 'code' word, met by the world's own term for the bytes: nothing is compared byte by byte -/
theorem code_word {y : MethodName} {bytes : ByteArray} {mx : Nat} {rt : Option FieldType} {a : Array Value} {s : State} {m : MethodId} {meth : Method} {c : Code} (h1 : s.methodNamed? y = some m) (h2 : s.vm.method? m = some meth) (h3 : meth.code = some c) (h4 : c.code = bytes)
    (h5 : (c.maxLocals == mx && c.exceptionTable.isEmpty && decide (c.maxStack ≤ mostOperands) && decide (meth.sig.returnType = rt) && !meth.locks && decide (parseMethodDescriptor y.desc = some meth.sig)) = true) : (Jvm.Cond.code y bytes mx rt).before a s = true := by
  simp only [Bool.and_eq_true, beq_iff_eq, Bool.not_eq_true', decide_eq_true_eq] at h5
  obtain ⟨⟨⟨⟨⟨g1, g2⟩, g3⟩, g4⟩, g5⟩, g6⟩ := h5
  simp [Cond.before, Cond.holds, Cond.value, h1, h2, h3, h4, g1, g2, g3, g4, g5, g6]
def isCode : Jvm.Cond → Bool
  | .code _ _ _ _ => true
  | _ => false
theorem all_split {L : List Jvm.Cond} {P : Jvm.Cond → Bool} (h1 : L.all (fun c => isCode c || P c) = true) (h2 : ∀ c ∈ L.filter isCode, P c = true) : L.all P = true := by
  refine List.all_eq_true.mpr fun c hc => ?_
  have h := List.all_eq_true.mp h1 c hc
  rcases Bool.eq_false_or_eq_true (isCode c) with hi | hi
  · exact h2 c (List.mem_filter.mpr ⟨hc, hi⟩)
  · simpa [hi] using h
set_option maxRecDepth 65536 in
theorem w_c0 : (Jvm.Cond.code x code maxLocals ret).before args0 about1 = true := code_word (m := ⟨1, 1⟩) (meth := k1m1) (c := k1c1) (by decide +kernel) rfl rfl rfl (by decide +kernel)
set_option maxRecDepth 65536 in
theorem w_c1 : (Jvm.Cond.code ({ cls := "com/example/kindred/kindred/BucketLayout", name := "bucketAt", desc := "([JJ)I" } : Jvm.MethodName) prog_8_method_16_code (6 : Nat) (Option.some Jvm.ClassFile.FieldType.int)).before args0 about1 = true := code_word (m := ⟨2, 0⟩) (meth := k2m0) (c := k2c0) (by decide +kernel) rfl rfl rfl (by decide +kernel)
def codes1 : List Jvm.Cond := [Jvm.Cond.code x code maxLocals ret, Jvm.Cond.code ({ cls := "com/example/kindred/kindred/BucketLayout", name := "bucketAt", desc := "([JJ)I" } : Jvm.MethodName) prog_8_method_16_code (6 : Nat) (Option.some Jvm.ClassFile.FieldType.int)]
set_option maxRecDepth 65536 in
theorem codes_eq : words1.filter isCode = codes1 := rfl
theorem w_codes : ∀ c ∈ words1.filter isCode, c.before args0 about1 = true := by
  rw [codes_eq]
  intro c hc
  simp only [codes1, List.mem_cons, List.not_mem_nil, or_false] at hc
  rcases hc with rfl | rfl
  · exact w_c0
  · exact w_c1
set_option maxRecDepth 65536 in
theorem w_t1 : words1.all (fun c => isCode c || c.before args0 about1) = true := by decide +kernel
theorem w_tables : (allAtoms (Jvm.Cond.code x code maxLocals ret :: tables_1)).before args0 about1 = true := by
  rw [allAtoms_all]
  show words1.all (fun c => c.before args0 about1) = true
  refine all_split ?_ w_codes
  rw [w_t1]
set_option maxRecDepth 65536 in
theorem w_case : (Jvm.Cond.and given_1 narrow_1).before args0 about1 = true := by decide +kernel
theorem w_applies : (headSpec (Jvm.Cond.code x code maxLocals ret :: tables_1) room_1).applies x e0.platform about1 = true :=
  (Spec.applies_iff w_frames).mpr ⟨w_running, w_runnable, w_alone, w_named, w_hears, w_ripe, w_room, w_tables⟩
theorem atStart : AtStart classFile x code maxLocals ret World_1 tables_1 room_1 Calls_1 rest_1 Pre_1 launch0 p0 e0 about1 theMethod args0 below0 :=
  ⟨lists_1, trivial, launch0.admits_env _ _ _, launch0.least_env, fairChoices_fair.cas, fairChoices_fair.clock, w_frames, w_args, w_heap, w_applies, trivial, trivial, w_case⟩
end start1
theorem witness_1 : WitnessClaimed_1 := ⟨start1.p0, start1.e0, start1.about1, start1.theMethod, start1.args0, start1.below0, start1.atStart⟩
end Jvm.Pilot.@@N@@

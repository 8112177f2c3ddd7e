import JvmDerived
import JvmDerived.Pilot.@@N@@Statement
import JvmDerived.Pilot.@@N@@Code
set_option linter.unusedVariables false
set_option linter.unusedSimpArgs false
namespace Jvm.RoadKit
open Sem ClassFile Op Lib Jvm.Stand Jvm.Free Jvm.LawKit
section New
variable {p : Program} {l : Launch} {e : Env} {R : Room} {s : State} {m : MethodId} {args : Array Value} {below : List Frame} {meth : Method} {c : Code} {T : State} {locs : List Loc} {cells slots : Nat}
theorem retI (X : Stand p l e R s m args below meth c T locs cells slots) (hx : p.tables.exec = Jvm.exec) {pc : Nat} {Ls : Array Slot} {z : Int32} {rest : List Value} (hret : meth.sig.returnType = some .int) (hd : decode c.code pc = .ok (.ireturn, 1)) {fs : List Frame}
    (hl : ∀ (f : JFrame) (acts : List Action), f.method = m → f.locked = none → f.entered = [] → (doReturn e (T.setTop f) acts (some (.int z))).1 = T.setFrames fs) : Steps p.tables e below (T.setTop (mkF m pc Ls (.int z :: rest))) (T.setFrames fs) := by
  have hm' : T.vm.method? m = some meth := X.method'
  have hn : narrow .int (.int z) = .int z := rfl
  show Steps p.tables e below (T.setTop { method := m, pc := pc, locals := Ls, stack := _ :: rest, locked := none }) _
  jvm_step X.here [X.here.top, hx, hd, hm', hret, hn]
  first | (intro acts; rw [hl _ acts rfl rfl rfl]) | rw [hl _ _ rfl rfl rfl]
  exact Steps.refl _
end New
end Jvm.RoadKit
namespace Jvm.Own
open Sem ClassFile Op Lib Jvm.Stand Jvm.Free Jvm.LawKit Jvm.RoadKit
/-- the constants of one body's walk -/
abbrev KT := Program × Launch × Env × Room × State × MethodId × Array Value × List Frame × Method × Code × State × Nat
abbrev KT.p (K : KT) : Program := K.1
abbrev KT.l (K : KT) : Launch := K.2.1
abbrev KT.e (K : KT) : Env := K.2.2.1
abbrev KT.R (K : KT) : Room := K.2.2.2.1
abbrev KT.s (K : KT) : State := K.2.2.2.2.1
abbrev KT.m (K : KT) : MethodId := K.2.2.2.2.2.1
abbrev KT.args (K : KT) : Array Value := K.2.2.2.2.2.2.1
abbrev KT.below (K : KT) : List Frame := K.2.2.2.2.2.2.2.1
abbrev KT.meth (K : KT) : Method := K.2.2.2.2.2.2.2.2.1
abbrev KT.c (K : KT) : Code := K.2.2.2.2.2.2.2.2.2.1
abbrev KT.Z (K : KT) : State := K.2.2.2.2.2.2.2.2.2.2.1
abbrev KT.n0 (K : KT) : Nat := K.2.2.2.2.2.2.2.2.2.2.2
/-- what is known of the body -/
def Cx (K : KT) (y : MethodName) (bytes : ByteArray) (mx : Nat) (rt : Option FieldType) (R : Room) : Prop :=
  K.p.tables.exec = Jvm.exec ∧ K.Z.Warmed39 K.s.vm ∧ K.c.code = bytes ∧ K.c.maxLocals = mx ∧ K.s.vm.findClass y.cls = some K.m.cls ∧ K.meth.sig.returnType = rt ∧ K.meth.locks = false ∧ K.R = R ∧ K.meth.name = y.name
/-- where the walk stands: heap h, so many cells and slots made; nothing old written -/
def Sd (K : KT) (T : State) (h : Heap) (cl sl : Nat) : Prop := ∃ locs, Stand K.p K.l K.e K.R K.s K.m K.args K.below K.meth K.c T locs cl sl ∧ Fr K.n0 locs ∧ K.n0 ≤ h.size ∧ T.heap = h
/-- from here the body comes to its end, and Q holds of what it returns and of the heap then -/
def Run (K : KT) (Q : Option Value → Heap → Prop) (T : State) (g : JFrame) : Prop :=
  ∃ s₂ v L, Steps K.p.tables K.e K.below (T.setTop g) s₂ ∧ s₂.status = .running ∧ Ended s₂ K.below (.returned v) ∧ Q v s₂.heap ∧ Fr K.n0 L ∧ FrameEnd K.s (.returned v) s₂ L K.R.cells K.R.slots
theorem Run.st {K : KT} {Q : Option Value → Heap → Prop} {T T' : State} {g g' : JFrame} (st : ∀ t, Steps K.p.tables K.e K.below (T'.setTop g') t → Steps K.p.tables K.e K.below (T.setTop g) t) (k : Run K Q T' g') : Run K Q T g := by
  obtain ⟨s₂, v, L, h1, h2⟩ := k
  exact ⟨s₂, v, L, st _ h1, h2⟩
theorem Run.cast {K : KT} {Q : Option Value → Heap → Prop} {T : State} {g g' : JFrame} (q : g = g') (k : Run K Q T g') : Run K Q T g := q ▸ k
theorem Run.mono {K : KT} {Q Q' : Option Value → Heap → Prop} {T : State} {g : JFrame} (k : Run K Q T g) (q : ∀ v h, Q v h → Q' v h) : Run K Q' T g := by
  obtain ⟨s₂, v, L, h1, h2, h3, h4, h5⟩ := k
  exact ⟨s₂, v, L, h1, h2, h3, q _ _ h4, h5⟩
/-- the words of a sheet -/
def Tb (ws : List Jvm.Cond) (a0 : Array Value) (Z : State) : Prop := ∀ d ∈ ws, d.before a0 Z = true
theorem Tb.get {ws : List Jvm.Cond} {a0 : Array Value} {Z : State} (hw : Tb ws a0 Z) (i : Nat) {d : Jvm.Cond} (h : ws[i]? = some d) : d.before a0 Z = true := hw d (List.mem_of_getElem? h)
/-- an instruction, its length, the pc behind -/
def Dc (bytes : ByteArray) (pc : Nat) (i : Instr) (n pc' : Nat) : Prop := decode bytes pc = .ok (i, n) ∧ pc + n = pc'
/-- a branch: the pc behind, the pc that it goes to -/
def Db (bytes : ByteArray) (pc : Nat) (i : Instr) (o : Int) (pc' pt : Nat) : Prop := decode bytes pc = .ok (i, 3) ∧ pc + 3 = pc' ∧ 0 ≤ (pc : Int) + o ∧ ((pc : Int) + o).toNat = pt
theorem ne_new {a b : Addr} {h : Heap} (ea : a = h.size) (q : b < h.size) : a ≠ b := by subst ea; exact Nat.ne_of_gt q
theorem fr_new {h0 h : Heap} {a : Addr} (ea : a = h.size) (q : h0.size ≤ h.size) : h0.size ≤ a := ea ▸ q
theorem leb {a b : Nat} (h : Nat.ble a b = true) : a ≤ b := Nat.le_of_ble_eq_true h
theorem ltb {a b : Nat} (h : Nat.ble (a + 1) b = true) : a < b := Nat.le_of_ble_eq_true h
section Rules
variable {K : KT} {Q : Option Value → Heap → Prop} {T : State} {h : Heap} {cl sl : Nat} {y : MethodName} {bytes : ByteArray} {mx : Nat} {rt : Option FieldType} {R : Room} {pc pc' pt : Nat} {L : Array Slot} {S : List Value}
theorem r_top {v v' : Int32} (q : v = v') (k : Run K Q T (mkF K.m pc L (.int v' :: S))) : Run K Q T (mkF K.m pc L (.int v :: S)) := q ▸ k
theorem r_topL {v v' : Int64} (q : v = v') (k : Run K Q T (mkF K.m pc L (.long v' :: S))) : Run K Q T (mkF K.m pc L (.long v :: S)) := q ▸ k
theorem Sd.ge (X : Sd K T h cl sl) : K.n0 ≤ h.size := by obtain ⟨_, _, _, q, _⟩ := X; exact q
theorem r_iloadN {i : Fin 4} {v : Int32} (X : Sd K T h cl sl) (cx : Cx K y bytes mx rt R) (hd : Dc bytes pc (.iload_n i) 1 pc') (hl : L[i.val]? = some (.val (.int v))) (k : Run K Q T (mkF K.m pc' L (.int v :: S))) : Run K Q T (mkF K.m pc L (S)) := by
  obtain ⟨locs, X0, -⟩ := X; obtain ⟨hx, -, hby, -⟩ := cx; obtain ⟨d, rfl⟩ := hd
  exact Run.st (fun t q => XS.iloadN X0.here hx rfl (hb hby d) hl q) k
theorem r_iload {i : Nat} {v : Int32} (X : Sd K T h cl sl) (cx : Cx K y bytes mx rt R) (hd : Dc bytes pc (.iload i) 2 pc') (hl : L[i]? = some (.val (.int v))) (k : Run K Q T (mkF K.m pc' L (.int v :: S))) : Run K Q T (mkF K.m pc L (S)) := by
  obtain ⟨locs, X0, -⟩ := X; obtain ⟨hx, -, hby, -⟩ := cx; obtain ⟨d, rfl⟩ := hd
  exact Run.st (fun t q => XS.iload X0.here hx rfl (hb hby d) hl q) k
theorem r_lloadN {i : Fin 4} {v : Int64} (X : Sd K T h cl sl) (cx : Cx K y bytes mx rt R) (hd : Dc bytes pc (.lload_n i) 1 pc') (hl : L[i.val]? = some (.val (.long v))) (k : Run K Q T (mkF K.m pc' L (.long v :: S))) : Run K Q T (mkF K.m pc L (S)) := by
  obtain ⟨locs, X0, -⟩ := X; obtain ⟨hx, -, hby, -⟩ := cx; obtain ⟨d, rfl⟩ := hd
  exact Run.st (fun t q => XT.lloadN X0.here hx rfl (hb hby d) hl q) k
theorem r_lload {i : Nat} {v : Int64} (X : Sd K T h cl sl) (cx : Cx K y bytes mx rt R) (hd : Dc bytes pc (.lload i) 2 pc') (hl : L[i]? = some (.val (.long v))) (k : Run K Q T (mkF K.m pc' L (.long v :: S))) : Run K Q T (mkF K.m pc L (S)) := by
  obtain ⟨locs, X0, -⟩ := X; obtain ⟨hx, -, hby, -⟩ := cx; obtain ⟨d, rfl⟩ := hd
  exact Run.st (fun t q => XT.lload X0.here hx rfl (hb hby d) hl q) k
theorem r_aloadN {i : Fin 4} {v : Addr} (X : Sd K T h cl sl) (cx : Cx K y bytes mx rt R) (hd : Dc bytes pc (.aload_n i) 1 pc') (hl : L[i.val]? = some (.val (.ref v))) (k : Run K Q T (mkF K.m pc' L (.ref v :: S))) : Run K Q T (mkF K.m pc L (S)) := by
  obtain ⟨locs, X0, -⟩ := X; obtain ⟨hx, -, hby, -⟩ := cx; obtain ⟨d, rfl⟩ := hd
  exact Run.st (fun t q => XS.aloadN X0.here hx rfl (hb hby d) hl rfl q) k
theorem r_aload {i : Nat} {v : Addr} (X : Sd K T h cl sl) (cx : Cx K y bytes mx rt R) (hd : Dc bytes pc (.aload i) 2 pc') (hl : L[i]? = some (.val (.ref v))) (k : Run K Q T (mkF K.m pc' L (.ref v :: S))) : Run K Q T (mkF K.m pc L (S)) := by
  obtain ⟨locs, X0, -⟩ := X; obtain ⟨hx, -, hby, -⟩ := cx; obtain ⟨d, rfl⟩ := hd
  exact Run.st (fun t q => XS.aload X0.here hx rfl (hb hby d) hl rfl q) k
theorem r_iconst {i : Int} (v : Int32) (X : Sd K T h cl sl) (cx : Cx K y bytes mx rt R) (hd : Dc bytes pc (.iconst i) 1 pc') (hv : Int32.ofInt i = v) (k : Run K Q T (mkF K.m pc' L (.int v :: S))) : Run K Q T (mkF K.m pc L (S)) := by
  obtain ⟨locs, X0, -⟩ := X; obtain ⟨hx, -, hby, -⟩ := cx; obtain ⟨d, rfl⟩ := hd
  exact Run.st (fun t q => XT.iconstV X0.here hx rfl v (hb hby d) hv q) k
theorem r_bipush {i : Int} (v : Int32) (X : Sd K T h cl sl) (cx : Cx K y bytes mx rt R) (hd : Dc bytes pc (.bipush i) 2 pc') (hv : (Int8.ofInt i).toInt32 = v) (k : Run K Q T (mkF K.m pc' L (.int v :: S))) : Run K Q T (mkF K.m pc L (S)) := by
  obtain ⟨locs, X0, -⟩ := X; obtain ⟨hx, -, hby, -⟩ := cx; obtain ⟨d, rfl⟩ := hd
  exact Run.st (fun t q => XT.bipushV X0.here hx rfl v (hb hby d) hv q) k
theorem r_sipush {i : Int} (v : Int32) (X : Sd K T h cl sl) (cx : Cx K y bytes mx rt R) (hd : Dc bytes pc (.sipush i) 3 pc') (hv : (Int16.ofInt i).toInt32 = v) (k : Run K Q T (mkF K.m pc' L (.int v :: S))) : Run K Q T (mkF K.m pc L (S)) := by
  obtain ⟨locs, X0, -⟩ := X; obtain ⟨hx, -, hby, -⟩ := cx; obtain ⟨d, rfl⟩ := hd
  exact Run.st (fun t q => XT.sipushV X0.here hx rfl v (hb hby d) hv q) k
theorem r_lconst {i : Fin 2} (v : Int64) (X : Sd K T h cl sl) (cx : Cx K y bytes mx rt R) (hd : Dc bytes pc (.lconst i) 1 pc') (hv : Int64.ofNat i = v) (k : Run K Q T (mkF K.m pc' L (.long v :: S))) : Run K Q T (mkF K.m pc L (S)) := by
  obtain ⟨locs, X0, -⟩ := X; obtain ⟨hx, -, hby, -⟩ := cx; obtain ⟨d, rfl⟩ := hd
  exact Run.st (fun t q => XT.lconstV X0.here hx rfl v (hb hby d) hv q) k
theorem r_iadd {a b : Int32} (X : Sd K T h cl sl) (cx : Cx K y bytes mx rt R) (hd : Dc bytes pc .iadd 1 pc') (k : Run K Q T (mkF K.m pc' L (.int (a + b) :: S))) : Run K Q T (mkF K.m pc L (.int b :: .int a :: S)) := by
  obtain ⟨locs, X0, -⟩ := X; obtain ⟨hx, -, hby, -⟩ := cx; obtain ⟨d, rfl⟩ := hd
  exact Run.st (fun t q => XS.iadd X0.here hx rfl (hb hby d) rfl q) k
theorem r_isub {a b : Int32} (X : Sd K T h cl sl) (cx : Cx K y bytes mx rt R) (hd : Dc bytes pc .isub 1 pc') (k : Run K Q T (mkF K.m pc' L (.int (a - b) :: S))) : Run K Q T (mkF K.m pc L (.int b :: .int a :: S)) := by
  obtain ⟨locs, X0, -⟩ := X; obtain ⟨hx, -, hby, -⟩ := cx; obtain ⟨d, rfl⟩ := hd
  exact Run.st (fun t q => XS.isub X0.here hx rfl (hb hby d) rfl q) k
theorem r_imul {a b : Int32} (X : Sd K T h cl sl) (cx : Cx K y bytes mx rt R) (hd : Dc bytes pc .imul 1 pc') (k : Run K Q T (mkF K.m pc' L (.int (a * b) :: S))) : Run K Q T (mkF K.m pc L (.int b :: .int a :: S)) := by
  obtain ⟨locs, X0, -⟩ := X; obtain ⟨hx, -, hby, -⟩ := cx; obtain ⟨d, rfl⟩ := hd
  exact Run.st (fun t q => XS.imul X0.here hx rfl (hb hby d) rfl q) k
theorem r_iand {a b : Int32} (X : Sd K T h cl sl) (cx : Cx K y bytes mx rt R) (hd : Dc bytes pc .iand 1 pc') (k : Run K Q T (mkF K.m pc' L (.int (a &&& b) :: S))) : Run K Q T (mkF K.m pc L (.int b :: .int a :: S)) := by
  obtain ⟨locs, X0, -⟩ := X; obtain ⟨hx, -, hby, -⟩ := cx; obtain ⟨d, rfl⟩ := hd
  exact Run.st (fun t q => XS.iand X0.here hx rfl (hb hby d) rfl q) k
theorem r_ior {a b : Int32} (X : Sd K T h cl sl) (cx : Cx K y bytes mx rt R) (hd : Dc bytes pc .ior 1 pc') (k : Run K Q T (mkF K.m pc' L (.int (a ||| b) :: S))) : Run K Q T (mkF K.m pc L (.int b :: .int a :: S)) := by
  obtain ⟨locs, X0, -⟩ := X; obtain ⟨hx, -, hby, -⟩ := cx; obtain ⟨d, rfl⟩ := hd
  exact Run.st (fun t q => XT.ior X0.here hx rfl (hb hby d) rfl q) k
theorem r_ixor {a b : Int32} (X : Sd K T h cl sl) (cx : Cx K y bytes mx rt R) (hd : Dc bytes pc .ixor 1 pc') (k : Run K Q T (mkF K.m pc' L (.int (a ^^^ b) :: S))) : Run K Q T (mkF K.m pc L (.int b :: .int a :: S)) := by
  obtain ⟨locs, X0, -⟩ := X; obtain ⟨hx, -, hby, -⟩ := cx; obtain ⟨d, rfl⟩ := hd
  exact Run.st (fun t q => XT.ixor X0.here hx rfl (hb hby d) rfl q) k
theorem r_ishl {a b : Int32} (X : Sd K T h cl sl) (cx : Cx K y bytes mx rt R) (hd : Dc bytes pc .ishl 1 pc') (k : Run K Q T (mkF K.m pc' L (.int (a <<< (b &&& 31)) :: S))) : Run K Q T (mkF K.m pc L (.int b :: .int a :: S)) := by
  obtain ⟨locs, X0, -⟩ := X; obtain ⟨hx, -, hby, -⟩ := cx; obtain ⟨d, rfl⟩ := hd
  exact Run.st (fun t q => XT.ishl X0.here hx rfl (hb hby d) rfl q) k
theorem r_ishr {a b : Int32} (X : Sd K T h cl sl) (cx : Cx K y bytes mx rt R) (hd : Dc bytes pc .ishr 1 pc') (k : Run K Q T (mkF K.m pc' L (.int (a >>> (b &&& 31)) :: S))) : Run K Q T (mkF K.m pc L (.int b :: .int a :: S)) := by
  obtain ⟨locs, X0, -⟩ := X; obtain ⟨hx, -, hby, -⟩ := cx; obtain ⟨d, rfl⟩ := hd
  exact Run.st (fun t q => XT.ishr X0.here hx rfl (hb hby d) rfl q) k
theorem r_iushr {a b : Int32} (X : Sd K T h cl sl) (cx : Cx K y bytes mx rt R) (hd : Dc bytes pc .iushr 1 pc') (k : Run K Q T (mkF K.m pc' L (.int (XT.ushr a b) :: S))) : Run K Q T (mkF K.m pc L (.int b :: .int a :: S)) := by
  obtain ⟨locs, X0, -⟩ := X; obtain ⟨hx, -, hby, -⟩ := cx; obtain ⟨d, rfl⟩ := hd
  exact Run.st (fun t q => XT.iushr X0.here hx rfl (hb hby d) rfl q) k
theorem r_idiv {a b : Int32} (X : Sd K T h cl sl) (cx : Cx K y bytes mx rt R) (hd : Dc bytes pc .idiv 1 pc') (hne : b ≠ 0) (k : Run K Q T (mkF K.m pc' L (.int (a / b) :: S))) : Run K Q T (mkF K.m pc L (.int b :: .int a :: S)) := by
  obtain ⟨locs, X0, -⟩ := X; obtain ⟨hx, -, hby, -⟩ := cx; obtain ⟨d, rfl⟩ := hd
  exact Run.st (fun t q => XS.idiv X0.here hx rfl (hb hby d) rfl hne q) k
theorem r_irem {a b : Int32} (X : Sd K T h cl sl) (cx : Cx K y bytes mx rt R) (hd : Dc bytes pc .irem 1 pc') (hne : b ≠ 0) (k : Run K Q T (mkF K.m pc' L (.int (a - (a / b) * b) :: S))) : Run K Q T (mkF K.m pc L (.int b :: .int a :: S)) := by
  obtain ⟨locs, X0, -⟩ := X; obtain ⟨hx, -, hby, -⟩ := cx; obtain ⟨d, rfl⟩ := hd
  exact Run.st (fun t q => XS.irem X0.here hx rfl (hb hby d) rfl hne q) k
theorem r_ladd {a b : Int64} (X : Sd K T h cl sl) (cx : Cx K y bytes mx rt R) (hd : Dc bytes pc .ladd 1 pc') (k : Run K Q T (mkF K.m pc' L (.long (a + b) :: S))) : Run K Q T (mkF K.m pc L (.long b :: .long a :: S)) := by
  obtain ⟨locs, X0, -⟩ := X; obtain ⟨hx, -, hby, -⟩ := cx; obtain ⟨d, rfl⟩ := hd
  exact Run.st (fun t q => XT.ladd X0.here hx rfl (hb hby d) rfl q) k
theorem r_lsub {a b : Int64} (X : Sd K T h cl sl) (cx : Cx K y bytes mx rt R) (hd : Dc bytes pc .lsub 1 pc') (k : Run K Q T (mkF K.m pc' L (.long (a - b) :: S))) : Run K Q T (mkF K.m pc L (.long b :: .long a :: S)) := by
  obtain ⟨locs, X0, -⟩ := X; obtain ⟨hx, -, hby, -⟩ := cx; obtain ⟨d, rfl⟩ := hd
  exact Run.st (fun t q => XT.lsub X0.here hx rfl (hb hby d) rfl q) k
theorem r_lmul {a b : Int64} (X : Sd K T h cl sl) (cx : Cx K y bytes mx rt R) (hd : Dc bytes pc .lmul 1 pc') (k : Run K Q T (mkF K.m pc' L (.long (a * b) :: S))) : Run K Q T (mkF K.m pc L (.long b :: .long a :: S)) := by
  obtain ⟨locs, X0, -⟩ := X; obtain ⟨hx, -, hby, -⟩ := cx; obtain ⟨d, rfl⟩ := hd
  exact Run.st (fun t q => XT.lmul X0.here hx rfl (hb hby d) rfl q) k
theorem r_land {a b : Int64} (X : Sd K T h cl sl) (cx : Cx K y bytes mx rt R) (hd : Dc bytes pc .land 1 pc') (k : Run K Q T (mkF K.m pc' L (.long (a &&& b) :: S))) : Run K Q T (mkF K.m pc L (.long b :: .long a :: S)) := by
  obtain ⟨locs, X0, -⟩ := X; obtain ⟨hx, -, hby, -⟩ := cx; obtain ⟨d, rfl⟩ := hd
  exact Run.st (fun t q => XT.land X0.here hx rfl (hb hby d) rfl q) k
theorem r_lor {a b : Int64} (X : Sd K T h cl sl) (cx : Cx K y bytes mx rt R) (hd : Dc bytes pc .lor 1 pc') (k : Run K Q T (mkF K.m pc' L (.long (a ||| b) :: S))) : Run K Q T (mkF K.m pc L (.long b :: .long a :: S)) := by
  obtain ⟨locs, X0, -⟩ := X; obtain ⟨hx, -, hby, -⟩ := cx; obtain ⟨d, rfl⟩ := hd
  exact Run.st (fun t q => XT.lor X0.here hx rfl (hb hby d) rfl q) k
theorem r_lxor {a b : Int64} (X : Sd K T h cl sl) (cx : Cx K y bytes mx rt R) (hd : Dc bytes pc .lxor 1 pc') (k : Run K Q T (mkF K.m pc' L (.long (a ^^^ b) :: S))) : Run K Q T (mkF K.m pc L (.long b :: .long a :: S)) := by
  obtain ⟨locs, X0, -⟩ := X; obtain ⟨hx, -, hby, -⟩ := cx; obtain ⟨d, rfl⟩ := hd
  exact Run.st (fun t q => XT.lxor X0.here hx rfl (hb hby d) rfl q) k
theorem r_ldiv {a b : Int64} (X : Sd K T h cl sl) (cx : Cx K y bytes mx rt R) (hd : Dc bytes pc .ldiv 1 pc') (hne : b ≠ 0) (k : Run K Q T (mkF K.m pc' L (.long (a / b) :: S))) : Run K Q T (mkF K.m pc L (.long b :: .long a :: S)) := by
  obtain ⟨locs, X0, -⟩ := X; obtain ⟨hx, -, hby, -⟩ := cx; obtain ⟨d, rfl⟩ := hd
  exact Run.st (fun t q => XT.ldiv X0.here hx rfl (hb hby d) rfl hne q) k
theorem r_lrem {a b : Int64} (X : Sd K T h cl sl) (cx : Cx K y bytes mx rt R) (hd : Dc bytes pc .lrem 1 pc') (hne : b ≠ 0) (k : Run K Q T (mkF K.m pc' L (.long (a - (a / b) * b) :: S))) : Run K Q T (mkF K.m pc L (.long b :: .long a :: S)) := by
  obtain ⟨locs, X0, -⟩ := X; obtain ⟨hx, -, hby, -⟩ := cx; obtain ⟨d, rfl⟩ := hd
  exact Run.st (fun t q => XT.lrem X0.here hx rfl (hb hby d) rfl hne q) k
theorem r_lshl {a : Int64} {b : Int32} (X : Sd K T h cl sl) (cx : Cx K y bytes mx rt R) (hd : Dc bytes pc .lshl 1 pc') (k : Run K Q T (mkF K.m pc' L (.long (a <<< (b.toInt64 &&& 63)) :: S))) : Run K Q T (mkF K.m pc L (.int b :: .long a :: S)) := by
  obtain ⟨locs, X0, -⟩ := X; obtain ⟨hx, -, hby, -⟩ := cx; obtain ⟨d, rfl⟩ := hd
  exact Run.st (fun t q => XT.lshl X0.here hx rfl (hb hby d) rfl q) k
theorem r_lshr {a : Int64} {b : Int32} (X : Sd K T h cl sl) (cx : Cx K y bytes mx rt R) (hd : Dc bytes pc .lshr 1 pc') (k : Run K Q T (mkF K.m pc' L (.long (a >>> (b.toInt64 &&& 63)) :: S))) : Run K Q T (mkF K.m pc L (.int b :: .long a :: S)) := by
  obtain ⟨locs, X0, -⟩ := X; obtain ⟨hx, -, hby, -⟩ := cx; obtain ⟨d, rfl⟩ := hd
  exact Run.st (fun t q => XT.lshr X0.here hx rfl (hb hby d) rfl q) k
theorem r_lushr {a : Int64} {b : Int32} (X : Sd K T h cl sl) (cx : Cx K y bytes mx rt R) (hd : Dc bytes pc .lushr 1 pc') (k : Run K Q T (mkF K.m pc' L (.long (XT.ushrL a b) :: S))) : Run K Q T (mkF K.m pc L (.int b :: .long a :: S)) := by
  obtain ⟨locs, X0, -⟩ := X; obtain ⟨hx, -, hby, -⟩ := cx; obtain ⟨d, rfl⟩ := hd
  exact Run.st (fun t q => XT.lushr X0.here hx rfl (hb hby d) rfl q) k
theorem r_ineg {a : Int32} (X : Sd K T h cl sl) (cx : Cx K y bytes mx rt R) (hd : Dc bytes pc .ineg 1 pc') (k : Run K Q T (mkF K.m pc' L (.int (-a) :: S))) : Run K Q T (mkF K.m pc L (.int a :: S)) := by
  obtain ⟨locs, X0, -⟩ := X; obtain ⟨hx, -, hby, -⟩ := cx; obtain ⟨d, rfl⟩ := hd
  exact Run.st (fun t q => XS.ineg X0.here hx rfl (hb hby d) rfl q) k
theorem r_i2l {a : Int32} (X : Sd K T h cl sl) (cx : Cx K y bytes mx rt R) (hd : Dc bytes pc .i2l 1 pc') (k : Run K Q T (mkF K.m pc' L (.long a.toInt64 :: S))) : Run K Q T (mkF K.m pc L (.int a :: S)) := by
  obtain ⟨locs, X0, -⟩ := X; obtain ⟨hx, -, hby, -⟩ := cx; obtain ⟨d, rfl⟩ := hd
  exact Run.st (fun t q => XT.i2l X0.here hx rfl (hb hby d) rfl q) k
theorem r_l2i {a : Int64} (X : Sd K T h cl sl) (cx : Cx K y bytes mx rt R) (hd : Dc bytes pc .l2i 1 pc') (k : Run K Q T (mkF K.m pc' L (.int a.toInt32 :: S))) : Run K Q T (mkF K.m pc L (.long a :: S)) := by
  obtain ⟨locs, X0, -⟩ := X; obtain ⟨hx, -, hby, -⟩ := cx; obtain ⟨d, rfl⟩ := hd
  exact Run.st (fun t q => XT.l2i X0.here hx rfl (hb hby d) rfl q) k
theorem r_i2b {a : Int32} (X : Sd K T h cl sl) (cx : Cx K y bytes mx rt R) (hd : Dc bytes pc .i2b 1 pc') (k : Run K Q T (mkF K.m pc' L (.int a.toInt8.toInt32 :: S))) : Run K Q T (mkF K.m pc L (.int a :: S)) := by
  obtain ⟨locs, X0, -⟩ := X; obtain ⟨hx, -, hby, -⟩ := cx; obtain ⟨d, rfl⟩ := hd
  exact Run.st (fun t q => XT.i2b X0.here hx rfl (hb hby d) rfl q) k
theorem r_i2s {a : Int32} (X : Sd K T h cl sl) (cx : Cx K y bytes mx rt R) (hd : Dc bytes pc .i2s 1 pc') (k : Run K Q T (mkF K.m pc' L (.int a.toInt16.toInt32 :: S))) : Run K Q T (mkF K.m pc L (.int a :: S)) := by
  obtain ⟨locs, X0, -⟩ := X; obtain ⟨hx, -, hby, -⟩ := cx; obtain ⟨d, rfl⟩ := hd
  exact Run.st (fun t q => XT.i2s X0.here hx rfl (hb hby d) rfl q) k
theorem r_lcmp {a b : Int64} (X : Sd K T h cl sl) (cx : Cx K y bytes mx rt R) (hd : Dc bytes pc .lcmp 1 pc') (k : Run K Q T (mkF K.m pc' L (.int (XT.cmpL a b) :: S))) : Run K Q T (mkF K.m pc L (.long b :: .long a :: S)) := by
  obtain ⟨locs, X0, -⟩ := X; obtain ⟨hx, -, hby, -⟩ := cx; obtain ⟨d, rfl⟩ := hd
  exact Run.st (fun t q => XT.lcmp X0.here hx rfl (hb hby d) rfl q) k
theorem r_dup {v : Value} (X : Sd K T h cl sl) (cx : Cx K y bytes mx rt R) (hd : Dc bytes pc .dup 1 pc') (hc : v.category = 1) (k : Run K Q T (mkF K.m pc' L (v :: v :: S))) : Run K Q T (mkF K.m pc L (v :: S)) := by
  obtain ⟨locs, X0, -⟩ := X; obtain ⟨hx, -, hby, -⟩ := cx; obtain ⟨d, rfl⟩ := hd
  exact Run.st (fun t q => XS.dup X0.here hx rfl (hb hby d) rfl hc q) k
theorem r_pop {v : Value} (X : Sd K T h cl sl) (cx : Cx K y bytes mx rt R) (hd : Dc bytes pc .pop 1 pc') (hc : v.category = 1) (k : Run K Q T (mkF K.m pc' L (S))) : Run K Q T (mkF K.m pc L (v :: S)) := by
  obtain ⟨locs, X0, -⟩ := X; obtain ⟨hx, -, hby, -⟩ := cx; obtain ⟨d, rfl⟩ := hd
  exact Run.st (fun t q => XT.pop X0.here hx rfl (hb hby d) rfl hc q) k
theorem r_dup2 {v w : Value} (X : Sd K T h cl sl) (cx : Cx K y bytes mx rt R) (hd : Dc bytes pc .dup2 1 pc') (hc : v.category = 1) (hc2 : w.category = 1) (k : Run K Q T (mkF K.m pc' L (v :: w :: v :: w :: S))) : Run K Q T (mkF K.m pc L (v :: w :: S)) := by
  obtain ⟨locs, X0, -⟩ := X; obtain ⟨hx, -, hby, -⟩ := cx; obtain ⟨d, rfl⟩ := hd
  exact Run.st (fun t q => XT.dup2 X0.here hx rfl (hb hby d) rfl hc hc2 q) k
theorem r_dup_x1 {v w : Value} (X : Sd K T h cl sl) (cx : Cx K y bytes mx rt R) (hd : Dc bytes pc .dup_x1 1 pc') (hc : v.category = 1) (hc2 : w.category = 1) (k : Run K Q T (mkF K.m pc' L (v :: w :: v :: S))) : Run K Q T (mkF K.m pc L (v :: w :: S)) := by
  obtain ⟨locs, X0, -⟩ := X; obtain ⟨hx, -, hby, -⟩ := cx; obtain ⟨d, rfl⟩ := hd
  exact Run.st (fun t q => XT.dupX1 X0.here hx rfl (hb hby d) rfl hc hc2 q) k
theorem r_istoreN {i : Fin 4} {x : Int32} (L' : Int32 → Array Slot) (X : Sd K T h cl sl) (cx : Cx K y bytes mx rt R) (hd : Dc bytes pc (.istore_n i) 1 pc') (hl : ∀ v, storeLocals L i.val (.int v) = some (L' v)) (k : ∀ v, v = x → Run K Q T (mkF K.m pc' (L' v) S)) : Run K Q T (mkF K.m pc L (.int x :: S)) := by
  obtain ⟨locs, X0, -⟩ := X; obtain ⟨hx, -, hby, -⟩ := cx; obtain ⟨d, rfl⟩ := hd
  exact Run.st (fun t q => XS.istoreN X0.here hx rfl (hb hby d) rfl (hl x) q) (k x rfl)
theorem r_istore {i : Nat} {x : Int32} (L' : Int32 → Array Slot) (X : Sd K T h cl sl) (cx : Cx K y bytes mx rt R) (hd : Dc bytes pc (.istore i) 2 pc') (hl : ∀ v, storeLocals L i (.int v) = some (L' v)) (k : ∀ v, v = x → Run K Q T (mkF K.m pc' (L' v) S)) : Run K Q T (mkF K.m pc L (.int x :: S)) := by
  obtain ⟨locs, X0, -⟩ := X; obtain ⟨hx, -, hby, -⟩ := cx; obtain ⟨d, rfl⟩ := hd
  exact Run.st (fun t q => XS.istore X0.here hx rfl (hb hby d) rfl (hl x) q) (k x rfl)
theorem r_lstoreN {i : Fin 4} {x : Int64} (L' : Int64 → Array Slot) (X : Sd K T h cl sl) (cx : Cx K y bytes mx rt R) (hd : Dc bytes pc (.lstore_n i) 1 pc') (hl : ∀ v, storeLocals L i.val (.long v) = some (L' v)) (k : ∀ v, v = x → Run K Q T (mkF K.m pc' (L' v) S)) : Run K Q T (mkF K.m pc L (.long x :: S)) := by
  obtain ⟨locs, X0, -⟩ := X; obtain ⟨hx, -, hby, -⟩ := cx; obtain ⟨d, rfl⟩ := hd
  exact Run.st (fun t q => XT.lstoreN X0.here hx rfl (hb hby d) rfl (hl x) q) (k x rfl)
theorem r_lstore {i : Nat} {x : Int64} (L' : Int64 → Array Slot) (X : Sd K T h cl sl) (cx : Cx K y bytes mx rt R) (hd : Dc bytes pc (.lstore i) 2 pc') (hl : ∀ v, storeLocals L i (.long v) = some (L' v)) (k : ∀ v, v = x → Run K Q T (mkF K.m pc' (L' v) S)) : Run K Q T (mkF K.m pc L (.long x :: S)) := by
  obtain ⟨locs, X0, -⟩ := X; obtain ⟨hx, -, hby, -⟩ := cx; obtain ⟨d, rfl⟩ := hd
  exact Run.st (fun t q => XT.lstore X0.here hx rfl (hb hby d) rfl (hl x) q) (k x rfl)
theorem r_astoreN {i : Fin 4} {x : Addr} (L' : Array Slot) (X : Sd K T h cl sl) (cx : Cx K y bytes mx rt R) (hd : Dc bytes pc (.astore_n i) 1 pc') (hl : storeLocals L i.val (.ref x) = some L') (k : Run K Q T (mkF K.m pc' L' S)) : Run K Q T (mkF K.m pc L (.ref x :: S)) := by
  obtain ⟨locs, X0, -⟩ := X; obtain ⟨hx, -, hby, -⟩ := cx; obtain ⟨d, rfl⟩ := hd
  exact Run.st (fun t q => XS.astoreN X0.here hx rfl (hb hby d) rfl rfl hl q) k
theorem r_astore {i : Nat} {x : Addr} (L' : Array Slot) (X : Sd K T h cl sl) (cx : Cx K y bytes mx rt R) (hd : Dc bytes pc (.astore i) 2 pc') (hl : storeLocals L i (.ref x) = some L') (k : Run K Q T (mkF K.m pc' L' S)) : Run K Q T (mkF K.m pc L (.ref x :: S)) := by
  obtain ⟨locs, X0, -⟩ := X; obtain ⟨hx, -, hby, -⟩ := cx; obtain ⟨d, rfl⟩ := hd
  exact Run.st (fun t q => XS.astore X0.here hx rfl (hb hby d) rfl rfl hl q) k
theorem r_iinc {i : Nat} {cst : Int} {x : Int32} (w : Int32) (L' : Int32 → Array Slot) (X : Sd K T h cl sl) (cx : Cx K y bytes mx rt R) (hd : Dc bytes pc (.iinc i cst) 3 pc') (hv : Int32.ofInt cst = w) (ho : L[i]? = some (.val (.int x))) (hl : ∀ v, storeLocals L i (.int v) = some (L' v)) (k : ∀ v, v = x + w → Run K Q T (mkF K.m pc' (L' v) S)) : Run K Q T (mkF K.m pc L S) := by
  obtain ⟨locs, X0, -⟩ := X; obtain ⟨hx, -, hby, -⟩ := cx; obtain ⟨d, rfl⟩ := hd
  exact Run.st (fun t q => XT.iincV X0.here hx rfl w (hb hby d) hv ho (hl _) q) (k _ rfl)
theorem r_goto {o : Int} (X : Sd K T h cl sl) (cx : Cx K y bytes mx rt R) (hd : Db bytes pc (.goto o) o pc' pt) (k : Run K Q T (mkF K.m pt L S)) : Run K Q T (mkF K.m pc L S) := by
  obtain ⟨locs, X0, -⟩ := X; obtain ⟨hx, -, hby, -⟩ := cx; obtain ⟨d, -, ho, hp⟩ := hd
  exact Run.st (fun t q => XS.goto X0.here hx rfl (pc0 := pc) rfl (hb hby d) ho hp q) k
theorem r_icmpeq {o : Int} {a b : Int32} (X : Sd K T h cl sl) (cx : Cx K y bytes mx rt R) (hd : Db bytes pc (.if_icmp .eq o) o pc' pt) (k1 : a = b → Run K Q T (mkF K.m pt L S)) (k2 : ¬ a = b → Run K Q T (mkF K.m pc' L S)) : Run K Q T (mkF K.m pc L (.int b :: .int a :: S)) := by
  obtain ⟨locs, X0, -⟩ := X; obtain ⟨hx, -, hby, -⟩ := cx; obtain ⟨d, rfl, ho, hp⟩ := hd
  by_cases q : a = b
  · exact Run.st (fun t u => XS.icmpYes X0.here hx rfl (pc0 := pc) rfl (hb hby d) rfl (XT.ii_eq_t q) ho hp u) (k1 q)
  · exact Run.st (fun t u => XS.icmpNo X0.here hx rfl (hb hby d) rfl (XT.ii_eq_f q) u) (k2 q)
theorem r_ifeq {o : Int} {a : Int32} (X : Sd K T h cl sl) (cx : Cx K y bytes mx rt R) (hd : Db bytes pc (.ifCond .eq o) o pc' pt) (k1 : a = 0 → Run K Q T (mkF K.m pt L S)) (k2 : ¬ a = 0 → Run K Q T (mkF K.m pc' L S)) : Run K Q T (mkF K.m pc L (.int a :: S)) := by
  obtain ⟨locs, X0, -⟩ := X; obtain ⟨hx, -, hby, -⟩ := cx; obtain ⟨d, rfl, ho, hp⟩ := hd
  by_cases q : a = 0
  · exact Run.st (fun t u => XS.ifYes X0.here hx rfl (pc0 := pc) rfl (hb hby d) rfl (XT.i0_eq_t q) ho hp u) (k1 q)
  · exact Run.st (fun t u => XS.ifNo X0.here hx rfl (hb hby d) rfl (XT.i0_eq_f q) u) (k2 q)
theorem r_lcmpeq {o : Int} {a b : Int64} (X : Sd K T h cl sl) (cx : Cx K y bytes mx rt R) (hd : Db bytes pc (.ifCond .eq o) o pc' pt) (k1 : a = b → Run K Q T (mkF K.m pt L S)) (k2 : ¬ a = b → Run K Q T (mkF K.m pc' L S)) : Run K Q T (mkF K.m pc L (.int (XT.cmpL a b) :: S)) := by
  obtain ⟨locs, X0, -⟩ := X; obtain ⟨hx, -, hby, -⟩ := cx; obtain ⟨d, rfl, ho, hp⟩ := hd
  by_cases q : a = b
  · exact Run.st (fun t u => XS.ifYes X0.here hx rfl (pc0 := pc) rfl (hb hby d) rfl (XT.ll_eq_t q) ho hp u) (k1 q)
  · exact Run.st (fun t u => XS.ifNo X0.here hx rfl (hb hby d) rfl (XT.ll_eq_f q) u) (k2 q)
theorem r_icmpne {o : Int} {a b : Int32} (X : Sd K T h cl sl) (cx : Cx K y bytes mx rt R) (hd : Db bytes pc (.if_icmp .ne o) o pc' pt) (k1 : ¬ a = b → Run K Q T (mkF K.m pt L S)) (k2 : a = b → Run K Q T (mkF K.m pc' L S)) : Run K Q T (mkF K.m pc L (.int b :: .int a :: S)) := by
  obtain ⟨locs, X0, -⟩ := X; obtain ⟨hx, -, hby, -⟩ := cx; obtain ⟨d, rfl, ho, hp⟩ := hd
  by_cases q : a = b
  · exact Run.st (fun t u => XS.icmpNo X0.here hx rfl (hb hby d) rfl (XT.ii_ne_f q) u) (k2 q)
  · exact Run.st (fun t u => XS.icmpYes X0.here hx rfl (pc0 := pc) rfl (hb hby d) rfl (XT.ii_ne_t q) ho hp u) (k1 q)
theorem r_ifne {o : Int} {a : Int32} (X : Sd K T h cl sl) (cx : Cx K y bytes mx rt R) (hd : Db bytes pc (.ifCond .ne o) o pc' pt) (k1 : ¬ a = 0 → Run K Q T (mkF K.m pt L S)) (k2 : a = 0 → Run K Q T (mkF K.m pc' L S)) : Run K Q T (mkF K.m pc L (.int a :: S)) := by
  obtain ⟨locs, X0, -⟩ := X; obtain ⟨hx, -, hby, -⟩ := cx; obtain ⟨d, rfl, ho, hp⟩ := hd
  by_cases q : a = 0
  · exact Run.st (fun t u => XS.ifNo X0.here hx rfl (hb hby d) rfl (XT.i0_ne_f q) u) (k2 q)
  · exact Run.st (fun t u => XS.ifYes X0.here hx rfl (pc0 := pc) rfl (hb hby d) rfl (XT.i0_ne_t q) ho hp u) (k1 q)
theorem r_lcmpne {o : Int} {a b : Int64} (X : Sd K T h cl sl) (cx : Cx K y bytes mx rt R) (hd : Db bytes pc (.ifCond .ne o) o pc' pt) (k1 : ¬ a = b → Run K Q T (mkF K.m pt L S)) (k2 : a = b → Run K Q T (mkF K.m pc' L S)) : Run K Q T (mkF K.m pc L (.int (XT.cmpL a b) :: S)) := by
  obtain ⟨locs, X0, -⟩ := X; obtain ⟨hx, -, hby, -⟩ := cx; obtain ⟨d, rfl, ho, hp⟩ := hd
  by_cases q : a = b
  · exact Run.st (fun t u => XS.ifNo X0.here hx rfl (hb hby d) rfl (XT.ll_ne_f q) u) (k2 q)
  · exact Run.st (fun t u => XS.ifYes X0.here hx rfl (pc0 := pc) rfl (hb hby d) rfl (XT.ll_ne_t q) ho hp u) (k1 q)
theorem r_icmplt {o : Int} {a b : Int32} (X : Sd K T h cl sl) (cx : Cx K y bytes mx rt R) (hd : Db bytes pc (.if_icmp .lt o) o pc' pt) (k1 : a < b → Run K Q T (mkF K.m pt L S)) (k2 : ¬ a < b → Run K Q T (mkF K.m pc' L S)) : Run K Q T (mkF K.m pc L (.int b :: .int a :: S)) := by
  obtain ⟨locs, X0, -⟩ := X; obtain ⟨hx, -, hby, -⟩ := cx; obtain ⟨d, rfl, ho, hp⟩ := hd
  by_cases q : a < b
  · exact Run.st (fun t u => XS.icmpYes X0.here hx rfl (pc0 := pc) rfl (hb hby d) rfl (XT.ii_lt_t q) ho hp u) (k1 q)
  · exact Run.st (fun t u => XS.icmpNo X0.here hx rfl (hb hby d) rfl (XT.ii_lt_f q) u) (k2 q)
theorem r_iflt {o : Int} {a : Int32} (X : Sd K T h cl sl) (cx : Cx K y bytes mx rt R) (hd : Db bytes pc (.ifCond .lt o) o pc' pt) (k1 : a < 0 → Run K Q T (mkF K.m pt L S)) (k2 : ¬ a < 0 → Run K Q T (mkF K.m pc' L S)) : Run K Q T (mkF K.m pc L (.int a :: S)) := by
  obtain ⟨locs, X0, -⟩ := X; obtain ⟨hx, -, hby, -⟩ := cx; obtain ⟨d, rfl, ho, hp⟩ := hd
  by_cases q : a < 0
  · exact Run.st (fun t u => XS.ifYes X0.here hx rfl (pc0 := pc) rfl (hb hby d) rfl (XT.i0_lt_t q) ho hp u) (k1 q)
  · exact Run.st (fun t u => XS.ifNo X0.here hx rfl (hb hby d) rfl (XT.i0_lt_f q) u) (k2 q)
theorem r_lcmplt {o : Int} {a b : Int64} (X : Sd K T h cl sl) (cx : Cx K y bytes mx rt R) (hd : Db bytes pc (.ifCond .lt o) o pc' pt) (k1 : a < b → Run K Q T (mkF K.m pt L S)) (k2 : ¬ a < b → Run K Q T (mkF K.m pc' L S)) : Run K Q T (mkF K.m pc L (.int (XT.cmpL a b) :: S)) := by
  obtain ⟨locs, X0, -⟩ := X; obtain ⟨hx, -, hby, -⟩ := cx; obtain ⟨d, rfl, ho, hp⟩ := hd
  by_cases q : a < b
  · exact Run.st (fun t u => XS.ifYes X0.here hx rfl (pc0 := pc) rfl (hb hby d) rfl (XT.ll_lt_t q) ho hp u) (k1 q)
  · exact Run.st (fun t u => XS.ifNo X0.here hx rfl (hb hby d) rfl (XT.ll_lt_f q) u) (k2 q)
theorem r_icmpge {o : Int} {a b : Int32} (X : Sd K T h cl sl) (cx : Cx K y bytes mx rt R) (hd : Db bytes pc (.if_icmp .ge o) o pc' pt) (k1 : ¬ a < b → Run K Q T (mkF K.m pt L S)) (k2 : a < b → Run K Q T (mkF K.m pc' L S)) : Run K Q T (mkF K.m pc L (.int b :: .int a :: S)) := by
  obtain ⟨locs, X0, -⟩ := X; obtain ⟨hx, -, hby, -⟩ := cx; obtain ⟨d, rfl, ho, hp⟩ := hd
  by_cases q : a < b
  · exact Run.st (fun t u => XS.icmpNo X0.here hx rfl (hb hby d) rfl (XT.ii_ge_f q) u) (k2 q)
  · exact Run.st (fun t u => XS.icmpYes X0.here hx rfl (pc0 := pc) rfl (hb hby d) rfl (XT.ii_ge_t q) ho hp u) (k1 q)
theorem r_ifge {o : Int} {a : Int32} (X : Sd K T h cl sl) (cx : Cx K y bytes mx rt R) (hd : Db bytes pc (.ifCond .ge o) o pc' pt) (k1 : ¬ a < 0 → Run K Q T (mkF K.m pt L S)) (k2 : a < 0 → Run K Q T (mkF K.m pc' L S)) : Run K Q T (mkF K.m pc L (.int a :: S)) := by
  obtain ⟨locs, X0, -⟩ := X; obtain ⟨hx, -, hby, -⟩ := cx; obtain ⟨d, rfl, ho, hp⟩ := hd
  by_cases q : a < 0
  · exact Run.st (fun t u => XS.ifNo X0.here hx rfl (hb hby d) rfl (XT.i0_ge_f q) u) (k2 q)
  · exact Run.st (fun t u => XS.ifYes X0.here hx rfl (pc0 := pc) rfl (hb hby d) rfl (XT.i0_ge_t q) ho hp u) (k1 q)
theorem r_lcmpge {o : Int} {a b : Int64} (X : Sd K T h cl sl) (cx : Cx K y bytes mx rt R) (hd : Db bytes pc (.ifCond .ge o) o pc' pt) (k1 : ¬ a < b → Run K Q T (mkF K.m pt L S)) (k2 : a < b → Run K Q T (mkF K.m pc' L S)) : Run K Q T (mkF K.m pc L (.int (XT.cmpL a b) :: S)) := by
  obtain ⟨locs, X0, -⟩ := X; obtain ⟨hx, -, hby, -⟩ := cx; obtain ⟨d, rfl, ho, hp⟩ := hd
  by_cases q : a < b
  · exact Run.st (fun t u => XS.ifNo X0.here hx rfl (hb hby d) rfl (XT.ll_ge_f q) u) (k2 q)
  · exact Run.st (fun t u => XS.ifYes X0.here hx rfl (pc0 := pc) rfl (hb hby d) rfl (XT.ll_ge_t q) ho hp u) (k1 q)
theorem r_icmpgt {o : Int} {a b : Int32} (X : Sd K T h cl sl) (cx : Cx K y bytes mx rt R) (hd : Db bytes pc (.if_icmp .gt o) o pc' pt) (k1 : b < a → Run K Q T (mkF K.m pt L S)) (k2 : ¬ b < a → Run K Q T (mkF K.m pc' L S)) : Run K Q T (mkF K.m pc L (.int b :: .int a :: S)) := by
  obtain ⟨locs, X0, -⟩ := X; obtain ⟨hx, -, hby, -⟩ := cx; obtain ⟨d, rfl, ho, hp⟩ := hd
  by_cases q : b < a
  · exact Run.st (fun t u => XS.icmpYes X0.here hx rfl (pc0 := pc) rfl (hb hby d) rfl (XT.ii_gt_t q) ho hp u) (k1 q)
  · exact Run.st (fun t u => XS.icmpNo X0.here hx rfl (hb hby d) rfl (XT.ii_gt_f q) u) (k2 q)
theorem r_ifgt {o : Int} {a : Int32} (X : Sd K T h cl sl) (cx : Cx K y bytes mx rt R) (hd : Db bytes pc (.ifCond .gt o) o pc' pt) (k1 : 0 < a → Run K Q T (mkF K.m pt L S)) (k2 : ¬ 0 < a → Run K Q T (mkF K.m pc' L S)) : Run K Q T (mkF K.m pc L (.int a :: S)) := by
  obtain ⟨locs, X0, -⟩ := X; obtain ⟨hx, -, hby, -⟩ := cx; obtain ⟨d, rfl, ho, hp⟩ := hd
  by_cases q : 0 < a
  · exact Run.st (fun t u => XS.ifYes X0.here hx rfl (pc0 := pc) rfl (hb hby d) rfl (XT.i0_gt_t q) ho hp u) (k1 q)
  · exact Run.st (fun t u => XS.ifNo X0.here hx rfl (hb hby d) rfl (XT.i0_gt_f q) u) (k2 q)
theorem r_lcmpgt {o : Int} {a b : Int64} (X : Sd K T h cl sl) (cx : Cx K y bytes mx rt R) (hd : Db bytes pc (.ifCond .gt o) o pc' pt) (k1 : b < a → Run K Q T (mkF K.m pt L S)) (k2 : ¬ b < a → Run K Q T (mkF K.m pc' L S)) : Run K Q T (mkF K.m pc L (.int (XT.cmpL a b) :: S)) := by
  obtain ⟨locs, X0, -⟩ := X; obtain ⟨hx, -, hby, -⟩ := cx; obtain ⟨d, rfl, ho, hp⟩ := hd
  by_cases q : b < a
  · exact Run.st (fun t u => XS.ifYes X0.here hx rfl (pc0 := pc) rfl (hb hby d) rfl (XT.ll_gt_t q) ho hp u) (k1 q)
  · exact Run.st (fun t u => XS.ifNo X0.here hx rfl (hb hby d) rfl (XT.ll_gt_f q) u) (k2 q)
theorem r_icmple {o : Int} {a b : Int32} (X : Sd K T h cl sl) (cx : Cx K y bytes mx rt R) (hd : Db bytes pc (.if_icmp .le o) o pc' pt) (k1 : ¬ b < a → Run K Q T (mkF K.m pt L S)) (k2 : b < a → Run K Q T (mkF K.m pc' L S)) : Run K Q T (mkF K.m pc L (.int b :: .int a :: S)) := by
  obtain ⟨locs, X0, -⟩ := X; obtain ⟨hx, -, hby, -⟩ := cx; obtain ⟨d, rfl, ho, hp⟩ := hd
  by_cases q : b < a
  · exact Run.st (fun t u => XS.icmpNo X0.here hx rfl (hb hby d) rfl (XT.ii_le_f q) u) (k2 q)
  · exact Run.st (fun t u => XS.icmpYes X0.here hx rfl (pc0 := pc) rfl (hb hby d) rfl (XT.ii_le_t q) ho hp u) (k1 q)
theorem r_ifle {o : Int} {a : Int32} (X : Sd K T h cl sl) (cx : Cx K y bytes mx rt R) (hd : Db bytes pc (.ifCond .le o) o pc' pt) (k1 : ¬ 0 < a → Run K Q T (mkF K.m pt L S)) (k2 : 0 < a → Run K Q T (mkF K.m pc' L S)) : Run K Q T (mkF K.m pc L (.int a :: S)) := by
  obtain ⟨locs, X0, -⟩ := X; obtain ⟨hx, -, hby, -⟩ := cx; obtain ⟨d, rfl, ho, hp⟩ := hd
  by_cases q : 0 < a
  · exact Run.st (fun t u => XS.ifNo X0.here hx rfl (hb hby d) rfl (XT.i0_le_f q) u) (k2 q)
  · exact Run.st (fun t u => XS.ifYes X0.here hx rfl (pc0 := pc) rfl (hb hby d) rfl (XT.i0_le_t q) ho hp u) (k1 q)
theorem r_lcmple {o : Int} {a b : Int64} (X : Sd K T h cl sl) (cx : Cx K y bytes mx rt R) (hd : Db bytes pc (.ifCond .le o) o pc' pt) (k1 : ¬ b < a → Run K Q T (mkF K.m pt L S)) (k2 : b < a → Run K Q T (mkF K.m pc' L S)) : Run K Q T (mkF K.m pc L (.int (XT.cmpL a b) :: S)) := by
  obtain ⟨locs, X0, -⟩ := X; obtain ⟨hx, -, hby, -⟩ := cx; obtain ⟨d, rfl, ho, hp⟩ := hd
  by_cases q : b < a
  · exact Run.st (fun t u => XS.ifNo X0.here hx rfl (hb hby d) rfl (XT.ll_le_f q) u) (k2 q)
  · exact Run.st (fun t u => XS.ifYes X0.here hx rfl (pc0 := pc) rfl (hb hby d) rfl (XT.ll_le_t q) ho hp u) (k1 q)
theorem r_ldc {i : Nat} {v : Int32} {a0 : Array Value} (X : Sd K T h cl sl) (cx : Cx K y bytes mx rt R) (hd : Dc bytes pc (.ldc i) 2 pc') (w : (Cond.constant y.cls i v).before a0 K.Z = true) (k : Run K Q T (mkF K.m pc' L (.int v :: S))) : Run K Q T (mkF K.m pc L S) := by
  obtain ⟨locs, X0, -⟩ := X; obtain ⟨hx, hZ, hby, -, hown, -⟩ := cx; obtain ⟨d, rfl⟩ := hd
  exact Run.st (fun t q => Jvm.Stand.ldcI X0 hx hown (mv hZ w) rfl (hb hby d) q) k
theorem r_ldcW {i : Nat} {v : Int32} {a0 : Array Value} (X : Sd K T h cl sl) (cx : Cx K y bytes mx rt R) (hd : Dc bytes pc (.ldc_w i) 3 pc') (w : (Cond.constant y.cls i v).before a0 K.Z = true) (k : Run K Q T (mkF K.m pc' L (.int v :: S))) : Run K Q T (mkF K.m pc L S) := by
  obtain ⟨locs, X0, -⟩ := X; obtain ⟨hx, hZ, hby, -, hown, -⟩ := cx; obtain ⟨d, rfl⟩ := hd
  exact Run.st (fun t q => Jvm.Stand.ldcWI X0 hx hown (mv hZ w) rfl (hb hby d) q) k
theorem r_ldc2 {i : Nat} {v : Int64} {a0 : Array Value} (X : Sd K T h cl sl) (cx : Cx K y bytes mx rt R) (hd : Dc bytes pc (.ldc2_w i) 3 pc') (w : (Cond.constantLong y.cls i v).before a0 K.Z = true) (k : Run K Q T (mkF K.m pc' L (.long v :: S))) : Run K Q T (mkF K.m pc L S) := by
  obtain ⟨locs, X0, -⟩ := X; obtain ⟨hx, hZ, hby, -, hown, -⟩ := cx; obtain ⟨d, rfl⟩ := hd
  exact Run.st (fun t q => Jvm.Stand.ldc2J X0 hx hown (mv hZ w) rfl (hb hby d) q) k
theorem fin {v : Option Value} (X : Sd K T h cl sl) (cx : Cx K y bytes mx rt R) (hv : rt = none → v = none) (hc : cl ≤ R.cells) (hs : sl ≤ R.slots) (hq : Q v h) {g : JFrame}
    (st : ∀ fs, (∀ (f : JFrame) (acts : List Action), f.method = K.m → f.locked = none → f.entered = [] → (doReturn K.e (T.setTop f) acts v).1 = T.setFrames fs) → Steps K.p.tables K.e K.below (T.setTop g) (T.setFrames fs)) : Run K Q T g := by
  obtain ⟨locs, X0, N, hz, eT⟩ := X
  obtain ⟨hx, hZ, hby, hml, hown, hret, hlk, hR, hnm⟩ := cx
  obtain ⟨fs, hr, hrun, hended, hW, hsame⟩ := X0.leave (v := v) (fun q => hv (hret.symm.trans q)) hlk
  refine ⟨_, v, locs, st fs hr, hrun, hended, ?_, N, ⟨_, rfl⟩, hW, hsame.mono (by rw [hR]; exact hc) (by rw [hR]; exact hs)⟩
  show Q v T.heap
  rw [eT]; exact hq
theorem r_ireturn {z : Int32} (X : Sd K T h cl sl) (cx : Cx K y bytes mx (some .int) R) (hd : Dc bytes pc .ireturn 1 pc') (hc : cl ≤ R.cells) (hs : sl ≤ R.slots) (hq : Q (some (.int z)) h) : Run K Q T (mkF K.m pc L (.int z :: S)) := by
  refine fin X cx (fun q => nomatch q) hc hs hq fun fs hr => ?_
  obtain ⟨locs, X0, -⟩ := X; obtain ⟨hx, -, hby, -, -, hret, -⟩ := cx; obtain ⟨d, rfl⟩ := hd
  exact retI X0 hx hret (hb hby d) hr
theorem r_zreturn {z : Int32} (X : Sd K T h cl sl) (cx : Cx K y bytes mx (some .boolean) R) (hd : Dc bytes pc .ireturn 1 pc') (hc : cl ≤ R.cells) (hs : sl ≤ R.slots) (hq : Q (some (.int (nar .boolean z))) h) : Run K Q T (mkF K.m pc L (.int z :: S)) := by
  refine fin X cx (fun q => nomatch q) hc hs hq fun fs hr => ?_
  obtain ⟨locs, X0, -⟩ := X; obtain ⟨hx, -, hby, -, -, hret, -⟩ := cx; obtain ⟨d, rfl⟩ := hd
  exact retN X0 hx (t := .boolean) hret (by simp) (hb hby d) hr
theorem r_lreturn {z : Int64} (X : Sd K T h cl sl) (cx : Cx K y bytes mx (some .long) R) (hd : Dc bytes pc .lreturn 1 pc') (hc : cl ≤ R.cells) (hs : sl ≤ R.slots) (hq : Q (some (.long z)) h) : Run K Q T (mkF K.m pc L [.long z]) := by
  refine fin X cx (fun q => nomatch q) hc hs hq fun fs hr => ?_
  obtain ⟨locs, X0, -⟩ := X; obtain ⟨hx, -, hby, -, -, hret, -⟩ := cx; obtain ⟨d, rfl⟩ := hd
  exact X0.lreturnOut hx hret (hb hby d) hr
theorem r_areturn {z : Addr} {ty : FieldType} (X : Sd K T h cl sl) (cx : Cx K y bytes mx (some ty) R) (hty : ty.isReference = true) (hd : Dc bytes pc .areturn 1 pc') (hc : cl ≤ R.cells) (hs : sl ≤ R.slots) (hq : Q (some (.ref z)) h) : Run K Q T (mkF K.m pc L [.ref z]) := by
  refine fin X cx (fun q => nomatch q) hc hs hq fun fs hr => ?_
  obtain ⟨locs, X0, -⟩ := X; obtain ⟨hx, -, hby, -, -, hret, -⟩ := cx; obtain ⟨d, rfl⟩ := hd
  exact X0.areturnOut hx rfl hret hty (hb hby d) hr
theorem r_return (X : Sd K T h cl sl) (cx : Cx K y bytes mx none R) (hd : Dc bytes pc .return_ 1 pc') (hc : cl ≤ R.cells) (hs : sl ≤ R.slots) (hq : Q none h) : Run K Q T (mkF K.m pc L []) := by
  refine fin X cx (fun _ => rfl) hc hs hq fun fs hr => ?_
  obtain ⟨locs, X0, -⟩ := X; obtain ⟨hx, -, hby, -, -, hret, -⟩ := cx; obtain ⟨d, rfl⟩ := hd
  exact X0.returnOut hx hret (hb hby d) hr
/-! fields -/
theorem r_getfield {O n d : String} {i : Nat} {a : Addr} {v : Value} {a0 : Array Value} (X : Sd K T h cl sl) (cx : Cx K y bytes mx rt R) (hd : Dc bytes pc (.getfield i) 3 pc') (w : (Cond.fieldLink y.cls i O n d).before a0 K.Z = true) (F : Fld K.Z h a O n d v) (k : ∀ T', Sd K T' h cl sl → Run K Q T' (mkF K.m pc' L (v :: S))) : Run K Q T (mkF K.m pc L (.ref a :: S)) := by
  obtain ⟨locs, X0, N, hz, eT⟩ := X; obtain ⟨hx, hZ, hby, -, hown, -⟩ := cx; obtain ⟨dd, rfl⟩ := hd
  obtain ⟨T1, X1, e1, st1⟩ := getF X0 hx hZ hown (host := "") (Or.inl w) Via.refl eT F (g := mkF K.m pc L (.ref a :: S)) rfl rfl (hb hby dd)
  exact Run.st st1 (k T1 ⟨locs, X1, N, hz, e1⟩)
theorem r_getfieldN {O n d host : String} {i : Nat} {a : Addr} {v : Value} {a0 : Array Value} (X : Sd K T h cl sl) (cx : Cx K y bytes mx rt R) (hd : Dc bytes pc (.getfield i) 3 pc') (w : (Cond.fieldLinkNest y.cls i O n d host).before a0 K.Z = true) (F : Fld K.Z h a O n d v) (k : ∀ T', Sd K T' h cl sl → Run K Q T' (mkF K.m pc' L (v :: S))) : Run K Q T (mkF K.m pc L (.ref a :: S)) := by
  obtain ⟨locs, X0, N, hz, eT⟩ := X; obtain ⟨hx, hZ, hby, -, hown, -⟩ := cx; obtain ⟨dd, rfl⟩ := hd
  obtain ⟨T1, X1, e1, st1⟩ := getF X0 hx hZ hown (host := host) (Or.inr w) Via.refl eT F (g := mkF K.m pc L (.ref a :: S)) rfl rfl (hb hby dd)
  exact Run.st st1 (k T1 ⟨locs, X1, N, hz, e1⟩)
theorem r_putfield {O n d C : String} {i kk : Nat} {a : Addr} {v old : Value} {ty : FieldType} {a0 : Array Value} (X : Sd K T h cl sl) (cx : Cx K y bytes mx rt R) (hd : Dc bytes pc (.putfield i) 3 pc') (w : (Cond.fieldLink y.cls i O n d).before a0 K.Z = true) (F : Fld K.Z h a O n d old) (E : Exa K.Z h a C) (hL : (Cond.lays C O n d).before a0 K.Z = true ∨ ((Cond.laysFinal C O n d).before a0 K.Z = true ∧ y.cls = O ∧ y.name = "<init>")) (wi : (Cond.instantiable C kk).before a0 K.Z = true)
    (hty : parseFieldDescriptor d = some ty) (hn : narrow ty v = v) (hf : fits ty v = true) (ge : K.n0 ≤ a) (k : ∀ T' h', Sd K T' h' cl sl → Wr h h' a (Jvm.RoadKit.slotOf K.Z O n d) v → Fld K.Z h' a O n d v → Run K Q T' (mkF K.m pc' L S)) : Run K Q T (mkF K.m pc L (v :: .ref a :: S)) := by
  obtain ⟨locs, X0, N, hz, eT⟩ := X; obtain ⟨hx, hZ, hby, -, hown, -, -, -, hnm⟩ := cx; obtain ⟨dd, rfl⟩ := hd
  obtain ⟨T1, h1, X1, e1, W1, st1⟩ := putF X0 hx hZ hown (host := "") (Or.inl w) Via.refl eT F E (hL.imp id fun q => ⟨q.1, q.2.1, hnm.trans q.2.2⟩) wi hty hn hf (g := mkF K.m pc L (v :: .ref a :: S)) rfl rfl (hb hby dd)
  exact Run.st st1 (k T1 h1 ⟨_, X1, Fr.snoc X1 N ge, by rw [W1.size]; exact hz, e1⟩ W1 (F.same W1))
theorem r_new {C : String} {i n : Nat} {a0 : Array Value} (X : Sd K T h cl sl) (cx : Cx K y bytes mx rt R) (hd : Dc bytes pc (.new i) 3 pc') (w : (Cond.classLink y.cls i C).before a0 K.Z = true) (wi : (Cond.instantiable C n).before a0 K.Z = true) (wz : (Cond.initialized C).before a0 K.Z = true) (hc : cl + 1 ≤ R.cells) (hs : sl + n ≤ R.slots)
    (k : ∀ T' h' a, a = h.size → K.n0 ≤ a → Sd K T' h' (cl + 1) (sl + n) → Ext h h' → Exa K.Z h' a C → (∀ {O nm d : String} {ty : FieldType}, Laid K.Z a0 C O nm d → parseFieldDescriptor d = some ty → Fld K.Z h' a O nm d (defaultValue ty)) → Run K Q T' (mkF K.m pc' L (.ref a :: S))) : Run K Q T (mkF K.m pc L S) := by
  obtain ⟨locs, X0, N, hz, eT⟩ := X; obtain ⟨hx, hZ, hby, -, hown, -, -, hR, -⟩ := cx; obtain ⟨dd, rfl⟩ := hd
  obtain ⟨T1, h1, X1, e1, E1, A1, D1, -, st1⟩ := newO X0 hx hZ hown w wi wz eT (g := mkF K.m pc L S) rfl (hb hby dd) (by rw [hR]; exact hc) (by rw [hR]; exact hs)
  exact Run.st st1 (k T1 h1 h.size rfl hz ⟨locs, X1, N, Nat.le_trans hz E1.1, e1⟩ E1 A1 D1)
theorem r_initO {i : Nat} {a : Addr} {a0 : Array Value} (X : Sd K T h cl sl) (cx : Cx K y bytes mx rt R) (hd : Dc bytes pc (.invokespecial i) 3 pc') (w1 : (Cond.methodLink y.cls i Lib.objectInit).before a0 K.Z = true) (w2 : (Cond.instanceMethod Lib.objectInit).before a0 K.Z = true) (w3 : (Cond.code Lib.objectInit ⟨#[0xb1]⟩ 1 none).before a0 K.Z = true) (hsz : L.size = mx) (hf : 1 ≤ R.frames) (hl : (S.map fun v => v.category).sum + 12 ≤ R.locals) (k : ∀ T', Sd K T' h cl sl → Run K Q T' (mkF K.m pc' L S)) : Run K Q T (mkF K.m pc L (.ref a :: S)) := by
  obtain ⟨locs, X0, N, hz, eT⟩ := X; obtain ⟨hx, hZ, hby, hml, hown, -, -, hR, -⟩ := cx; obtain ⟨dd, rfl⟩ := hd
  obtain ⟨T1, X1, e1, st1⟩ := initO X0 hx hZ hown w1 w2 w3 eT (g := mkF K.m pc L (.ref a :: S)) rfl (by rw [hml]; exact hsz) rfl (hb hby dd) (by rw [hR]; exact hf) (W := (S.map fun v => v.category).sum) (by show 2 * 0 + _ ≤ _; omega) (by rw [hR]; exact hl)
  exact Run.st st1 (k T1 ⟨locs, X1, N, hz, e1⟩)
end Rules
/-! arrays: their whole list of values -/
def AV (Z : State) (h : Heap) (a : Addr) (ty : FieldType) (vs : List Value) : Prop := ∃ c : Cell, Arr Z h a c ty ∧ c.slots.toList = vs ∧ vs.length < 2 ^ 31
def AI (ty : FieldType) (Z : State) (h : Heap) (a : Addr) (xs : List Int32) : Prop := AV Z h a ty (xs.map Value.int)
def AJ (Z : State) (h : Heap) (a : Addr) (xs : List Int64) : Prop := AV Z h a .long (xs.map Value.long)
theorem AV.ext {Z : State} {h h' : Heap} {a : Addr} {ty : FieldType} {vs : List Value} (A : AV Z h a ty vs) (E : Ext h h') : AV Z h' a ty vs := by obtain ⟨c, q, r⟩ := A; exact ⟨c, q.ext E, r⟩
theorem AV.other {Z : State} {h h' : Heap} {a b : Addr} {ty : FieldType} {vs : List Value} {sl : Nat} {v : Value} (A : AV Z h a ty vs) (W : Wr h h' b sl v) (q : a ≠ b) : AV Z h' a ty vs := by obtain ⟨c, u, r⟩ := A; exact ⟨c, u.other W q, r⟩
theorem AV.keep {Z : State} {h h' : Heap} {a : Addr} {ty : FieldType} {vs : List Value} {ws : List Addr} (A : AV Z h a ty vs) (k : Keep h h' ws) (q : a ∉ ws) : AV Z h' a ty vs := by obtain ⟨c, u, r⟩ := A; exact ⟨c, ⟨k.2.1 a c u.1 q, u.2⟩, r⟩
theorem AV.lt {Z : State} {h : Heap} {a : Addr} {ty : FieldType} {vs : List Value} (A : AV Z h a ty vs) : a < h.size := by obtain ⟨c, u, r⟩ := A; exact u.lt
theorem AV.len {Z : State} {h : Heap} {a : Addr} {ty : FieldType} {vs : List Value} (A : AV Z h a ty vs) : vs.length < 2 ^ 31 := by obtain ⟨c, u, r, q⟩ := A; exact q
theorem AV.set {Z : State} {h h' : Heap} {a : Addr} {ty : FieldType} {vs : List Value} {n : Nat} {v : Value} (A : AV Z h a ty vs) (W : Wr h h' a n v) : AV Z h' a ty (vs.set n v) := by
  obtain ⟨c, u, r, q⟩ := A
  refine ⟨_, u.same W, ?_, by simpa using q⟩
  subst r
  simp [Cell.setSlot]
section
variable {ty : FieldType} {Z : State} {h h' : Heap} {a b : Addr} {xs : List Int32} {zs : List Int64} {sl : Nat} {v : Value} {ws : List Addr}
theorem AI.ext (A : AI ty Z h a xs) (E : Ext h h') : AI ty Z h' a xs := AV.ext A E
theorem AI.other (A : AI ty Z h a xs) (W : Wr h h' b sl v) (q : a ≠ b) : AI ty Z h' a xs := AV.other A W q
theorem AI.keep (A : AI ty Z h a xs) (k : Keep h h' ws) (q : a ∉ ws) : AI ty Z h' a xs := AV.keep A k q
theorem AI.lt (A : AI ty Z h a xs) : a < h.size := AV.lt A
theorem AI.len (A : AI ty Z h a xs) : xs.length < 2 ^ 31 := by simpa using AV.len A
theorem AI.set {n : Nat} {x : Int32} (A : AI ty Z h a xs) (W : Wr h h' a n (.int x)) : AI ty Z h' a (xs.set n x) := by
  have q := AV.set A W
  show AV Z h' a ty ((xs.set n x).map Value.int)
  rw [List.map_set]; exact q
theorem AJ.ext (A : AJ Z h a zs) (E : Ext h h') : AJ Z h' a zs := AV.ext A E
theorem AJ.other (A : AJ Z h a zs) (W : Wr h h' b sl v) (q : a ≠ b) : AJ Z h' a zs := AV.other A W q
theorem AJ.keep (A : AJ Z h a zs) (k : Keep h h' ws) (q : a ∉ ws) : AJ Z h' a zs := AV.keep A k q
theorem AJ.lt (A : AJ Z h a zs) : a < h.size := AV.lt A
theorem AJ.len (A : AJ Z h a zs) : zs.length < 2 ^ 31 := by simpa using AV.len A
theorem AJ.set {n : Nat} {x : Int64} (A : AJ Z h a zs) (W : Wr h h' a n (.long x)) : AJ Z h' a (zs.set n x) := by
  have q := AV.set A W
  show AV Z h' a .long ((zs.set n x).map Value.long)
  rw [List.map_set]; exact q
end
theorem ofNat_neg {n : Nat} (hn : n < 2 ^ 31) : ¬ Int32.ofNat n < 0 := by
  rw [Int32.lt_iff_toInt_lt, Int32.toInt_ofNat_of_lt hn]
  show ¬ (n : Int) < 0
  omega
theorem ofNat_clamp {n : Nat} (hn : n < 2 ^ 31) : (Int32.ofNat n).toNatClampNeg = n := by
  show (Int32.ofNat n).toInt.toNat = n
  rw [Int32.toInt_ofNat_of_lt hn]; rfl
section Rules
variable {K : KT} {Q : Option Value → Heap → Prop} {T : State} {h : Heap} {cl sl : Nat} {y : MethodName} {bytes : ByteArray} {mx : Nat} {rt : Option FieldType} {R : Room} {pc pc' pt : Nat} {L : Array Slot} {S : List Value}
theorem r_arraylength {ty : FieldType} {vs : List Value} {a : Addr} (X : Sd K T h cl sl) (cx : Cx K y bytes mx rt R) (hd : Dc bytes pc .arraylength 1 pc') (A : AV K.Z h a ty vs) (k : Run K Q T (mkF K.m pc' L (.int (Int32.ofNat vs.length) :: S))) : Run K Q T (mkF K.m pc L (.ref a :: S)) := by
  obtain ⟨locs, X0, N, hz, eT⟩ := X; obtain ⟨hx, hZ, hby, -, hown, -⟩ := cx; obtain ⟨dd, rfl⟩ := hd
  obtain ⟨c, Ar, hc, hlen⟩ := A
  have hs : c.slots.size = vs.length := by rw [← hc]; simp
  refine Run.st (X0.arraylength hx (cell := c) (by rw [eT]; exact Ar.1) (State.isArrayOf_alike hZ.alike Ar.2.1) (g := mkF K.m pc L (.ref a :: S)) rfl (rest := S) rfl (hb hby dd)) ?_
  rw [hs]; exact k
theorem r_alen {ty : FieldType} {xs : List Int32} {a : Addr} (X : Sd K T h cl sl) (cx : Cx K y bytes mx rt R) (hd : Dc bytes pc .arraylength 1 pc') (A : AI ty K.Z h a xs) (n : Nat) (hn : xs.length = n) (k : Run K Q T (mkF K.m pc' L (.int (Int32.ofNat n) :: S))) : Run K Q T (mkF K.m pc L (.ref a :: S)) :=
  r_arraylength X cx hd A (by rw [List.length_map, hn]; exact k)
theorem r_alenJ {xs : List Int64} {a : Addr} (X : Sd K T h cl sl) (cx : Cx K y bytes mx rt R) (hd : Dc bytes pc .arraylength 1 pc') (A : AJ K.Z h a xs) (n : Nat) (hn : xs.length = n) (k : Run K Q T (mkF K.m pc' L (.int (Int32.ofNat n) :: S))) : Run K Q T (mkF K.m pc L (.ref a :: S)) :=
  r_arraylength X cx hd A (by rw [List.length_map, hn]; exact k)
theorem r_iaload {xs : List Int32} {a : Addr} {j : Int32} {v : Int32} (X : Sd K T h cl sl) (cx : Cx K y bytes mx rt R) (hd : Dc bytes pc .iaload 1 pc') (A : AI .int K.Z h a xs) (n : Nat) (hj : j = Int32.ofNat n) (hv : xs[n]? = some v) (k : Run K Q T (mkF K.m pc' L (.int v :: S))) : Run K Q T (mkF K.m pc L (.int j :: .ref a :: S)) := by
  obtain ⟨locs, X0, N, hz, eT⟩ := X; obtain ⟨hx, hZ, hby, -, hown, -⟩ := cx; obtain ⟨dd, rfl⟩ := hd
  obtain ⟨c, Ar, hc, hlen⟩ := A
  have hs : c.slots.size = xs.length := by have := congrArg List.length hc; simpa using this
  have hl : n < xs.length := (List.getElem?_eq_some_iff.mp hv).1
  have hn : n < 2 ^ 31 := by simp at hlen; omega
  subst hj
  have e1 := ofNat_clamp hn
  have hat : c.slots[(Int32.ofNat n).toNatClampNeg]? = some (.int v) := by
    rw [e1, ← Array.getElem?_toList, hc, List.getElem?_map, hv]; rfl
  exact Run.st (X0.iaload hx (cell := c) (by rw [eT]; exact Ar.1) (State.isArrayOf_alike hZ.alike Ar.2.1) Ar.2.2 (by rw [e1, hs]; intro q; rcases q with q | q; exact ofNat_neg hn q; omega) hat (g := mkF K.m pc L (.int (Int32.ofNat n) :: .ref a :: S)) rfl rfl (hb hby dd)) k
theorem r_saload {xs : List Int32} {a : Addr} {j : Int32} {v : Int32} (X : Sd K T h cl sl) (cx : Cx K y bytes mx rt R) (hd : Dc bytes pc .saload 1 pc') (A : AI .short K.Z h a xs) (n : Nat) (hj : j = Int32.ofNat n) (hv : xs[n]? = some v) (k : Run K Q T (mkF K.m pc' L (.int v :: S))) : Run K Q T (mkF K.m pc L (.int j :: .ref a :: S)) := by
  obtain ⟨locs, X0, N, hz, eT⟩ := X; obtain ⟨hx, hZ, hby, -, hown, -⟩ := cx; obtain ⟨dd, rfl⟩ := hd
  obtain ⟨c, Ar, hc, hlen⟩ := A
  have hs : c.slots.size = xs.length := by have := congrArg List.length hc; simpa using this
  have hl : n < xs.length := (List.getElem?_eq_some_iff.mp hv).1
  have hn : n < 2 ^ 31 := by simp at hlen; omega
  subst hj
  have e1 := ofNat_clamp hn
  have hat : c.slots[(Int32.ofNat n).toNatClampNeg]? = some (.int v) := by
    rw [e1, ← Array.getElem?_toList, hc, List.getElem?_map, hv]; rfl
  exact Run.st (X0.saload hx (cell := c) (by rw [eT]; exact Ar.1) (State.isArrayOf_alike hZ.alike Ar.2.1) Ar.2.2 (by rw [e1, hs]; intro q; rcases q with q | q; exact ofNat_neg hn q; omega) hat (g := mkF K.m pc L (.int (Int32.ofNat n) :: .ref a :: S)) rfl rfl (hb hby dd)) k
theorem r_baload {xs : List Int32} {a : Addr} {j : Int32} {v : Int32} (X : Sd K T h cl sl) (cx : Cx K y bytes mx rt R) (hd : Dc bytes pc .baload 1 pc') (A : AI .byte K.Z h a xs) (n : Nat) (hj : j = Int32.ofNat n) (hv : xs[n]? = some v) (k : Run K Q T (mkF K.m pc' L (.int v :: S))) : Run K Q T (mkF K.m pc L (.int j :: .ref a :: S)) := by
  obtain ⟨locs, X0, N, hz, eT⟩ := X; obtain ⟨hx, hZ, hby, -, hown, -⟩ := cx; obtain ⟨dd, rfl⟩ := hd
  obtain ⟨c, Ar, hc, hlen⟩ := A
  have hs : c.slots.size = xs.length := by have := congrArg List.length hc; simpa using this
  have hl : n < xs.length := (List.getElem?_eq_some_iff.mp hv).1
  have hn : n < 2 ^ 31 := by simp at hlen; omega
  subst hj
  have e1 := ofNat_clamp hn
  have hat : c.slots[(Int32.ofNat n).toNatClampNeg]? = some (.int v) := by
    rw [e1, ← Array.getElem?_toList, hc, List.getElem?_map, hv]; rfl
  exact Run.st (X0.baloadBytes hx (cell := c) (by rw [eT]; exact Ar.1) (State.isArrayOf_alike hZ.alike Ar.2.1) Ar.2.2 (by rw [e1, hs]; intro q; rcases q with q | q; exact ofNat_neg hn q; omega) hat (g := mkF K.m pc L (.int (Int32.ofNat n) :: .ref a :: S)) rfl rfl (hb hby dd)) k
theorem r_laload {xs : List Int64} {a : Addr} {j : Int32} {v : Int64} (X : Sd K T h cl sl) (cx : Cx K y bytes mx rt R) (hd : Dc bytes pc .laload 1 pc') (A : AJ K.Z h a xs) (n : Nat) (hj : j = Int32.ofNat n) (hv : xs[n]? = some v) (k : Run K Q T (mkF K.m pc' L (.long v :: S))) : Run K Q T (mkF K.m pc L (.int j :: .ref a :: S)) := by
  obtain ⟨locs, X0, N, hz, eT⟩ := X; obtain ⟨hx, hZ, hby, -, hown, -⟩ := cx; obtain ⟨dd, rfl⟩ := hd
  obtain ⟨c, Ar, hc, hlen⟩ := A
  have hs : c.slots.size = xs.length := by have := congrArg List.length hc; simpa using this
  have hl : n < xs.length := (List.getElem?_eq_some_iff.mp hv).1
  have hn : n < 2 ^ 31 := by simp at hlen; omega
  subst hj
  have e1 := ofNat_clamp hn
  have hat : c.slots[(Int32.ofNat n).toNatClampNeg]? = some (.long v) := by
    rw [e1, ← Array.getElem?_toList, hc, List.getElem?_map, hv]; rfl
  exact Run.st (X0.laload hx (cell := c) (by rw [eT]; exact Ar.1) (State.isArrayOf_alike hZ.alike Ar.2.1) Ar.2.2 (by rw [e1, hs]; intro q; rcases q with q | q; exact ofNat_neg hn q; omega) hat (g := mkF K.m pc L (.int (Int32.ofNat n) :: .ref a :: S)) rfl rfl (hb hby dd)) k
theorem r_iastore {xs : List Int32} {a : Addr} {j : Int32} {x : Int32} (X : Sd K T h cl sl) (cx : Cx K y bytes mx rt R) (hd : Dc bytes pc .iastore 1 pc') (A : AI .int K.Z h a xs) (n : Nat) (hj : j = Int32.ofNat n) (hl : n < xs.length) (ge : K.n0 ≤ a) (k : ∀ T' h', Sd K T' h' cl sl → Wr h h' a n (.int x) → AI .int K.Z h' a (xs.set n x) → Run K Q T' (mkF K.m pc' L S)) : Run K Q T (mkF K.m pc L (.int x :: .int j :: .ref a :: S)) := by
  obtain ⟨locs, X0, N, hz, eT⟩ := X; obtain ⟨hx, hZ, hby, -, hown, -⟩ := cx; obtain ⟨dd, rfl⟩ := hd
  have A0 := A
  obtain ⟨c, Ar, hc, hlen⟩ := A
  have hs : c.slots.size = xs.length := by have := congrArg List.length hc; simpa using this
  have hn : n < 2 ^ 31 := by simp at hlen; omega
  subst hj
  have e1 := ofNat_clamp hn
  obtain ⟨T1, h1, X1, eh1, W1, st1⟩ := stI X0 hx hZ eT Ar (j := Int32.ofNat n) (x := x) (by rw [e1, hs]; intro q; rcases q with q | q; exact ofNat_neg hn q; omega) (g := mkF K.m pc L (.int x :: .int (Int32.ofNat n) :: .ref a :: S)) rfl rfl (hb hby dd)
  have hz1 : K.n0 ≤ h1.size := by rw [W1.size]; exact hz
  have N1 := Fr.snoc X1 N ge
  rw [e1] at W1
  exact Run.st st1 (k T1 h1 ⟨_, X1, N1, hz1, eh1⟩ W1 (AI.set A0 W1))
theorem r_sastore {xs : List Int32} {a : Addr} {j : Int32} {x : Int32} (X : Sd K T h cl sl) (cx : Cx K y bytes mx rt R) (hd : Dc bytes pc .sastore 1 pc') (A : AI .short K.Z h a xs) (n : Nat) (hj : j = Int32.ofNat n) (hl : n < xs.length) (ge : K.n0 ≤ a) (k : ∀ T' h', Sd K T' h' cl sl → Wr h h' a n (.int (nar .short x)) → AI .short K.Z h' a (xs.set n (nar .short x)) → Run K Q T' (mkF K.m pc' L S)) : Run K Q T (mkF K.m pc L (.int x :: .int j :: .ref a :: S)) := by
  obtain ⟨locs, X0, N, hz, eT⟩ := X; obtain ⟨hx, hZ, hby, -, hown, -⟩ := cx; obtain ⟨dd, rfl⟩ := hd
  have A0 := A
  obtain ⟨c, Ar, hc, hlen⟩ := A
  have hs : c.slots.size = xs.length := by have := congrArg List.length hc; simpa using this
  have hn : n < 2 ^ 31 := by simp at hlen; omega
  subst hj
  have e1 := ofNat_clamp hn
  obtain ⟨T1, h1, X1, eh1, W1, st1⟩ := stS X0 hx hZ eT Ar (j := Int32.ofNat n) (x := x) (by rw [e1, hs]; intro q; rcases q with q | q; exact ofNat_neg hn q; omega) (g := mkF K.m pc L (.int x :: .int (Int32.ofNat n) :: .ref a :: S)) rfl rfl (hb hby dd)
  have hz1 : K.n0 ≤ h1.size := by rw [W1.size]; exact hz
  have N1 := Fr.snoc X1 N ge
  rw [e1] at W1
  exact Run.st st1 (k T1 h1 ⟨_, X1, N1, hz1, eh1⟩ W1 (AI.set A0 W1))
theorem r_bastore {xs : List Int32} {a : Addr} {j : Int32} {x : Int32} (X : Sd K T h cl sl) (cx : Cx K y bytes mx rt R) (hd : Dc bytes pc .bastore 1 pc') (A : AI .byte K.Z h a xs) (n : Nat) (hj : j = Int32.ofNat n) (hl : n < xs.length) (ge : K.n0 ≤ a) (k : ∀ T' h', Sd K T' h' cl sl → Wr h h' a n (.int (nar .byte x)) → AI .byte K.Z h' a (xs.set n (nar .byte x)) → Run K Q T' (mkF K.m pc' L S)) : Run K Q T (mkF K.m pc L (.int x :: .int j :: .ref a :: S)) := by
  obtain ⟨locs, X0, N, hz, eT⟩ := X; obtain ⟨hx, hZ, hby, -, hown, -⟩ := cx; obtain ⟨dd, rfl⟩ := hd
  have A0 := A
  obtain ⟨c, Ar, hc, hlen⟩ := A
  have hs : c.slots.size = xs.length := by have := congrArg List.length hc; simpa using this
  have hn : n < 2 ^ 31 := by simp at hlen; omega
  subst hj
  have e1 := ofNat_clamp hn
  obtain ⟨T1, h1, X1, eh1, W1, st1⟩ := stB X0 hx hZ eT Ar (j := Int32.ofNat n) (x := x) (by rw [e1, hs]; intro q; rcases q with q | q; exact ofNat_neg hn q; omega) (g := mkF K.m pc L (.int x :: .int (Int32.ofNat n) :: .ref a :: S)) rfl rfl (hb hby dd)
  have hz1 : K.n0 ≤ h1.size := by rw [W1.size]; exact hz
  have N1 := Fr.snoc X1 N ge
  rw [e1] at W1
  exact Run.st st1 (k T1 h1 ⟨_, X1, N1, hz1, eh1⟩ W1 (AI.set A0 W1))
theorem r_lastore {xs : List Int64} {a : Addr} {j : Int32} {x : Int64} (X : Sd K T h cl sl) (cx : Cx K y bytes mx rt R) (hd : Dc bytes pc .lastore 1 pc') (A : AJ K.Z h a xs) (n : Nat) (hj : j = Int32.ofNat n) (hl : n < xs.length) (ge : K.n0 ≤ a) (k : ∀ T' h', Sd K T' h' cl sl → Wr h h' a n (.long x) → AJ K.Z h' a (xs.set n x) → Run K Q T' (mkF K.m pc' L S)) : Run K Q T (mkF K.m pc L (.long x :: .int j :: .ref a :: S)) := by
  obtain ⟨locs, X0, N, hz, eT⟩ := X; obtain ⟨hx, hZ, hby, -, hown, -⟩ := cx; obtain ⟨dd, rfl⟩ := hd
  have A0 := A
  obtain ⟨c, Ar, hc, hlen⟩ := A
  have hs : c.slots.size = xs.length := by have := congrArg List.length hc; simpa using this
  have hn : n < 2 ^ 31 := by simp at hlen; omega
  subst hj
  have e1 := ofNat_clamp hn
  obtain ⟨T1, h1, X1, eh1, W1, st1⟩ := stJ X0 hx hZ eT Ar (j := Int32.ofNat n) (x := x) (by rw [e1, hs]; intro q; rcases q with q | q; exact ofNat_neg hn q; omega) (g := mkF K.m pc L (.long x :: .int (Int32.ofNat n) :: .ref a :: S)) rfl rfl (hb hby dd)
  have hz1 : K.n0 ≤ h1.size := by rw [W1.size]; exact hz
  have N1 := Fr.snoc X1 N ge
  rw [e1] at W1
  exact Run.st st1 (k T1 h1 ⟨_, X1, N1, hz1, eh1⟩ W1 (AJ.set A0 W1))
theorem r_newarray {aty : ArrayType} {a0 : Array Value} {z : Int32} (X : Sd K T h cl sl) (cx : Cx K y bytes mx rt R) (hd : Dc bytes pc (.newarray aty) 2 pc') (w : (Cond.arrayClass (newarray.typeOf aty)).before a0 K.Z = true) (n cap : Nat) (hj : z = Int32.ofNat n) (hcap : n ≤ cap) (hb8 : cap * 8 ≤ 536870912) (hc : cl + 1 ≤ R.cells) (hs : sl + cap ≤ R.slots)
    (k : ∀ T' h' a, a = h.size → K.n0 ≤ a → Sd K T' h' (cl + 1) (sl + cap) → Ext h h' → AV K.Z h' a (newarray.typeOf aty) (List.replicate n (defaultValue (newarray.typeOf aty))) → Run K Q T' (mkF K.m pc' L (.ref a :: S))) : Run K Q T (mkF K.m pc L (.int z :: S)) := by
  obtain ⟨locs, X0, N, hz, eT⟩ := X; obtain ⟨hx, hZ, hby, -, hown, -, -, hR, -⟩ := cx; obtain ⟨dd, rfl⟩ := hd
  have hn : n < 2 ^ 31 := by omega
  subst hj
  have e1 := ofNat_clamp hn
  obtain ⟨T1, h1, cA, X1, eh1, E1, A1, st1⟩ := newP X0 hx hZ w eT (g := mkF K.m pc L (.int (Int32.ofNat n) :: S)) rfl (hb hby dd) (n := Int32.ofNat n) rfl (ofNat_neg hn) (cap := cap) (by rw [e1]; exact hcap) hb8 (by rw [hR]; exact hc) (by rw [hR]; exact hs)
  refine Run.st st1 (k T1 h1 h.size rfl hz ⟨locs, X1, N, Nat.le_trans hz E1.1, eh1⟩ E1 ⟨_, A1, ?_, by simpa using hn⟩)
  simp [newA, e1]
theorem AI.new {ty : FieldType} {Z : State} {h : Heap} {a : Addr} {n : Nat} (A : AV Z h a ty (List.replicate n (.int 0))) : AI ty Z h a (List.replicate n 0) := by
  show AV Z h a ty _
  rw [List.map_replicate]; exact A
theorem AJ.new {Z : State} {h : Heap} {a : Addr} {n : Nat} (A : AV Z h a .long (List.replicate n (.long 0))) : AJ Z h a (List.replicate n 0) := by
  show AV Z h a .long _
  rw [List.map_replicate]; exact A
end Rules
/-! contracts and calls -/
def Con (l : Launch) (Z : State) (y : MethodName) (bytes : ByteArray) (mx : Nat) (rt : Option FieldType) (rm : Room) (as : Array Value) (h0 : Heap) (n0 : Nat) (Q : Option Value → Heap → Prop) : Prop :=
  ∀ ws, MetFree l y (head1 (Jvm.Cond.code y bytes mx rt :: ws) rm) (fun a U => a = as ∧ Z.Warmed39 U.vm ∧ U.heap = h0) (fun _ _ _ _ _ => True) (fun _ U o U' => ∃ v L, o = .returned v ∧ (Q v U'.heap ∧ Fr n0 L) ∧ FrameEnd U o U' L rm.cells rm.slots)
theorem Con.of {l : Launch} {Z : State} {y : MethodName} {bytes : ByteArray} {mx : Nat} {rt : Option FieldType} {rm : Room} {as : Array Value} {h0 : Heap} {n0 : Nat} {Q : Option Value → Heap → Prop} (hy : plainFor y = true) (Z0 : n0 ≤ h0.size)
    (body : ∀ K : KT, K.l = l → K.Z = Z → K.n0 = n0 → Cx K y bytes mx rt rm → ∀ T, Sd K T h0 0 0 → Run K Q T (entryFrame K.m as mx)) : Con l Z y bytes mx rt rm as h0 n0 Q := by
  intro ws
  refine MetFree.of_bodySF hy hisR ?_
  intro p e s m args below meth c s₁ Bd hml0 hP hK
  obtain ⟨rfl, hZ, hh⟩ := hP
  have hown : s.vm.findClass y.cls = some m.cls := findClass_of_methodNamed Bd.named
  have hnm := (name_of_methodNamed Bd.named Bd.method).1
  have X0 : Stand p l e rm s m args below meth c s₁ [] 0 0 := Stand.of_body Bd
  have e0 : s₁.heap = h0 := by rw [← hh, Bd.state]; rfl
  obtain ⟨s₂, v, L, h1, h2, h3, h4, h5, h6⟩ := body (p, l, e, rm, s, m, args, below, meth, c, Z, n0) rfl rfl rfl ⟨Bd.exec, hZ, Bd.bytes, hml0, hown, Bd.returns, Bd.notSynchronized, rfl, hnm⟩ s₁ ⟨[], X0, Fr.nil n0, Z0, e0⟩
  exact ⟨s₂, _, h1, h2, h3, v, L, rfl, ⟨h4, h5⟩, h6⟩
section Calls
variable {K : KT} {Q : Option Value → Heap → Prop} {T : State} {h : Heap} {cl sl : Nat} {y : MethodName} {bytes : ByteArray} {mx : Nat} {rt : Option FieldType} {R : Room} {pc pc' pt : Nat} {L : Array Slot}
theorem r_static {z : MethodName} {zb : ByteArray} {zm : Nat} {zr : Option FieldType} {rm : Room} {i : Nat} {a0 : Array Value} {Qz : Option Value → Heap → Prop} {St : List Value} (argsL rest : List Value) (X : Sd K T h cl sl) (cx : Cx K y bytes mx rt R) (hd : Dc bytes pc (.invokestatic i) 3 pc')
    (w1 : (Cond.methodLink y.cls i z).before a0 K.Z = true) (w2 : (Cond.static z).before a0 K.Z = true) (w3 : (Cond.initialized z.cls).before a0 K.Z = true) (w4 : (Cond.code z zb zm zr).before a0 K.Z = true) (hm : z.cls ≠ "java/lang/invoke/MethodHandle" ∧ z.cls ≠ "java/lang/invoke/VarHandle")
    (con : Con K.l K.Z z zb zm zr rm argsL.toArray h K.n0 Qz) (hpd : ∀ sig, parseMethodDescriptor z.desc = some sig → argsL.length = sig.parameters.length) (hSt : St = argsL.reverse ++ rest) (hsz : L.size = mx) (hf : rm.frames + 1 ≤ R.frames) (hl : (rest.map fun v => v.category).sum + (zm + 11) + rm.locals ≤ R.locals) (hc : cl + rm.cells ≤ R.cells) (hs : sl + rm.slots ≤ R.slots)
    (k : ∀ T' h' v, Sd K T' h' (cl + rm.cells) (sl + rm.slots) → Qz v h' → Run K Q T' (mkF K.m pc' L (v.toList ++ rest))) (hmono : ∀ v h', Qz v h' → h.size ≤ h'.size) : Run K Q T (mkF K.m pc L St) := by
  obtain ⟨locs, X0, N, hz, eT⟩ := X; obtain ⟨hx, hZ, hby, hml, hown, -, -, hR, -⟩ := cx; obtain ⟨dd, rfl⟩ := hd
  obtain ⟨v, _, ⟨T1, L1, k1, n1⟩, -, X1, ⟨Lc, ⟨hQ, hF⟩, l1, y1, z1⟩, st1⟩ := Jvm.LawKit.callS X0 hx (y := z) hown (mvT hZ w1) (mvT hZ w2) (mvT hZ w3) (mvT hZ w4) hm (backOf (W := (rest.map fun v => v.category).sum) (Q := fun v h L => Qz v h ∧ Fr K.n0 L) (con []) hZ w4 w3 (by rw [hR]; exact hf) (by rw [hR]; exact hl)) (g := mkF K.m pc L St) rfl (by rw [hml]; exact hsz) (argsL := argsL) (rest := rest) hpd hSt (by show 2 * 0 + _ ≤ _; omega) (hb hby dd) (fun _ _ => ⟨rfl, eT, by rw [hR]; exact hc, by rw [hR]; exact hs⟩)
  dsimp only [Pt.U, Pt.locs, Pt.cells, Pt.slots] at X1 l1 y1 z1 st1 hQ
  subst l1 y1 z1
  exact Run.st st1 (k T1 _ v ⟨_, X1, Fr.app N hF, Nat.le_trans hz (hmono _ _ hQ), rfl⟩ hQ)
theorem r_virtual {z : MethodName} {C : String} {zb : ByteArray} {zm : Nat} {zr : Option FieldType} {rm : Room} {i : Nat} {a : Addr} {a0 : Array Value} {Qz : Option Value → Heap → Prop} {St : List Value} (argsL rest : List Value) (X : Sd K T h cl sl) (cx : Cx K y bytes mx rt R) (hd : Dc bytes pc (.invokevirtual i) 3 pc') (E : Exa K.Z h a C)
    (w1 : (Cond.methodLink y.cls i z).before a0 K.Z = true) (w2 : (Cond.declares z).before a0 K.Z = true) (w3 : (Cond.selects C z z).before a0 K.Z = true) (w4 : (Cond.instanceMethod z).before a0 K.Z = true) (w5 : (Cond.initialized z.cls).before a0 K.Z = true) (w6 : (Cond.code z zb zm zr).before a0 K.Z = true) (hm : z.cls ≠ "java/lang/invoke/MethodHandle" ∧ z.cls ≠ "java/lang/invoke/VarHandle")
    (con : Con K.l K.Z z zb zm zr rm (.ref a :: argsL).toArray h K.n0 Qz) (hpd : ∀ sig, parseMethodDescriptor z.desc = some sig → argsL.length = sig.parameters.length) (hSt : St = argsL.reverse ++ .ref a :: rest) (hsz : L.size = mx) (hf : rm.frames + 1 ≤ R.frames) (hl : (rest.map fun v => v.category).sum + (zm + 11) + rm.locals ≤ R.locals) (hc : cl + rm.cells ≤ R.cells) (hs : sl + rm.slots ≤ R.slots)
    (k : ∀ T' h' v, Sd K T' h' (cl + rm.cells) (sl + rm.slots) → Qz v h' → Run K Q T' (mkF K.m pc' L (v.toList ++ rest))) (hmono : ∀ v h', Qz v h' → h.size ≤ h'.size) : Run K Q T (mkF K.m pc L St) := by
  obtain ⟨locs, X0, N, hz, eT⟩ := X; obtain ⟨hx, hZ, hby, hml, hown, -, -, hR, -⟩ := cx; obtain ⟨dd, rfl⟩ := hd
  obtain ⟨cq, kq, qa, qb, qc⟩ := isOf hZ eT E
  obtain ⟨v, _, ⟨T1, L1, k1, n1⟩, -, X1, ⟨Lc, ⟨hQ, hF⟩, l1, y1, z1⟩, st1⟩ := X0.virtualBack hx (y := z) (z := z) hown (mvT hZ w1) (mvT hZ w2) (notFace_of_selects (args := #[]) (mvT hZ w3)) (mvT hZ w3) (mvT hZ w4) hm (backOf (W := (rest.map fun v => v.category).sum) (Q := fun v h L => Qz v h ∧ Fr K.n0 L) (con []) hZ w6 w5 (by rw [hR]; exact hf) (by rw [hR]; exact hl)) qa qc (g := mkF K.m pc L St) rfl (by rw [hml]; exact hsz) (Steps.refl _) (argsL := argsL) (rest := rest) hpd hSt (by show 2 * 0 + _ ≤ _; omega) (hb hby dd) (fun _ _ => ⟨rfl, eT, by rw [hR]; exact hc, by rw [hR]; exact hs⟩)
  dsimp only [Pt.U, Pt.locs, Pt.cells, Pt.slots] at X1 l1 y1 z1 st1 hQ
  subst l1 y1 z1
  exact Run.st (fun t q => st1.trans q) (k T1 _ v ⟨_, X1, Fr.app N hF, Nat.le_trans hz (hmono _ _ hQ), rfl⟩ hQ)
theorem r_private {z z' : MethodName} {C C' : String} {zb : ByteArray} {zm : Nat} {zr : Option FieldType} {rm : Room} {i : Nat} {a : Addr} {a0 : Array Value} {Qz : Option Value → Heap → Prop} {St : List Value} (argsL rest : List Value) (X : Sd K T h cl sl) (cx : Cx K y bytes mx rt R) (hd : Dc bytes pc (.invokevirtual i) 3 pc') (E : Exa K.Z h a C)
    (w1 : (Cond.methodLink y.cls i z).before a0 K.Z = true) (w2 : (Cond.selects C' z' z').before a0 K.Z = true) (w3 : (Cond.instanceMethod z).before a0 K.Z = true) (w4 : (Cond.privateMethod z).before a0 K.Z = true) (w5 : (Cond.initialized z.cls).before a0 K.Z = true) (w6 : (Cond.code z zb zm zr).before a0 K.Z = true) (hzz : z'.cls = z.cls) (hm : z.cls ≠ "java/lang/invoke/MethodHandle" ∧ z.cls ≠ "java/lang/invoke/VarHandle")
    (con : Con K.l K.Z z zb zm zr rm (.ref a :: argsL).toArray h K.n0 Qz) (hpd : ∀ sig, parseMethodDescriptor z.desc = some sig → argsL.length = sig.parameters.length) (hSt : St = argsL.reverse ++ .ref a :: rest) (hsz : L.size = mx) (hf : rm.frames + 1 ≤ R.frames) (hl : (rest.map fun v => v.category).sum + (zm + 11) + rm.locals ≤ R.locals) (hc : cl + rm.cells ≤ R.cells) (hs : sl + rm.slots ≤ R.slots)
    (k : ∀ T' h' v, Sd K T' h' (cl + rm.cells) (sl + rm.slots) → Qz v h' → Run K Q T' (mkF K.m pc' L (v.toList ++ rest))) (hmono : ∀ v h', Qz v h' → h.size ≤ h'.size) : Run K Q T (mkF K.m pc L St) := by
  obtain ⟨locs, X0, N, hz, eT⟩ := X; obtain ⟨hx, hZ, hby, hml, hown, -, -, hR, -⟩ := cx; obtain ⟨dd, rfl⟩ := hd
  obtain ⟨cq, qa, qb⟩ := E.cell
  have u2 : (Cond.selects C' z' z').before K.args K.s = true := mvT hZ w2
  have u3 : (Cond.instanceMethod z).before K.args K.s = true := mvT hZ w3
  obtain ⟨c2, r2, m2, q1, q2, q3, q4, kP, hkP, hkPi⟩ := Cond.selects_spec u2
  have hc2 := findClass_of_methodNamed q3
  rw [hzz] at hc2
  have hpriv := Cond.privateMethod_at (mvP hZ w4 (args := K.args))
  have hsel := selects_self_of_private hc2 hkP hkPi hpriv u3 hm
  obtain ⟨v, _, ⟨T1, L1, k1, n1⟩, -, X1, ⟨Lc, ⟨hQ, hF⟩, l1, y1, z1⟩, st1⟩ := X0.privateBack hx (y := z) hown (mvT hZ w1) u3 hsel hpriv (mvT hZ w6) hm (backOf (W := (rest.map fun v => v.category).sum) (Q := fun v h L => Qz v h ∧ Fr K.n0 L) (con []) hZ w6 w5 (by rw [hR]; exact hf) (by rw [hR]; exact hl)) (g := mkF K.m pc L St) rfl (by rw [hml]; exact hsz) (Steps.refl _) (a := a) (by rw [eT]; exact qa) qb (argsL := argsL) (rest := rest) hpd hSt (by show 2 * 0 + _ ≤ _; omega) (hb hby dd) (fun _ _ => ⟨rfl, eT, by rw [hR]; exact hc, by rw [hR]; exact hs⟩)
  dsimp only [Pt.U, Pt.locs, Pt.cells, Pt.slots] at X1 l1 y1 z1 st1 hQ
  subst l1 y1 z1
  exact Run.st (fun t q => st1.trans q) (k T1 _ v ⟨_, X1, Fr.app N hF, Nat.le_trans hz (hmono _ _ hQ), rfl⟩ hQ)
theorem r_special {z : MethodName} {zb : ByteArray} {zm : Nat} {rm : Room} {i : Nat} {a : Addr} {a0 : Array Value} {Qz : Option Value → Heap → Prop} {St : List Value} (argsL rest : List Value) (X : Sd K T h cl sl) (cx : Cx K y bytes mx rt R) (hd : Dc bytes pc (.invokespecial i) 3 pc') (hzn : z.name = "<init>")
    (w1 : (Cond.methodLink y.cls i z).before a0 K.Z = true) (w2 : (Cond.instanceMethod z).before a0 K.Z = true) (w3 : (Cond.initialized z.cls).before a0 K.Z = true) (w4 : (Cond.code z zb zm none).before a0 K.Z = true) (hm : z.cls ≠ "java/lang/invoke/MethodHandle" ∧ z.cls ≠ "java/lang/invoke/VarHandle")
    (con : Con K.l K.Z z zb zm none rm (.ref a :: argsL).toArray h K.n0 Qz) (hpd : ∀ sig, parseMethodDescriptor z.desc = some sig → argsL.length = sig.parameters.length) (hSt : St = argsL.reverse ++ .ref a :: rest) (hsz : L.size = mx) (hf : rm.frames + 1 ≤ R.frames) (hl : (rest.map fun v => v.category).sum + (zm + 11) + rm.locals ≤ R.locals) (hc : cl + rm.cells ≤ R.cells) (hs : sl + rm.slots ≤ R.slots)
    (k : ∀ T' h' v, Sd K T' h' (cl + rm.cells) (sl + rm.slots) → Qz v h' → Run K Q T' (mkF K.m pc' L (v.toList ++ rest))) (hmono : ∀ v h', Qz v h' → h.size ≤ h'.size) : Run K Q T (mkF K.m pc L St) := by
  obtain ⟨locs, X0, N, hz, eT⟩ := X; obtain ⟨hx, hZ, hby, hml, hown, -, -, hR, -⟩ := cx; obtain ⟨dd, rfl⟩ := hd
  obtain ⟨v, _, ⟨T1, L1, k1, n1⟩, -, X1, ⟨Lc, ⟨hQ, hF⟩, l1, y1, z1⟩, st1⟩ := X0.specialBack hx (y := z) hzn hown (mvT hZ w1) (mvT hZ w2) (mvT hZ w4) hm (backOf (W := (rest.map fun v => v.category).sum) (Q := fun v h L => Qz v h ∧ Fr K.n0 L) (con []) hZ w4 w3 (by rw [hR]; exact hf) (by rw [hR]; exact hl)) (g := mkF K.m pc L St) rfl (by rw [hml]; exact hsz) (Steps.refl _) (a := a) (argsL := argsL) (rest := rest) hpd hSt (by show 2 * 0 + _ ≤ _; omega) (hb hby dd) (fun _ _ => ⟨rfl, eT, by rw [hR]; exact hc, by rw [hR]; exact hs⟩)
  dsimp only [Pt.U, Pt.locs, Pt.cells, Pt.slots] at X1 l1 y1 z1 st1 hQ
  subst l1 y1 z1
  exact Run.st (fun t q => st1.trans q) (k T1 _ v ⟨_, X1, Fr.app N hF, Nat.le_trans hz (hmono _ _ hQ), rfl⟩ hQ)
end Calls
end Jvm.Own
namespace Jvm.Pilot.@@N@@
open Jvm Jvm.ClassFile Sem Op Lib Jvm.Free Jvm.Stand Jvm.LawKit Jvm.RoadKit Bundle Jvm.Own Jvm.Pilot.@@N@@.Jvm.D
theorem pd_0 : parseMethodDescriptor "(I)V" = some ⟨[.int], none⟩ := by decide +kernel
theorem pd_1 : parseMethodDescriptor "()I" = some ⟨[], some (.int)⟩ := by decide +kernel
theorem pd_2 : parseMethodDescriptor "(I)Z" = some ⟨[.int], some (.boolean)⟩ := by decide +kernel
theorem pd_3 : parseMethodDescriptor "(I)I" = some ⟨[.int], some (.int)⟩ := by decide +kernel
theorem pd_4 : parseMethodDescriptor "()V" = some ⟨[], none⟩ := by decide +kernel
def MT (Z : State) (n0 : Nat) (h : Heap) (o ar ah : Addr) (rs : List Int32) (hs : List Int64) (sz : Int32) : Prop :=
  Exa Z h o "com/example/kindred/kindred/CandidateJoin$Mates" ∧ Fld Z h o "com/example/kindred/kindred/CandidateJoin$Mates" "_records" "[I" (.ref ar) ∧ Fld Z h o "com/example/kindred/kindred/CandidateJoin$Mates" "_held" "[J" (.ref ah) ∧ Fld Z h o "com/example/kindred/kindred/CandidateJoin$Mates" "_size" "I" (.int sz) ∧ AI .int Z h ar rs ∧ AJ Z h ah hs ∧ o ≠ ar ∧ o ≠ ah ∧ ar ≠ ah ∧ n0 ≤ o ∧ n0 ≤ ar ∧ n0 ≤ ah
def own_bit (r : Nat) : Int64 := (1 : Int64) <<< (Int32.toInt64 (Int32.ofNat r) &&& 63)
def own_add (hs : List Int64) (r : Nat) : List Int64 := hs.set (r / 64) (hs[r / 64]?.getD 0 ||| own_bit r)
def own_clr (hs : List Int64) (r : Nat) : List Int64 := hs.set (r / 64) 0
def own_holds (hs : List Int64) (r : Nat) : Int32 := if hs[r / 64]?.getD 0 &&& own_bit r = 0 then 0 else 1
theorem own_us : ∀ r : Fin 1024, XT.ushr (Int32.ofNat r.val) 6 = Int32.ofNat (r.val / 64) ∧ own_bit r.val = own_bit (r.val % 64) := by decide +kernel
theorem own_wn : ∀ n : Fin 1025, Int64.toInt32 ((Int32.toInt64 (Int32.ofNat n.val) + 64 - 1) / 64) = Int32.ofNat ((n.val + 63) / 64) := by decide +kernel
theorem own_bb : ∀ a b : Fin 64, (own_bit a.val &&& own_bit b.val = 0 ↔ ¬ a.val = b.val) := by decide +kernel
theorem own_bits {a b : Nat} (ha : a < 1024) (hb : b < 1024) : own_bit a &&& own_bit b = 0 ↔ ¬ a % 64 = b % 64 := by
  rw [(own_us ⟨a, ha⟩).2, (own_us ⟨b, hb⟩).2]
  exact own_bb ⟨a % 64, Nat.mod_lt _ (by decide)⟩ ⟨b % 64, Nat.mod_lt _ (by decide)⟩
theorem own_gdL {xs : List Int64} {n : Nat} (h : n < xs.length) : xs[n]? = some (xs[n]?.getD 0) := by
  rw [List.getElem?_eq_getElem h]; rfl
theorem own_la (hs : List Int64) (r : Nat) : (own_add hs r).length = hs.length := by unfold own_add; rw [List.length_set]
theorem own_lc (hs : List Int64) (r : Nat) : (own_clr hs r).length = hs.length := by unfold own_clr; rw [List.length_set]
theorem own_as : ∀ (l : List Nat) (hs : List Int64) (i : Nat), (∀ r ∈ l, r / 64 ≠ i) → (l.foldl own_add hs)[i]? = hs[i]?
  | [], _, _, _ => rfl
  | r :: l, hs, i, h => by
    rw [List.foldl_cons, own_as l _ i (fun x hx => h x (List.mem_cons_of_mem _ hx))]
    unfold own_add
    rw [List.getElem?_set_ne (h r List.mem_cons_self)]
theorem own_cs : ∀ (l : List Nat) (hs : List Int64) (i : Nat), (∀ r ∈ l, r / 64 ≠ i) → (l.foldl own_clr hs)[i]? = hs[i]?
  | [], _, _, _ => rfl
  | r :: l, hs, i, h => by
    rw [List.foldl_cons, own_cs l _ i (fun x hx => h x (List.mem_cons_of_mem _ hx))]
    unfold own_clr
    rw [List.getElem?_set_ne (h r List.mem_cons_self)]
theorem own_cz : ∀ (l : List Nat) (hs : List Int64) (i : Nat), i < hs.length → (hs[i]? = some 0 ∨ ∃ r ∈ l, r / 64 = i) → (l.foldl own_clr hs)[i]? = some 0
  | [], hs, i, _, h => by
    rcases h with h | ⟨r, h, _⟩
    · exact h
    · cases h
  | r :: l, hs, i, hi, h => by
    rw [List.foldl_cons]
    refine own_cz l _ i (by rw [own_lc]; exact hi) ?_
    by_cases q : r / 64 = i
    · left; unfold own_clr; rw [q, List.getElem?_set_self hi]
    · rcases h with h | ⟨x, hx, e⟩
      · left; unfold own_clr; rw [List.getElem?_set_ne q]; exact h
      · rcases List.mem_cons.mp hx with rfl | hx
        · exact absurd e q
        · right; exact ⟨x, hx, e⟩
theorem own_fl : ∀ (l : List Nat) (hs : List Int64), (l.foldl own_add hs).length = hs.length
  | [], _ => rfl
  | r :: l, hs => by rw [List.foldl_cons, own_fl l, own_la]
theorem own_fc : ∀ (l : List Nat) (hs : List Int64), (l.foldl own_clr hs).length = hs.length
  | [], _ => rfl
  | r :: l, hs => by rw [List.foldl_cons, own_fc l, own_lc]
theorem own_back (l : List Nat) (w : Nat) : l.foldl own_clr (l.foldl own_add (List.replicate w 0)) = List.replicate w 0 := by
  apply List.ext_getElem?
  intro i
  by_cases hi : i < w
  · have e : (List.replicate w (0 : Int64))[i]? = some 0 := by rw [List.getElem?_replicate, if_pos hi]
    rw [e]
    refine own_cz l _ i (by rw [own_fl]; simpa using hi) ?_
    by_cases q : ∃ r ∈ l, r / 64 = i
    · exact Or.inr q
    · left
      rw [own_as l _ i (fun r hr er => q ⟨r, hr, er⟩)]; exact e
  · rw [List.getElem?_eq_none (by rw [own_fc, own_fl]; simp; omega), List.getElem?_eq_none (by simp; omega)]
theorem own_h0 (w r : Nat) : own_holds (List.replicate w 0) r = 0 := by
  unfold own_holds
  have : (List.replicate w (0 : Int64))[r / 64]?.getD 0 = 0 := by
    rw [List.getElem?_replicate]; split <;> rfl
  rw [this, Int64.zero_and, if_pos rfl]
theorem own_h1 {w p r : Nat} (hp : p < 1024) (hr : r < 1024) (hw : p / 64 < w) : own_holds (own_add (List.replicate w 0) p) r = if r = p then 1 else 0 := by
  have e0 : (List.replicate w (0 : Int64))[p / 64]?.getD 0 = 0 := by
    rw [List.getElem?_replicate]; split <;> rfl
  unfold own_holds own_add
  rw [e0, Int64.zero_or]
  by_cases q : p / 64 = r / 64
  · rw [← q, List.getElem?_set_self (by simpa using hw), Option.getD_some]
    by_cases s : r = p
    · rw [if_pos s, if_neg (by rw [own_bits hp hr]; omega)]
    · rw [if_neg s, if_pos (by rw [own_bits hp hr]; omega)]
  · rw [List.getElem?_set_ne q]
    have e1 : (List.replicate w (0 : Int64))[r / 64]?.getD 0 = 0 := by
      rw [List.getElem?_replicate]; split <;> rfl
    rw [e1, Int64.zero_and, if_pos rfl, if_neg (by omega)]
theorem P13m1_0 : Dc prog_13_method_1_code 0 (.aload_n 0) 1 1 := ⟨(by decide +kernel), rfl⟩
theorem P13m1_1 : Dc prog_13_method_1_code 1 (.invokespecial 1) 3 4 := ⟨(by decide +kernel), rfl⟩
theorem P13m1_4 : Dc prog_13_method_1_code 4 (.aload_n 0) 1 5 := ⟨(by decide +kernel), rfl⟩
theorem P13m1_5 : Dc prog_13_method_1_code 5 (.bipush 16) 2 7 := ⟨(by decide +kernel), rfl⟩
theorem P13m1_7 : Dc prog_13_method_1_code 7 (.newarray .int) 2 9 := ⟨(by decide +kernel), rfl⟩
theorem P13m1_9 : Dc prog_13_method_1_code 9 (.putfield 7) 3 12 := ⟨(by decide +kernel), rfl⟩
theorem P13m1_12 : Dc prog_13_method_1_code 12 (.aload_n 0) 1 13 := ⟨(by decide +kernel), rfl⟩
theorem P13m1_13 : Dc prog_13_method_1_code 13 (.iload_n 1) 1 14 := ⟨(by decide +kernel), rfl⟩
theorem P13m1_14 : Dc prog_13_method_1_code 14 (.i2l) 1 15 := ⟨(by decide +kernel), rfl⟩
theorem P13m1_15 : Dc prog_13_method_1_code 15 (.ldc2_w 15) 3 18 := ⟨(by decide +kernel), rfl⟩
theorem P13m1_18 : Dc prog_13_method_1_code 18 (.ladd) 1 19 := ⟨(by decide +kernel), rfl⟩
theorem P13m1_19 : Dc prog_13_method_1_code 19 (.lconst 1) 1 20 := ⟨(by decide +kernel), rfl⟩
theorem P13m1_20 : Dc prog_13_method_1_code 20 (.lsub) 1 21 := ⟨(by decide +kernel), rfl⟩
theorem P13m1_21 : Dc prog_13_method_1_code 21 (.ldc2_w 15) 3 24 := ⟨(by decide +kernel), rfl⟩
theorem P13m1_24 : Dc prog_13_method_1_code 24 (.ldiv) 1 25 := ⟨(by decide +kernel), rfl⟩
theorem P13m1_25 : Dc prog_13_method_1_code 25 (.l2i) 1 26 := ⟨(by decide +kernel), rfl⟩
theorem P13m1_26 : Dc prog_13_method_1_code 26 (.newarray .long) 2 28 := ⟨(by decide +kernel), rfl⟩
theorem P13m1_28 : Dc prog_13_method_1_code 28 (.putfield 17) 3 31 := ⟨(by decide +kernel), rfl⟩
theorem P13m1_31 : Dc prog_13_method_1_code 31 (.return_) 1 32 := ⟨(by decide +kernel), rfl⟩
theorem ef_P13m1 (m : MethodId) (o : Addr) (nn : Int32) : entryFrame m #[(.ref o), (.int nn)] 2 = mkF m 0 #[.val (.ref o), .val (.int nn)] [] := by first | (simp [entryFrame, mkF, argsToLocals, Value.category]; done) | rfl
set_option maxRecDepth 65536 in
set_option maxHeartbeats 40000000 in
theorem con_P13m1 (l : Launch) (Z : State) (a0 : Array Value) (hw : Tb tables_1 a0 Z) (o : Addr) (nn : Int32) (h0 : Heap) (n0 : Nat) (Z0 : n0 ≤ h0.size) (n : Nat) (en : nn = Int32.ofNat n) (hn : n ≤ 1024) (E_o : Exa Z h0 o "com/example/kindred/kindred/CandidateJoin$Mates") (F_re : Fld Z h0 o "com/example/kindred/kindred/CandidateJoin$Mates" "_records" "[I" .null) (F_he : Fld Z h0 o "com/example/kindred/kindred/CandidateJoin$Mates" "_held" "[J" .null) (F_si : Fld Z h0 o "com/example/kindred/kindred/CandidateJoin$Mates" "_size" "I" (.int 0)) (g_o : n0 ≤ o) :
    Con l Z (⟨"com/example/kindred/kindred/CandidateJoin$Mates", "<init>", "(I)V"⟩ : MethodName) prog_13_method_1_code 2 (none) ({ frames := 1, cells := 2, slots := 32, locals := 12 } : Room) #[(.ref o), (.int nn)] h0 n0 (fun u h => h0.size ≤ h.size ∧ u = none ∧ ∃ ar ah, MT Z n0 h o ar ah (List.replicate 16 0) (List.replicate ((n + 63) / 64) 0) 0) := by
  refine Con.of (plainFor_of_name (by decide +kernel)) Z0 ?_
  intro K hl hZ hn cx T0 X0
  subst hl hZ hn
  refine Run.cast (ef_P13m1 K.m o nn) ?_
  have Kp : Keep h0 h0 [o] := Keep.refl _ _
  refine r_aloadN X0 cx P13m1_0 rfl ?_
  refine r_initO X0 cx P13m1_1 (hw.get 7 rfl) (hw.get 8 rfl) (hw.get 9 rfl) rfl (by decide) (leb rfl) (fun T1 X1 => ?_)
  refine r_aloadN X1 cx P13m1_4 rfl ?_
  refine r_bipush (16) X1 cx P13m1_5 rfl ?_
  refine r_newarray X1 cx P13m1_7 (hw.get 10 rfl) (16) 16 rfl (Nat.le_refl _) (by decide) (by decide) (by decide) (fun T2 h2 ar ea2 g_ar X2 Ex2 A2 => ?_)
  have fr_ar : h0.size ≤ ar := fr_new ea2 Kp.1
  replace Kp := Kp.ext Ex2
  have ne_ar_o : ar ≠ o := ne_new ea2 E_o.lt
  replace F_re := F_re.ext Ex2
  replace F_he := F_he.ext Ex2
  replace F_si := F_si.ext Ex2
  replace E_o := E_o.ext Ex2
  have A_ar : AI .int K.Z h2 ar [0, 0, 0, 0, 0, 0, 0, 0, 0, 0, 0, 0, 0, 0, 0, 0] := AI.new A2
  refine r_putfield X2 cx P13m1_9 (hw.get 11 rfl) F_re E_o (Or.inl (hw.get 12 rfl)) (hw.get 2 rfl) (ty := .array .int) (by decide) rfl rfl g_o (fun T3 h3 X3 W3 N3 => ?_)
  replace Kp := Kp.wr W3 (Or.inl (by simp))
  replace F_he := F_he.other W3 (Or.inr (slot_ne (Or.inr (hw.get 16 rfl)) (Or.inl (hw.get 12 rfl)) (by decide) (t := .array .long) (t' := .array .int) (by decide) (by decide)))
  replace F_si := F_si.other W3 (Or.inr (slot_ne (Or.inl (hw.get 23 rfl)) (Or.inl (hw.get 12 rfl)) (by decide) (t := .int) (t' := .array .int) (by decide) (by decide)))
  replace E_o := E_o.wr W3
  replace A_ar := A_ar.other W3 ne_ar_o
  have F_re := N3
  refine r_aloadN X3 cx P13m1_12 rfl ?_
  refine r_iloadN X3 cx P13m1_13 rfl ?_
  refine r_i2l X3 cx P13m1_14 ?_
  refine r_ldc2 X3 cx P13m1_15 (hw.get 13 rfl) ?_
  refine r_ladd X3 cx P13m1_18 ?_
  refine r_lconst (1) X3 cx P13m1_19 rfl ?_
  refine r_lsub X3 cx P13m1_20 ?_
  refine r_ldc2 X3 cx P13m1_21 (hw.get 13 rfl) ?_
  refine r_ldiv X3 cx P13m1_24 (by decide) ?_
  refine r_l2i X3 cx P13m1_25 ?_
  refine r_newarray X3 cx P13m1_26 (hw.get 14 rfl) ((n + 63) / 64) 16 (by rw [en]; exact own_wn ⟨n, by omega⟩) (by omega) (by decide) (by decide) (by decide) (fun T4 h4 ah ea4 g_ah X4 Ex4 A4 => ?_)
  have fr_ah : h0.size ≤ ah := fr_new ea4 Kp.1
  replace Kp := Kp.ext Ex4
  have ne_ah_o : ah ≠ o := ne_new ea4 E_o.lt
  have ne_ah_ar : ah ≠ ar := ne_new ea4 A_ar.lt
  replace F_re := F_re.ext Ex4
  replace F_he := F_he.ext Ex4
  replace F_si := F_si.ext Ex4
  replace E_o := E_o.ext Ex4
  replace A_ar := A_ar.ext Ex4
  have A_ah : AJ K.Z h4 ah (List.replicate ((n + 63) / 64) 0) := AJ.new A4
  refine r_putfield X4 cx P13m1_28 (hw.get 15 rfl) F_he E_o (Or.inr ⟨(hw.get 16 rfl), rfl, rfl⟩) (hw.get 2 rfl) (ty := .array .long) (by decide) rfl rfl g_o (fun T5 h5 X5 W5 N5 => ?_)
  replace Kp := Kp.wr W5 (Or.inl (by simp))
  replace F_re := F_re.other W5 (Or.inr (slot_ne (Or.inl (hw.get 12 rfl)) (Or.inr (hw.get 16 rfl)) (by decide) (t := .array .int) (t' := .array .long) (by decide) (by decide)))
  replace F_si := F_si.other W5 (Or.inr (slot_ne (Or.inl (hw.get 23 rfl)) (Or.inr (hw.get 16 rfl)) (by decide) (t := .int) (t' := .array .long) (by decide) (by decide)))
  replace E_o := E_o.wr W5
  replace A_ar := A_ar.other W5 ne_ar_o
  replace A_ah := A_ah.other W5 ne_ah_o
  have F_he := N5
  refine r_return X5 cx P13m1_31 (by decide) (by decide) ?_
  exact ⟨Kp.1, rfl, ar, ah, E_o, F_re, F_he, F_si, A_ar, A_ah, ne_ar_o.symm, ne_ah_o.symm, ne_ah_ar.symm, g_o, g_ar, g_ah⟩
theorem P13m4_0 : Dc prog_13_method_4_code 0 (.aload_n 0) 1 1 := ⟨(by decide +kernel), rfl⟩
theorem P13m4_1 : Dc prog_13_method_4_code 1 (.getfield 21) 3 4 := ⟨(by decide +kernel), rfl⟩
theorem P13m4_4 : Dc prog_13_method_4_code 4 (.ireturn) 1 5 := ⟨(by decide +kernel), rfl⟩
theorem ef_P13m4_0 (m : MethodId) (o : Addr) : entryFrame m #[(.ref o)] 1 = mkF m 0 #[.val (.ref o)] [] := by first | (simp [entryFrame, mkF, argsToLocals, Value.category]; done) | rfl
set_option maxRecDepth 65536 in
set_option maxHeartbeats 40000000 in
theorem con_P13m4_0 (l : Launch) (Z : State) (a0 : Array Value) (hw : Tb tables_1 a0 Z) (o : Addr) (h0 : Heap) (n0 : Nat) (Z0 : n0 ≤ h0.size) (ar ah : Addr) (rs : List Int32) (hs : List Int64) (B : MT Z n0 h0 o ar ah rs hs 0) :
    Con l Z (⟨"com/example/kindred/kindred/CandidateJoin$Mates", "size", "()I"⟩ : MethodName) prog_13_method_4_code 1 (some (.int)) ({ frames := 0, cells := 0, slots := 0, locals := 0 } : Room) #[(.ref o)] h0 n0 (fun u h => h0 = h ∧ u = some (.int 0)) := by
  refine Con.of (plainFor_of_name (by decide +kernel)) Z0 ?_
  intro K hl hZ hn cx T0 X0
  subst hl hZ hn
  refine Run.cast (ef_P13m4_0 K.m o) ?_
  obtain ⟨E_o, F_re, F_he, F_si, A_ar, A_ah, ne_o_ar, ne_o_ah, ne_ar_ah, g_o, g_ar, g_ah⟩ := B
  refine r_aloadN X0 cx P13m4_0 rfl ?_
  refine r_getfield X0 cx P13m4_1 (hw.get 22 rfl) F_si (fun T1 X1 => ?_)
  refine r_ireturn X1 cx P13m4_4 (by decide) (by decide) ?_
  exact ⟨rfl, rfl⟩
theorem ef_P13m4_1 (m : MethodId) (o : Addr) : entryFrame m #[(.ref o)] 1 = mkF m 0 #[.val (.ref o)] [] := by first | (simp [entryFrame, mkF, argsToLocals, Value.category]; done) | rfl
set_option maxRecDepth 65536 in
set_option maxHeartbeats 40000000 in
theorem con_P13m4_1 (l : Launch) (Z : State) (a0 : Array Value) (hw : Tb tables_1 a0 Z) (o : Addr) (h0 : Heap) (n0 : Nat) (Z0 : n0 ≤ h0.size) (ar ah : Addr) (rs : List Int32) (hs : List Int64) (B : MT Z n0 h0 o ar ah rs hs 1) :
    Con l Z (⟨"com/example/kindred/kindred/CandidateJoin$Mates", "size", "()I"⟩ : MethodName) prog_13_method_4_code 1 (some (.int)) ({ frames := 0, cells := 0, slots := 0, locals := 0 } : Room) #[(.ref o)] h0 n0 (fun u h => h0 = h ∧ u = some (.int 1)) := by
  refine Con.of (plainFor_of_name (by decide +kernel)) Z0 ?_
  intro K hl hZ hn cx T0 X0
  subst hl hZ hn
  refine Run.cast (ef_P13m4_1 K.m o) ?_
  obtain ⟨E_o, F_re, F_he, F_si, A_ar, A_ah, ne_o_ar, ne_o_ah, ne_ar_ah, g_o, g_ar, g_ah⟩ := B
  refine r_aloadN X0 cx P13m4_0 rfl ?_
  refine r_getfield X0 cx P13m4_1 (hw.get 22 rfl) F_si (fun T1 X1 => ?_)
  refine r_ireturn X1 cx P13m4_4 (by decide) (by decide) ?_
  exact ⟨rfl, rfl⟩
theorem P13m5_0 : Dc prog_13_method_5_code 0 (.aload_n 0) 1 1 := ⟨(by decide +kernel), rfl⟩
theorem P13m5_1 : Dc prog_13_method_5_code 1 (.getfield 7) 3 4 := ⟨(by decide +kernel), rfl⟩
theorem P13m5_4 : Dc prog_13_method_5_code 4 (.iload_n 1) 1 5 := ⟨(by decide +kernel), rfl⟩
theorem P13m5_5 : Dc prog_13_method_5_code 5 (.iaload) 1 6 := ⟨(by decide +kernel), rfl⟩
theorem P13m5_6 : Dc prog_13_method_5_code 6 (.ireturn) 1 7 := ⟨(by decide +kernel), rfl⟩
theorem ef_P13m5 (m : MethodId) (o : Addr) : entryFrame m #[(.ref o), (.int (0 : Int32))] 2 = mkF m 0 #[.val (.ref o), .val (.int (0 : Int32))] [] := by first | (simp [entryFrame, mkF, argsToLocals, Value.category]; done) | rfl
set_option maxRecDepth 65536 in
set_option maxHeartbeats 40000000 in
theorem con_P13m5 (l : Launch) (Z : State) (a0 : Array Value) (hw : Tb tables_1 a0 Z) (o : Addr) (h0 : Heap) (n0 : Nat) (Z0 : n0 ≤ h0.size) (ar ah : Addr) (rs : List Int32) (hs : List Int64) (sz v : Int32) (B : MT Z n0 h0 o ar ah rs hs sz) (hv : rs[0]? = some v) :
    Con l Z (⟨"com/example/kindred/kindred/CandidateJoin$Mates", "get", "(I)I"⟩ : MethodName) prog_13_method_5_code 2 (some (.int)) ({ frames := 0, cells := 0, slots := 0, locals := 0 } : Room) #[(.ref o), (.int (0 : Int32))] h0 n0 (fun u h => h0 = h ∧ u = some (.int v)) := by
  refine Con.of (plainFor_of_name (by decide +kernel)) Z0 ?_
  intro K hl hZ hn cx T0 X0
  subst hl hZ hn
  refine Run.cast (ef_P13m5 K.m o) ?_
  obtain ⟨E_o, F_re, F_he, F_si, A_ar, A_ah, ne_o_ar, ne_o_ah, ne_ar_ah, g_o, g_ar, g_ah⟩ := B
  refine r_aloadN X0 cx P13m5_0 rfl ?_
  refine r_getfield X0 cx P13m5_1 (hw.get 11 rfl) F_re (fun T1 X1 => ?_)
  refine r_iloadN X1 cx P13m5_4 rfl ?_
  refine r_iaload X1 cx P13m5_5 A_ar (0) rfl (v := v) hv ?_
  refine r_ireturn X1 cx P13m5_6 (by decide) (by decide) ?_
  exact ⟨rfl, rfl⟩
theorem P13m2_0 : Dc prog_13_method_2_code 0 (.aload_n 0) 1 1 := ⟨(by decide +kernel), rfl⟩
theorem P13m2_1 : Dc prog_13_method_2_code 1 (.getfield 17) 3 4 := ⟨(by decide +kernel), rfl⟩
theorem P13m2_4 : Dc prog_13_method_2_code 4 (.iload_n 1) 1 5 := ⟨(by decide +kernel), rfl⟩
theorem P13m2_5 : Dc prog_13_method_2_code 5 (.bipush 6) 2 7 := ⟨(by decide +kernel), rfl⟩
theorem P13m2_7 : Dc prog_13_method_2_code 7 (.iushr) 1 8 := ⟨(by decide +kernel), rfl⟩
theorem P13m2_8 : Dc prog_13_method_2_code 8 (.laload) 1 9 := ⟨(by decide +kernel), rfl⟩
theorem P13m2_9 : Dc prog_13_method_2_code 9 (.lconst 1) 1 10 := ⟨(by decide +kernel), rfl⟩
theorem P13m2_10 : Dc prog_13_method_2_code 10 (.iload_n 1) 1 11 := ⟨(by decide +kernel), rfl⟩
theorem P13m2_11 : Dc prog_13_method_2_code 11 (.lshl) 1 12 := ⟨(by decide +kernel), rfl⟩
theorem P13m2_12 : Dc prog_13_method_2_code 12 (.land) 1 13 := ⟨(by decide +kernel), rfl⟩
theorem P13m2_13 : Dc prog_13_method_2_code 13 (.lconst 0) 1 14 := ⟨(by decide +kernel), rfl⟩
theorem P13m2_14 : Dc prog_13_method_2_code 14 (.lcmp) 1 15 := ⟨(by decide +kernel), rfl⟩
theorem P13m2_15 : Db prog_13_method_2_code 15 (.ifCond .eq 7) (7) 18 22 := ⟨(by decide +kernel), rfl, by decide, by decide⟩
theorem P13m2_18 : Dc prog_13_method_2_code 18 (.iconst 1) 1 19 := ⟨(by decide +kernel), rfl⟩
theorem P13m2_19 : Db prog_13_method_2_code 19 (.goto 4) (4) 22 23 := ⟨(by decide +kernel), rfl, by decide, by decide⟩
theorem P13m2_22 : Dc prog_13_method_2_code 22 (.iconst 0) 1 23 := ⟨(by decide +kernel), rfl⟩
theorem P13m2_23 : Dc prog_13_method_2_code 23 (.ireturn) 1 24 := ⟨(by decide +kernel), rfl⟩
theorem ef_P13m2 (m : MethodId) (o : Addr) (nr : Int32) : entryFrame m #[(.ref o), (.int nr)] 2 = mkF m 0 #[.val (.ref o), .val (.int nr)] [] := by first | (simp [entryFrame, mkF, argsToLocals, Value.category]; done) | rfl
set_option maxRecDepth 65536 in
set_option maxHeartbeats 40000000 in
theorem con_P13m2 (l : Launch) (Z : State) (a0 : Array Value) (hw : Tb tables_1 a0 Z) (o : Addr) (nr : Int32) (h0 : Heap) (n0 : Nat) (Z0 : n0 ≤ h0.size) (ar ah : Addr) (rs : List Int32) (hs : List Int64) (sz : Int32) (r : Nat) (B : MT Z n0 h0 o ar ah rs hs sz) (er : nr = Int32.ofNat r) (hr : r < 1024) (hl : r / 64 < hs.length) :
    Con l Z (⟨"com/example/kindred/kindred/CandidateJoin$Mates", "holds", "(I)Z"⟩ : MethodName) prog_13_method_2_code 2 (some (.boolean)) ({ frames := 0, cells := 0, slots := 0, locals := 0 } : Room) #[(.ref o), (.int nr)] h0 n0 (fun u h => h0 = h ∧ u = some (.int (own_holds hs r))) := by
  refine Con.of (plainFor_of_name (by decide +kernel)) Z0 ?_
  intro K hl hZ hn cx T0 X0
  subst hl hZ hn
  refine Run.cast (ef_P13m2 K.m o nr) ?_
  subst er
  obtain ⟨E_o, F_re, F_he, F_si, A_ar, A_ah, ne_o_ar, ne_o_ah, ne_ar_ah, g_o, g_ar, g_ah⟩ := B
  refine r_aloadN X0 cx P13m2_0 rfl ?_
  refine r_getfield X0 cx P13m2_1 (hw.get 15 rfl) F_he (fun T1 X1 => ?_)
  refine r_iloadN X1 cx P13m2_4 rfl ?_
  refine r_bipush (6) X1 cx P13m2_5 rfl ?_
  refine r_iushr X1 cx P13m2_7 ?_
  refine r_laload X1 cx P13m2_8 A_ah (r / 64) (own_us ⟨r, hr⟩).1 (v := (hs[r / 64]?.getD 0)) (own_gdL hl) ?_
  refine r_lconst (1) X1 cx P13m2_9 rfl ?_
  refine r_iloadN X1 cx P13m2_10 rfl ?_
  refine r_lshl X1 cx P13m2_11 ?_
  refine r_land X1 cx P13m2_12 ?_
  refine r_lconst (0) X1 cx P13m2_13 rfl ?_
  refine r_lcmp X1 cx P13m2_14 ?_
  refine r_lcmpeq X1 cx P13m2_15 (fun c15 => ?_) (fun c15 => ?_)
  · refine r_iconst (0) X1 cx P13m2_22 rfl ?_
    refine r_zreturn X1 cx P13m2_23 (by decide) (by decide) ?_
    exact ⟨rfl, by unfold own_holds; rw [if_pos (show hs[r / 64]?.getD 0 &&& own_bit r = 0 from c15)]; rfl⟩
  · refine r_iconst (1) X1 cx P13m2_18 rfl ?_
    refine r_goto X1 cx P13m2_19 ?_
    refine r_zreturn X1 cx P13m2_23 (by decide) (by decide) ?_
    exact ⟨rfl, by unfold own_holds; rw [if_neg (show ¬ hs[r / 64]?.getD 0 &&& own_bit r = 0 from c15)]; rfl⟩
theorem P13m3_0 : Dc prog_13_method_3_code 0 (.aload_n 0) 1 1 := ⟨(by decide +kernel), rfl⟩
theorem P13m3_1 : Dc prog_13_method_3_code 1 (.getfield 17) 3 4 := ⟨(by decide +kernel), rfl⟩
theorem P13m3_4 : Dc prog_13_method_3_code 4 (.iload_n 1) 1 5 := ⟨(by decide +kernel), rfl⟩
theorem P13m3_5 : Dc prog_13_method_3_code 5 (.bipush 6) 2 7 := ⟨(by decide +kernel), rfl⟩
theorem P13m3_7 : Dc prog_13_method_3_code 7 (.iushr) 1 8 := ⟨(by decide +kernel), rfl⟩
theorem P13m3_8 : Dc prog_13_method_3_code 8 (.dup2) 1 9 := ⟨(by decide +kernel), rfl⟩
theorem P13m3_9 : Dc prog_13_method_3_code 9 (.laload) 1 10 := ⟨(by decide +kernel), rfl⟩
theorem P13m3_10 : Dc prog_13_method_3_code 10 (.lconst 1) 1 11 := ⟨(by decide +kernel), rfl⟩
theorem P13m3_11 : Dc prog_13_method_3_code 11 (.iload_n 1) 1 12 := ⟨(by decide +kernel), rfl⟩
theorem P13m3_12 : Dc prog_13_method_3_code 12 (.lshl) 1 13 := ⟨(by decide +kernel), rfl⟩
theorem P13m3_13 : Dc prog_13_method_3_code 13 (.lor) 1 14 := ⟨(by decide +kernel), rfl⟩
theorem P13m3_14 : Dc prog_13_method_3_code 14 (.lastore) 1 15 := ⟨(by decide +kernel), rfl⟩
theorem P13m3_15 : Dc prog_13_method_3_code 15 (.aload_n 0) 1 16 := ⟨(by decide +kernel), rfl⟩
theorem P13m3_16 : Dc prog_13_method_3_code 16 (.getfield 21) 3 19 := ⟨(by decide +kernel), rfl⟩
theorem P13m3_19 : Dc prog_13_method_3_code 19 (.aload_n 0) 1 20 := ⟨(by decide +kernel), rfl⟩
theorem P13m3_20 : Dc prog_13_method_3_code 20 (.getfield 7) 3 23 := ⟨(by decide +kernel), rfl⟩
theorem P13m3_23 : Dc prog_13_method_3_code 23 (.arraylength) 1 24 := ⟨(by decide +kernel), rfl⟩
theorem P13m3_24 : Db prog_13_method_3_code 24 (.if_icmp .ne 26) (26) 27 50 := ⟨(by decide +kernel), rfl, by decide, by decide⟩
theorem P13m3_27 : Dc prog_13_method_3_code 27 (.aload_n 0) 1 28 := ⟨(by decide +kernel), rfl⟩
theorem P13m3_28 : Dc prog_13_method_3_code 28 (.aload_n 0) 1 29 := ⟨(by decide +kernel), rfl⟩
theorem P13m3_29 : Dc prog_13_method_3_code 29 (.getfield 7) 3 32 := ⟨(by decide +kernel), rfl⟩
theorem P13m3_32 : Dc prog_13_method_3_code 32 (.aload_n 0) 1 33 := ⟨(by decide +kernel), rfl⟩
theorem P13m3_33 : Dc prog_13_method_3_code 33 (.getfield 21) 3 36 := ⟨(by decide +kernel), rfl⟩
theorem P13m3_36 : Dc prog_13_method_3_code 36 (.i2l) 1 37 := ⟨(by decide +kernel), rfl⟩
theorem P13m3_37 : Dc prog_13_method_3_code 37 (.lconst 1) 1 38 := ⟨(by decide +kernel), rfl⟩
theorem P13m3_38 : Dc prog_13_method_3_code 38 (.ladd) 1 39 := ⟨(by decide +kernel), rfl⟩
theorem P13m3_39 : Dc prog_13_method_3_code 39 (.invokedynamic 25) 5 44 := ⟨(by decide +kernel), rfl⟩
theorem P13m3_44 : Dc prog_13_method_3_code 44 (.invokestatic 29) 3 47 := ⟨(by decide +kernel), rfl⟩
theorem P13m3_47 : Dc prog_13_method_3_code 47 (.putfield 7) 3 50 := ⟨(by decide +kernel), rfl⟩
theorem P13m3_50 : Dc prog_13_method_3_code 50 (.aload_n 0) 1 51 := ⟨(by decide +kernel), rfl⟩
theorem P13m3_51 : Dc prog_13_method_3_code 51 (.getfield 7) 3 54 := ⟨(by decide +kernel), rfl⟩
theorem P13m3_54 : Dc prog_13_method_3_code 54 (.aload_n 0) 1 55 := ⟨(by decide +kernel), rfl⟩
theorem P13m3_55 : Dc prog_13_method_3_code 55 (.dup) 1 56 := ⟨(by decide +kernel), rfl⟩
theorem P13m3_56 : Dc prog_13_method_3_code 56 (.getfield 21) 3 59 := ⟨(by decide +kernel), rfl⟩
theorem P13m3_59 : Dc prog_13_method_3_code 59 (.dup_x1) 1 60 := ⟨(by decide +kernel), rfl⟩
theorem P13m3_60 : Dc prog_13_method_3_code 60 (.iconst 1) 1 61 := ⟨(by decide +kernel), rfl⟩
theorem P13m3_61 : Dc prog_13_method_3_code 61 (.iadd) 1 62 := ⟨(by decide +kernel), rfl⟩
theorem P13m3_62 : Dc prog_13_method_3_code 62 (.putfield 21) 3 65 := ⟨(by decide +kernel), rfl⟩
theorem P13m3_65 : Dc prog_13_method_3_code 65 (.iload_n 1) 1 66 := ⟨(by decide +kernel), rfl⟩
theorem P13m3_66 : Dc prog_13_method_3_code 66 (.iastore) 1 67 := ⟨(by decide +kernel), rfl⟩
theorem P13m3_67 : Dc prog_13_method_3_code 67 (.return_) 1 68 := ⟨(by decide +kernel), rfl⟩
theorem ef_P13m3_0 (m : MethodId) (o : Addr) (nr : Int32) : entryFrame m #[(.ref o), (.int nr)] 2 = mkF m 0 #[.val (.ref o), .val (.int nr)] [] := by first | (simp [entryFrame, mkF, argsToLocals, Value.category]; done) | rfl
set_option maxRecDepth 65536 in
set_option maxHeartbeats 40000000 in
theorem con_P13m3_0 (l : Launch) (Z : State) (a0 : Array Value) (hw : Tb tables_1 a0 Z) (o : Addr) (nr : Int32) (h0 : Heap) (n0 : Nat) (Z0 : n0 ≤ h0.size) (ar ah : Addr) (rs : List Int32) (hs : List Int64) (r : Nat) (B : MT Z n0 h0 o ar ah rs hs 0) (er : nr = Int32.ofNat r) (hr : r < 1024) (hl : r / 64 < hs.length) (hrl : rs.length = 16) :
    Con l Z (⟨"com/example/kindred/kindred/CandidateJoin$Mates", "add", "(I)V"⟩ : MethodName) prog_13_method_3_code 2 (none) ({ frames := 0, cells := 0, slots := 0, locals := 0 } : Room) #[(.ref o), (.int nr)] h0 n0 (fun u h => h0.size ≤ h.size ∧ u = none ∧ MT Z n0 h o ar ah (rs.set 0 (Int32.ofNat r)) (own_add hs r) 1) := by
  refine Con.of (plainFor_of_name (by decide +kernel)) Z0 ?_
  intro K hl hZ hn cx T0 X0
  subst hl hZ hn
  refine Run.cast (ef_P13m3_0 K.m o nr) ?_
  subst er
  obtain ⟨E_o, F_re, F_he, F_si, A_ar, A_ah, ne_o_ar, ne_o_ah, ne_ar_ah, g_o, g_ar, g_ah⟩ := B
  have Kp : Keep h0 h0 [o, ar, ah] := Keep.refl _ _
  refine r_aloadN X0 cx P13m3_0 rfl ?_
  refine r_getfield X0 cx P13m3_1 (hw.get 15 rfl) F_he (fun T1 X1 => ?_)
  refine r_iloadN X1 cx P13m3_4 rfl ?_
  refine r_bipush (6) X1 cx P13m3_5 rfl ?_
  refine r_iushr X1 cx P13m3_7 ?_
  refine r_dup2 X1 cx P13m3_8 rfl rfl ?_
  refine r_laload X1 cx P13m3_9 A_ah (r / 64) (own_us ⟨r, hr⟩).1 (v := (hs[r / 64]?.getD 0)) (own_gdL hl) ?_
  refine r_lconst (1) X1 cx P13m3_10 rfl ?_
  refine r_iloadN X1 cx P13m3_11 rfl ?_
  refine r_lshl X1 cx P13m3_12 ?_
  refine r_lor X1 cx P13m3_13 ?_
  refine r_lastore X1 cx P13m3_14 A_ah (r / 64) (own_us ⟨r, hr⟩).1 hl g_ah (fun T2 h2 X2 W2 N2 => ?_)
  replace Kp := Kp.wr W2 (Or.inl (by simp))
  replace F_re := F_re.other W2 (Or.inl ne_o_ah)
  replace F_he := F_he.other W2 (Or.inl ne_o_ah)
  replace F_si := F_si.other W2 (Or.inl ne_o_ah)
  replace E_o := E_o.wr W2
  replace A_ar := A_ar.other W2 ne_ar_ah
  have A_ah : AJ K.Z h2 ah (own_add hs r) := N2
  refine r_aloadN X2 cx P13m3_15 rfl ?_
  refine r_getfield X2 cx P13m3_16 (hw.get 22 rfl) F_si (fun T3 X3 => ?_)
  refine r_aloadN X3 cx P13m3_19 rfl ?_
  refine r_getfield X3 cx P13m3_20 (hw.get 11 rfl) F_re (fun T4 X4 => ?_)
  refine r_alen X4 cx P13m3_23 A_ar (16) hrl ?_
  refine r_icmpne X4 cx P13m3_24 (fun _ => ?_) (fun c => absurd c (by decide))
  refine r_aloadN X4 cx P13m3_50 rfl ?_
  refine r_getfield X4 cx P13m3_51 (hw.get 11 rfl) F_re (fun T5 X5 => ?_)
  refine r_aloadN X5 cx P13m3_54 rfl ?_
  refine r_dup X5 cx P13m3_55 rfl ?_
  refine r_getfield X5 cx P13m3_56 (hw.get 22 rfl) F_si (fun T6 X6 => ?_)
  refine r_dup_x1 X6 cx P13m3_59 rfl rfl ?_
  refine r_iconst (1) X6 cx P13m3_60 rfl ?_
  refine r_iadd X6 cx P13m3_61 ?_
  refine r_top (v' := 1) (by decide) ?_
  refine r_putfield X6 cx P13m3_62 (hw.get 22 rfl) F_si E_o (Or.inl (hw.get 23 rfl)) (hw.get 2 rfl) (ty := .int) (by decide) rfl rfl g_o (fun T7 h7 X7 W7 N7 => ?_)
  replace Kp := Kp.wr W7 (Or.inl (by simp))
  replace F_re := F_re.other W7 (Or.inr (slot_ne (Or.inl (hw.get 12 rfl)) (Or.inl (hw.get 23 rfl)) (by decide) (t := .array .int) (t' := .int) (by decide) (by decide)))
  replace F_he := F_he.other W7 (Or.inr (slot_ne (Or.inr (hw.get 16 rfl)) (Or.inl (hw.get 23 rfl)) (by decide) (t := .array .long) (t' := .int) (by decide) (by decide)))
  replace E_o := E_o.wr W7
  replace A_ar := A_ar.other W7 ne_o_ar.symm
  replace A_ah := A_ah.other W7 ne_o_ah.symm
  have F_si := N7
  refine r_iloadN X7 cx P13m3_65 rfl ?_
  refine r_iastore X7 cx P13m3_66 A_ar (0) rfl (by omega) g_ar (fun T8 h8 X8 W8 N8 => ?_)
  replace Kp := Kp.wr W8 (Or.inl (by simp))
  replace F_re := F_re.other W8 (Or.inl ne_o_ar)
  replace F_he := F_he.other W8 (Or.inl ne_o_ar)
  replace F_si := F_si.other W8 (Or.inl ne_o_ar)
  replace E_o := E_o.wr W8
  replace A_ah := A_ah.other W8 ne_ar_ah.symm
  have A_ar : AI .int K.Z h8 ar (rs.set 0 (Int32.ofNat r)) := N8
  refine r_return X8 cx P13m3_67 (by decide) (by decide) ?_
  exact ⟨Kp.1, rfl, E_o, F_re, F_he, F_si, A_ar, A_ah, ne_o_ar, ne_o_ah, ne_ar_ah, g_o, g_ar, g_ah⟩
theorem ef_P13m3_1 (m : MethodId) (o : Addr) (nr : Int32) : entryFrame m #[(.ref o), (.int nr)] 2 = mkF m 0 #[.val (.ref o), .val (.int nr)] [] := by first | (simp [entryFrame, mkF, argsToLocals, Value.category]; done) | rfl
set_option maxRecDepth 65536 in
set_option maxHeartbeats 40000000 in
theorem con_P13m3_1 (l : Launch) (Z : State) (a0 : Array Value) (hw : Tb tables_1 a0 Z) (o : Addr) (nr : Int32) (h0 : Heap) (n0 : Nat) (Z0 : n0 ≤ h0.size) (ar ah : Addr) (rs : List Int32) (hs : List Int64) (r : Nat) (B : MT Z n0 h0 o ar ah rs hs 1) (er : nr = Int32.ofNat r) (hr : r < 1024) (hl : r / 64 < hs.length) (hrl : rs.length = 16) :
    Con l Z (⟨"com/example/kindred/kindred/CandidateJoin$Mates", "add", "(I)V"⟩ : MethodName) prog_13_method_3_code 2 (none) ({ frames := 0, cells := 0, slots := 0, locals := 0 } : Room) #[(.ref o), (.int nr)] h0 n0 (fun u h => h0.size ≤ h.size ∧ u = none ∧ MT Z n0 h o ar ah (rs.set 1 (Int32.ofNat r)) (own_add hs r) 2) := by
  refine Con.of (plainFor_of_name (by decide +kernel)) Z0 ?_
  intro K hl hZ hn cx T0 X0
  subst hl hZ hn
  refine Run.cast (ef_P13m3_1 K.m o nr) ?_
  subst er
  obtain ⟨E_o, F_re, F_he, F_si, A_ar, A_ah, ne_o_ar, ne_o_ah, ne_ar_ah, g_o, g_ar, g_ah⟩ := B
  have Kp : Keep h0 h0 [o, ar, ah] := Keep.refl _ _
  refine r_aloadN X0 cx P13m3_0 rfl ?_
  refine r_getfield X0 cx P13m3_1 (hw.get 15 rfl) F_he (fun T1 X1 => ?_)
  refine r_iloadN X1 cx P13m3_4 rfl ?_
  refine r_bipush (6) X1 cx P13m3_5 rfl ?_
  refine r_iushr X1 cx P13m3_7 ?_
  refine r_dup2 X1 cx P13m3_8 rfl rfl ?_
  refine r_laload X1 cx P13m3_9 A_ah (r / 64) (own_us ⟨r, hr⟩).1 (v := (hs[r / 64]?.getD 0)) (own_gdL hl) ?_
  refine r_lconst (1) X1 cx P13m3_10 rfl ?_
  refine r_iloadN X1 cx P13m3_11 rfl ?_
  refine r_lshl X1 cx P13m3_12 ?_
  refine r_lor X1 cx P13m3_13 ?_
  refine r_lastore X1 cx P13m3_14 A_ah (r / 64) (own_us ⟨r, hr⟩).1 hl g_ah (fun T2 h2 X2 W2 N2 => ?_)
  replace Kp := Kp.wr W2 (Or.inl (by simp))
  replace F_re := F_re.other W2 (Or.inl ne_o_ah)
  replace F_he := F_he.other W2 (Or.inl ne_o_ah)
  replace F_si := F_si.other W2 (Or.inl ne_o_ah)
  replace E_o := E_o.wr W2
  replace A_ar := A_ar.other W2 ne_ar_ah
  have A_ah : AJ K.Z h2 ah (own_add hs r) := N2
  refine r_aloadN X2 cx P13m3_15 rfl ?_
  refine r_getfield X2 cx P13m3_16 (hw.get 22 rfl) F_si (fun T3 X3 => ?_)
  refine r_aloadN X3 cx P13m3_19 rfl ?_
  refine r_getfield X3 cx P13m3_20 (hw.get 11 rfl) F_re (fun T4 X4 => ?_)
  refine r_alen X4 cx P13m3_23 A_ar (16) hrl ?_
  refine r_icmpne X4 cx P13m3_24 (fun _ => ?_) (fun c => absurd c (by decide))
  refine r_aloadN X4 cx P13m3_50 rfl ?_
  refine r_getfield X4 cx P13m3_51 (hw.get 11 rfl) F_re (fun T5 X5 => ?_)
  refine r_aloadN X5 cx P13m3_54 rfl ?_
  refine r_dup X5 cx P13m3_55 rfl ?_
  refine r_getfield X5 cx P13m3_56 (hw.get 22 rfl) F_si (fun T6 X6 => ?_)
  refine r_dup_x1 X6 cx P13m3_59 rfl rfl ?_
  refine r_iconst (1) X6 cx P13m3_60 rfl ?_
  refine r_iadd X6 cx P13m3_61 ?_
  refine r_top (v' := 2) (by decide) ?_
  refine r_putfield X6 cx P13m3_62 (hw.get 22 rfl) F_si E_o (Or.inl (hw.get 23 rfl)) (hw.get 2 rfl) (ty := .int) (by decide) rfl rfl g_o (fun T7 h7 X7 W7 N7 => ?_)
  replace Kp := Kp.wr W7 (Or.inl (by simp))
  replace F_re := F_re.other W7 (Or.inr (slot_ne (Or.inl (hw.get 12 rfl)) (Or.inl (hw.get 23 rfl)) (by decide) (t := .array .int) (t' := .int) (by decide) (by decide)))
  replace F_he := F_he.other W7 (Or.inr (slot_ne (Or.inr (hw.get 16 rfl)) (Or.inl (hw.get 23 rfl)) (by decide) (t := .array .long) (t' := .int) (by decide) (by decide)))
  replace E_o := E_o.wr W7
  replace A_ar := A_ar.other W7 ne_o_ar.symm
  replace A_ah := A_ah.other W7 ne_o_ah.symm
  have F_si := N7
  refine r_iloadN X7 cx P13m3_65 rfl ?_
  refine r_iastore X7 cx P13m3_66 A_ar (1) rfl (by omega) g_ar (fun T8 h8 X8 W8 N8 => ?_)
  replace Kp := Kp.wr W8 (Or.inl (by simp))
  replace F_re := F_re.other W8 (Or.inl ne_o_ar)
  replace F_he := F_he.other W8 (Or.inl ne_o_ar)
  replace F_si := F_si.other W8 (Or.inl ne_o_ar)
  replace E_o := E_o.wr W8
  replace A_ah := A_ah.other W8 ne_ar_ah.symm
  have A_ar : AI .int K.Z h8 ar (rs.set 1 (Int32.ofNat r)) := N8
  refine r_return X8 cx P13m3_67 (by decide) (by decide) ?_
  exact ⟨Kp.1, rfl, E_o, F_re, F_he, F_si, A_ar, A_ah, ne_o_ar, ne_o_ah, ne_ar_ah, g_o, g_ar, g_ah⟩
theorem ef_P13m3_2 (m : MethodId) (o : Addr) (nr : Int32) : entryFrame m #[(.ref o), (.int nr)] 2 = mkF m 0 #[.val (.ref o), .val (.int nr)] [] := by first | (simp [entryFrame, mkF, argsToLocals, Value.category]; done) | rfl
set_option maxRecDepth 65536 in
set_option maxHeartbeats 40000000 in
theorem con_P13m3_2 (l : Launch) (Z : State) (a0 : Array Value) (hw : Tb tables_1 a0 Z) (o : Addr) (nr : Int32) (h0 : Heap) (n0 : Nat) (Z0 : n0 ≤ h0.size) (ar ah : Addr) (rs : List Int32) (hs : List Int64) (r : Nat) (B : MT Z n0 h0 o ar ah rs hs 2) (er : nr = Int32.ofNat r) (hr : r < 1024) (hl : r / 64 < hs.length) (hrl : rs.length = 16) :
    Con l Z (⟨"com/example/kindred/kindred/CandidateJoin$Mates", "add", "(I)V"⟩ : MethodName) prog_13_method_3_code 2 (none) ({ frames := 0, cells := 0, slots := 0, locals := 0 } : Room) #[(.ref o), (.int nr)] h0 n0 (fun u h => h0.size ≤ h.size ∧ u = none ∧ MT Z n0 h o ar ah (rs.set 2 (Int32.ofNat r)) (own_add hs r) 3) := by
  refine Con.of (plainFor_of_name (by decide +kernel)) Z0 ?_
  intro K hl hZ hn cx T0 X0
  subst hl hZ hn
  refine Run.cast (ef_P13m3_2 K.m o nr) ?_
  subst er
  obtain ⟨E_o, F_re, F_he, F_si, A_ar, A_ah, ne_o_ar, ne_o_ah, ne_ar_ah, g_o, g_ar, g_ah⟩ := B
  have Kp : Keep h0 h0 [o, ar, ah] := Keep.refl _ _
  refine r_aloadN X0 cx P13m3_0 rfl ?_
  refine r_getfield X0 cx P13m3_1 (hw.get 15 rfl) F_he (fun T1 X1 => ?_)
  refine r_iloadN X1 cx P13m3_4 rfl ?_
  refine r_bipush (6) X1 cx P13m3_5 rfl ?_
  refine r_iushr X1 cx P13m3_7 ?_
  refine r_dup2 X1 cx P13m3_8 rfl rfl ?_
  refine r_laload X1 cx P13m3_9 A_ah (r / 64) (own_us ⟨r, hr⟩).1 (v := (hs[r / 64]?.getD 0)) (own_gdL hl) ?_
  refine r_lconst (1) X1 cx P13m3_10 rfl ?_
  refine r_iloadN X1 cx P13m3_11 rfl ?_
  refine r_lshl X1 cx P13m3_12 ?_
  refine r_lor X1 cx P13m3_13 ?_
  refine r_lastore X1 cx P13m3_14 A_ah (r / 64) (own_us ⟨r, hr⟩).1 hl g_ah (fun T2 h2 X2 W2 N2 => ?_)
  replace Kp := Kp.wr W2 (Or.inl (by simp))
  replace F_re := F_re.other W2 (Or.inl ne_o_ah)
  replace F_he := F_he.other W2 (Or.inl ne_o_ah)
  replace F_si := F_si.other W2 (Or.inl ne_o_ah)
  replace E_o := E_o.wr W2
  replace A_ar := A_ar.other W2 ne_ar_ah
  have A_ah : AJ K.Z h2 ah (own_add hs r) := N2
  refine r_aloadN X2 cx P13m3_15 rfl ?_
  refine r_getfield X2 cx P13m3_16 (hw.get 22 rfl) F_si (fun T3 X3 => ?_)
  refine r_aloadN X3 cx P13m3_19 rfl ?_
  refine r_getfield X3 cx P13m3_20 (hw.get 11 rfl) F_re (fun T4 X4 => ?_)
  refine r_alen X4 cx P13m3_23 A_ar (16) hrl ?_
  refine r_icmpne X4 cx P13m3_24 (fun _ => ?_) (fun c => absurd c (by decide))
  refine r_aloadN X4 cx P13m3_50 rfl ?_
  refine r_getfield X4 cx P13m3_51 (hw.get 11 rfl) F_re (fun T5 X5 => ?_)
  refine r_aloadN X5 cx P13m3_54 rfl ?_
  refine r_dup X5 cx P13m3_55 rfl ?_
  refine r_getfield X5 cx P13m3_56 (hw.get 22 rfl) F_si (fun T6 X6 => ?_)
  refine r_dup_x1 X6 cx P13m3_59 rfl rfl ?_
  refine r_iconst (1) X6 cx P13m3_60 rfl ?_
  refine r_iadd X6 cx P13m3_61 ?_
  refine r_top (v' := 3) (by decide) ?_
  refine r_putfield X6 cx P13m3_62 (hw.get 22 rfl) F_si E_o (Or.inl (hw.get 23 rfl)) (hw.get 2 rfl) (ty := .int) (by decide) rfl rfl g_o (fun T7 h7 X7 W7 N7 => ?_)
  replace Kp := Kp.wr W7 (Or.inl (by simp))
  replace F_re := F_re.other W7 (Or.inr (slot_ne (Or.inl (hw.get 12 rfl)) (Or.inl (hw.get 23 rfl)) (by decide) (t := .array .int) (t' := .int) (by decide) (by decide)))
  replace F_he := F_he.other W7 (Or.inr (slot_ne (Or.inr (hw.get 16 rfl)) (Or.inl (hw.get 23 rfl)) (by decide) (t := .array .long) (t' := .int) (by decide) (by decide)))
  replace E_o := E_o.wr W7
  replace A_ar := A_ar.other W7 ne_o_ar.symm
  replace A_ah := A_ah.other W7 ne_o_ah.symm
  have F_si := N7
  refine r_iloadN X7 cx P13m3_65 rfl ?_
  refine r_iastore X7 cx P13m3_66 A_ar (2) rfl (by omega) g_ar (fun T8 h8 X8 W8 N8 => ?_)
  replace Kp := Kp.wr W8 (Or.inl (by simp))
  replace F_re := F_re.other W8 (Or.inl ne_o_ar)
  replace F_he := F_he.other W8 (Or.inl ne_o_ar)
  replace F_si := F_si.other W8 (Or.inl ne_o_ar)
  replace E_o := E_o.wr W8
  replace A_ah := A_ah.other W8 ne_ar_ah.symm
  have A_ar : AI .int K.Z h8 ar (rs.set 2 (Int32.ofNat r)) := N8
  refine r_return X8 cx P13m3_67 (by decide) (by decide) ?_
  exact ⟨Kp.1, rfl, E_o, F_re, F_he, F_si, A_ar, A_ah, ne_o_ar, ne_o_ah, ne_ar_ah, g_o, g_ar, g_ah⟩
theorem P13m8_0 : Dc prog_13_method_8_code 0 (.iconst 0) 1 1 := ⟨(by decide +kernel), rfl⟩
theorem P13m8_1 : Dc prog_13_method_8_code 1 (.istore_n 1) 1 2 := ⟨(by decide +kernel), rfl⟩
theorem P13m8_2 : Dc prog_13_method_8_code 2 (.iload_n 1) 1 3 := ⟨(by decide +kernel), rfl⟩
theorem P13m8_3 : Dc prog_13_method_8_code 3 (.aload_n 0) 1 4 := ⟨(by decide +kernel), rfl⟩
theorem P13m8_4 : Dc prog_13_method_8_code 4 (.getfield 21) 3 7 := ⟨(by decide +kernel), rfl⟩
theorem P13m8_7 : Db prog_13_method_8_code 7 (.if_icmp .ge 24) (24) 10 31 := ⟨(by decide +kernel), rfl, by decide, by decide⟩
theorem P13m8_10 : Dc prog_13_method_8_code 10 (.aload_n 0) 1 11 := ⟨(by decide +kernel), rfl⟩
theorem P13m8_11 : Dc prog_13_method_8_code 11 (.getfield 17) 3 14 := ⟨(by decide +kernel), rfl⟩
theorem P13m8_14 : Dc prog_13_method_8_code 14 (.aload_n 0) 1 15 := ⟨(by decide +kernel), rfl⟩
theorem P13m8_15 : Dc prog_13_method_8_code 15 (.getfield 7) 3 18 := ⟨(by decide +kernel), rfl⟩
theorem P13m8_18 : Dc prog_13_method_8_code 18 (.iload_n 1) 1 19 := ⟨(by decide +kernel), rfl⟩
theorem P13m8_19 : Dc prog_13_method_8_code 19 (.iaload) 1 20 := ⟨(by decide +kernel), rfl⟩
theorem P13m8_20 : Dc prog_13_method_8_code 20 (.bipush 6) 2 22 := ⟨(by decide +kernel), rfl⟩
theorem P13m8_22 : Dc prog_13_method_8_code 22 (.iushr) 1 23 := ⟨(by decide +kernel), rfl⟩
theorem P13m8_23 : Dc prog_13_method_8_code 23 (.lconst 0) 1 24 := ⟨(by decide +kernel), rfl⟩
theorem P13m8_24 : Dc prog_13_method_8_code 24 (.lastore) 1 25 := ⟨(by decide +kernel), rfl⟩
theorem P13m8_25 : Dc prog_13_method_8_code 25 (.iinc 1 1) 3 28 := ⟨(by decide +kernel), rfl⟩
theorem P13m8_28 : Db prog_13_method_8_code 28 (.goto (-26)) (-26) 31 2 := ⟨(by decide +kernel), rfl, by decide, by decide⟩
theorem P13m8_31 : Dc prog_13_method_8_code 31 (.aload_n 0) 1 32 := ⟨(by decide +kernel), rfl⟩
theorem P13m8_32 : Dc prog_13_method_8_code 32 (.iconst 0) 1 33 := ⟨(by decide +kernel), rfl⟩
theorem P13m8_33 : Dc prog_13_method_8_code 33 (.putfield 21) 3 36 := ⟨(by decide +kernel), rfl⟩
theorem P13m8_36 : Dc prog_13_method_8_code 36 (.return_) 1 37 := ⟨(by decide +kernel), rfl⟩
theorem ef_P13m8_0 (m : MethodId) (o : Addr) : entryFrame m #[(.ref o)] 2 = mkF m 0 #[.val (.ref o), .unset] [] := by first | (simp [entryFrame, mkF, argsToLocals, Value.category]; done) | rfl
set_option maxRecDepth 65536 in
set_option maxHeartbeats 40000000 in
theorem con_P13m8_0 (l : Launch) (Z : State) (a0 : Array Value) (hw : Tb tables_1 a0 Z) (o : Addr) (h0 : Heap) (n0 : Nat) (Z0 : n0 ≤ h0.size) (ar ah : Addr) (rs : List Int32) (hs : List Int64) (B : MT Z n0 h0 o ar ah rs hs 0)  :
    Con l Z (⟨"com/example/kindred/kindred/CandidateJoin$Mates", "clear", "()V"⟩ : MethodName) prog_13_method_8_code 2 (none) ({ frames := 0, cells := 0, slots := 0, locals := 0 } : Room) #[(.ref o)] h0 n0 (fun u h => h0.size ≤ h.size ∧ u = none ∧ MT Z n0 h o ar ah rs hs 0) := by
  refine Con.of (plainFor_of_name (by decide +kernel)) Z0 ?_
  intro K hl hZ hn cx T0 X0
  subst hl hZ hn
  refine Run.cast (ef_P13m8_0 K.m o) ?_
  obtain ⟨E_o, F_re, F_he, F_si, A_ar, A_ah, ne_o_ar, ne_o_ah, ne_ar_ah, g_o, g_ar, g_ah⟩ := B
  have Kp : Keep h0 h0 [o, ah] := Keep.refl _ _
  refine r_iconst (0) X0 cx P13m8_0 rfl ?_
  refine r_istoreN (fun zz => #[.val (.ref o), .val (.int zz)]) X0 cx P13m8_1 (fun _ => rfl) (fun i1 e_i1 => ?_)
  subst e_i1
  refine r_iloadN X0 cx P13m8_2 rfl ?_
  refine r_aloadN X0 cx P13m8_3 rfl ?_
  refine r_getfield X0 cx P13m8_4 (hw.get 22 rfl) F_si (fun T2 X2 => ?_)
  refine r_icmpge X2 cx P13m8_7 (fun _ => ?_) (fun c => absurd c (by decide))
  refine r_aloadN X2 cx P13m8_31 rfl ?_
  refine r_iconst (0) X2 cx P13m8_32 rfl ?_
  refine r_putfield X2 cx P13m8_33 (hw.get 22 rfl) F_si E_o (Or.inl (hw.get 23 rfl)) (hw.get 2 rfl) (ty := .int) (by decide) rfl rfl g_o (fun T3 h3 X3 W3 N3 => ?_)
  replace Kp := Kp.wr W3 (Or.inl (by simp))
  replace F_re := F_re.other W3 (Or.inr (slot_ne (Or.inl (hw.get 12 rfl)) (Or.inl (hw.get 23 rfl)) (by decide) (t := .array .int) (t' := .int) (by decide) (by decide)))
  replace F_he := F_he.other W3 (Or.inr (slot_ne (Or.inr (hw.get 16 rfl)) (Or.inl (hw.get 23 rfl)) (by decide) (t := .array .long) (t' := .int) (by decide) (by decide)))
  replace E_o := E_o.wr W3
  replace A_ar := A_ar.other W3 ne_o_ar.symm
  replace A_ah := A_ah.other W3 ne_o_ah.symm
  have F_si := N3
  refine r_return X3 cx P13m8_36 (by decide) (by decide) ?_
  exact ⟨Kp.1, rfl, E_o, F_re, F_he, F_si, A_ar, A_ah, ne_o_ar, ne_o_ah, ne_ar_ah, g_o, g_ar, g_ah⟩
theorem ef_P13m8_1 (m : MethodId) (o : Addr) : entryFrame m #[(.ref o)] 2 = mkF m 0 #[.val (.ref o), .unset] [] := by first | (simp [entryFrame, mkF, argsToLocals, Value.category]; done) | rfl
set_option maxRecDepth 65536 in
set_option maxHeartbeats 40000000 in
theorem con_P13m8_1 (l : Launch) (Z : State) (a0 : Array Value) (hw : Tb tables_1 a0 Z) (o : Addr) (h0 : Heap) (n0 : Nat) (Z0 : n0 ≤ h0.size) (ar ah : Addr) (rs : List Int32) (hs : List Int64) (B : MT Z n0 h0 o ar ah rs hs 1) (r0 : Nat) (e0 : rs[0]? = some (Int32.ofNat r0)) (b0 : r0 < 1024) (l0 : r0 / 64 < hs.length) :
    Con l Z (⟨"com/example/kindred/kindred/CandidateJoin$Mates", "clear", "()V"⟩ : MethodName) prog_13_method_8_code 2 (none) ({ frames := 0, cells := 0, slots := 0, locals := 0 } : Room) #[(.ref o)] h0 n0 (fun u h => h0.size ≤ h.size ∧ u = none ∧ MT Z n0 h o ar ah rs (own_clr hs r0) 0) := by
  refine Con.of (plainFor_of_name (by decide +kernel)) Z0 ?_
  intro K hl hZ hn cx T0 X0
  subst hl hZ hn
  refine Run.cast (ef_P13m8_1 K.m o) ?_
  obtain ⟨E_o, F_re, F_he, F_si, A_ar, A_ah, ne_o_ar, ne_o_ah, ne_ar_ah, g_o, g_ar, g_ah⟩ := B
  have Kp : Keep h0 h0 [o, ah] := Keep.refl _ _
  refine r_iconst (0) X0 cx P13m8_0 rfl ?_
  refine r_istoreN (fun zz => #[.val (.ref o), .val (.int zz)]) X0 cx P13m8_1 (fun _ => rfl) (fun i1 e_i1 => ?_)
  subst e_i1
  refine r_iloadN X0 cx P13m8_2 rfl ?_
  refine r_aloadN X0 cx P13m8_3 rfl ?_
  refine r_getfield X0 cx P13m8_4 (hw.get 22 rfl) F_si (fun T2 X2 => ?_)
  refine r_icmpge X2 cx P13m8_7 (fun c => absurd c (by decide)) (fun _ => ?_)
  refine r_aloadN X2 cx P13m8_10 rfl ?_
  refine r_getfield X2 cx P13m8_11 (hw.get 15 rfl) F_he (fun T3 X3 => ?_)
  refine r_aloadN X3 cx P13m8_14 rfl ?_
  refine r_getfield X3 cx P13m8_15 (hw.get 11 rfl) F_re (fun T4 X4 => ?_)
  refine r_iloadN X4 cx P13m8_18 rfl ?_
  refine r_iaload X4 cx P13m8_19 A_ar (0) rfl (v := (Int32.ofNat r0)) e0 ?_
  refine r_bipush (6) X4 cx P13m8_20 rfl ?_
  refine r_iushr X4 cx P13m8_22 ?_
  refine r_lconst (0) X4 cx P13m8_23 rfl ?_
  refine r_lastore X4 cx P13m8_24 A_ah (r0 / 64) (own_us ⟨r0, b0⟩).1 l0 g_ah (fun T5 h5 X5 W5 N5 => ?_)
  replace Kp := Kp.wr W5 (Or.inl (by simp))
  replace F_re := F_re.other W5 (Or.inl ne_o_ah)
  replace F_he := F_he.other W5 (Or.inl ne_o_ah)
  replace F_si := F_si.other W5 (Or.inl ne_o_ah)
  replace E_o := E_o.wr W5
  replace A_ar := A_ar.other W5 ne_ar_ah
  have A_ah : AJ K.Z h5 ah (own_clr hs r0) := N5
  refine r_iinc (1 : Int32) (fun zz => #[.val (.ref o), .val (.int zz)]) X5 cx P13m8_25 rfl rfl (fun _ => rfl) (fun i6 e_i6 => ?_)
  obtain rfl : i6 = (1 : Int32) := e_i6
  refine r_goto X5 cx P13m8_28 ?_
  refine r_iloadN X5 cx P13m8_2 rfl ?_
  refine r_aloadN X5 cx P13m8_3 rfl ?_
  refine r_getfield X5 cx P13m8_4 (hw.get 22 rfl) F_si (fun T7 X7 => ?_)
  refine r_icmpge X7 cx P13m8_7 (fun _ => ?_) (fun c => absurd c (by decide))
  refine r_aloadN X7 cx P13m8_31 rfl ?_
  refine r_iconst (0) X7 cx P13m8_32 rfl ?_
  refine r_putfield X7 cx P13m8_33 (hw.get 22 rfl) F_si E_o (Or.inl (hw.get 23 rfl)) (hw.get 2 rfl) (ty := .int) (by decide) rfl rfl g_o (fun T8 h8 X8 W8 N8 => ?_)
  replace Kp := Kp.wr W8 (Or.inl (by simp))
  replace F_re := F_re.other W8 (Or.inr (slot_ne (Or.inl (hw.get 12 rfl)) (Or.inl (hw.get 23 rfl)) (by decide) (t := .array .int) (t' := .int) (by decide) (by decide)))
  replace F_he := F_he.other W8 (Or.inr (slot_ne (Or.inr (hw.get 16 rfl)) (Or.inl (hw.get 23 rfl)) (by decide) (t := .array .long) (t' := .int) (by decide) (by decide)))
  replace E_o := E_o.wr W8
  replace A_ar := A_ar.other W8 ne_o_ar.symm
  replace A_ah := A_ah.other W8 ne_o_ah.symm
  have F_si := N8
  refine r_return X8 cx P13m8_36 (by decide) (by decide) ?_
  exact ⟨Kp.1, rfl, E_o, F_re, F_he, F_si, A_ar, A_ah, ne_o_ar, ne_o_ah, ne_ar_ah, g_o, g_ar, g_ah⟩
theorem ef_P13m8_2 (m : MethodId) (o : Addr) : entryFrame m #[(.ref o)] 2 = mkF m 0 #[.val (.ref o), .unset] [] := by first | (simp [entryFrame, mkF, argsToLocals, Value.category]; done) | rfl
set_option maxRecDepth 65536 in
set_option maxHeartbeats 40000000 in
theorem con_P13m8_2 (l : Launch) (Z : State) (a0 : Array Value) (hw : Tb tables_1 a0 Z) (o : Addr) (h0 : Heap) (n0 : Nat) (Z0 : n0 ≤ h0.size) (ar ah : Addr) (rs : List Int32) (hs : List Int64) (B : MT Z n0 h0 o ar ah rs hs 2) (r0 : Nat) (e0 : rs[0]? = some (Int32.ofNat r0)) (b0 : r0 < 1024) (l0 : r0 / 64 < hs.length) (r1 : Nat) (e1 : rs[1]? = some (Int32.ofNat r1)) (b1 : r1 < 1024) (l1 : r1 / 64 < hs.length) :
    Con l Z (⟨"com/example/kindred/kindred/CandidateJoin$Mates", "clear", "()V"⟩ : MethodName) prog_13_method_8_code 2 (none) ({ frames := 0, cells := 0, slots := 0, locals := 0 } : Room) #[(.ref o)] h0 n0 (fun u h => h0.size ≤ h.size ∧ u = none ∧ MT Z n0 h o ar ah rs (own_clr (own_clr hs r0) r1) 0) := by
  refine Con.of (plainFor_of_name (by decide +kernel)) Z0 ?_
  intro K hl hZ hn cx T0 X0
  subst hl hZ hn
  refine Run.cast (ef_P13m8_2 K.m o) ?_
  obtain ⟨E_o, F_re, F_he, F_si, A_ar, A_ah, ne_o_ar, ne_o_ah, ne_ar_ah, g_o, g_ar, g_ah⟩ := B
  have Kp : Keep h0 h0 [o, ah] := Keep.refl _ _
  refine r_iconst (0) X0 cx P13m8_0 rfl ?_
  refine r_istoreN (fun zz => #[.val (.ref o), .val (.int zz)]) X0 cx P13m8_1 (fun _ => rfl) (fun i1 e_i1 => ?_)
  subst e_i1
  refine r_iloadN X0 cx P13m8_2 rfl ?_
  refine r_aloadN X0 cx P13m8_3 rfl ?_
  refine r_getfield X0 cx P13m8_4 (hw.get 22 rfl) F_si (fun T2 X2 => ?_)
  refine r_icmpge X2 cx P13m8_7 (fun c => absurd c (by decide)) (fun _ => ?_)
  refine r_aloadN X2 cx P13m8_10 rfl ?_
  refine r_getfield X2 cx P13m8_11 (hw.get 15 rfl) F_he (fun T3 X3 => ?_)
  refine r_aloadN X3 cx P13m8_14 rfl ?_
  refine r_getfield X3 cx P13m8_15 (hw.get 11 rfl) F_re (fun T4 X4 => ?_)
  refine r_iloadN X4 cx P13m8_18 rfl ?_
  refine r_iaload X4 cx P13m8_19 A_ar (0) rfl (v := (Int32.ofNat r0)) e0 ?_
  refine r_bipush (6) X4 cx P13m8_20 rfl ?_
  refine r_iushr X4 cx P13m8_22 ?_
  refine r_lconst (0) X4 cx P13m8_23 rfl ?_
  refine r_lastore X4 cx P13m8_24 A_ah (r0 / 64) (own_us ⟨r0, b0⟩).1 l0 g_ah (fun T5 h5 X5 W5 N5 => ?_)
  replace Kp := Kp.wr W5 (Or.inl (by simp))
  replace F_re := F_re.other W5 (Or.inl ne_o_ah)
  replace F_he := F_he.other W5 (Or.inl ne_o_ah)
  replace F_si := F_si.other W5 (Or.inl ne_o_ah)
  replace E_o := E_o.wr W5
  replace A_ar := A_ar.other W5 ne_ar_ah
  have A_ah : AJ K.Z h5 ah (own_clr hs r0) := N5
  refine r_iinc (1 : Int32) (fun zz => #[.val (.ref o), .val (.int zz)]) X5 cx P13m8_25 rfl rfl (fun _ => rfl) (fun i6 e_i6 => ?_)
  obtain rfl : i6 = (1 : Int32) := e_i6
  refine r_goto X5 cx P13m8_28 ?_
  refine r_iloadN X5 cx P13m8_2 rfl ?_
  refine r_aloadN X5 cx P13m8_3 rfl ?_
  refine r_getfield X5 cx P13m8_4 (hw.get 22 rfl) F_si (fun T7 X7 => ?_)
  refine r_icmpge X7 cx P13m8_7 (fun c => absurd c (by decide)) (fun _ => ?_)
  refine r_aloadN X7 cx P13m8_10 rfl ?_
  refine r_getfield X7 cx P13m8_11 (hw.get 15 rfl) F_he (fun T8 X8 => ?_)
  refine r_aloadN X8 cx P13m8_14 rfl ?_
  refine r_getfield X8 cx P13m8_15 (hw.get 11 rfl) F_re (fun T9 X9 => ?_)
  refine r_iloadN X9 cx P13m8_18 rfl ?_
  refine r_iaload X9 cx P13m8_19 A_ar (1) rfl (v := (Int32.ofNat r1)) e1 ?_
  refine r_bipush (6) X9 cx P13m8_20 rfl ?_
  refine r_iushr X9 cx P13m8_22 ?_
  refine r_lconst (0) X9 cx P13m8_23 rfl ?_
  refine r_lastore X9 cx P13m8_24 A_ah (r1 / 64) (own_us ⟨r1, b1⟩).1 (by simp only [own_lc]; exact l1) g_ah (fun T10 h10 X10 W10 N10 => ?_)
  replace Kp := Kp.wr W10 (Or.inl (by simp))
  replace F_re := F_re.other W10 (Or.inl ne_o_ah)
  replace F_he := F_he.other W10 (Or.inl ne_o_ah)
  replace F_si := F_si.other W10 (Or.inl ne_o_ah)
  replace E_o := E_o.wr W10
  replace A_ar := A_ar.other W10 ne_ar_ah
  have A_ah : AJ K.Z h10 ah (own_clr (own_clr hs r0) r1) := N10
  refine r_iinc (1 : Int32) (fun zz => #[.val (.ref o), .val (.int zz)]) X10 cx P13m8_25 rfl rfl (fun _ => rfl) (fun i11 e_i11 => ?_)
  obtain rfl : i11 = (2 : Int32) := e_i11
  refine r_goto X10 cx P13m8_28 ?_
  refine r_iloadN X10 cx P13m8_2 rfl ?_
  refine r_aloadN X10 cx P13m8_3 rfl ?_
  refine r_getfield X10 cx P13m8_4 (hw.get 22 rfl) F_si (fun T12 X12 => ?_)
  refine r_icmpge X12 cx P13m8_7 (fun _ => ?_) (fun c => absurd c (by decide))
  refine r_aloadN X12 cx P13m8_31 rfl ?_
  refine r_iconst (0) X12 cx P13m8_32 rfl ?_
  refine r_putfield X12 cx P13m8_33 (hw.get 22 rfl) F_si E_o (Or.inl (hw.get 23 rfl)) (hw.get 2 rfl) (ty := .int) (by decide) rfl rfl g_o (fun T13 h13 X13 W13 N13 => ?_)
  replace Kp := Kp.wr W13 (Or.inl (by simp))
  replace F_re := F_re.other W13 (Or.inr (slot_ne (Or.inl (hw.get 12 rfl)) (Or.inl (hw.get 23 rfl)) (by decide) (t := .array .int) (t' := .int) (by decide) (by decide)))
  replace F_he := F_he.other W13 (Or.inr (slot_ne (Or.inr (hw.get 16 rfl)) (Or.inl (hw.get 23 rfl)) (by decide) (t := .array .long) (t' := .int) (by decide) (by decide)))
  replace E_o := E_o.wr W13
  replace A_ar := A_ar.other W13 ne_o_ar.symm
  replace A_ah := A_ah.other W13 ne_o_ah.symm
  have F_si := N13
  refine r_return X13 cx P13m8_36 (by decide) (by decide) ?_
  exact ⟨Kp.1, rfl, E_o, F_re, F_he, F_si, A_ar, A_ah, ne_o_ar, ne_o_ah, ne_ar_ah, g_o, g_ar, g_ah⟩
theorem ef_P13m8_3 (m : MethodId) (o : Addr) : entryFrame m #[(.ref o)] 2 = mkF m 0 #[.val (.ref o), .unset] [] := by first | (simp [entryFrame, mkF, argsToLocals, Value.category]; done) | rfl
set_option maxRecDepth 65536 in
set_option maxHeartbeats 40000000 in
theorem con_P13m8_3 (l : Launch) (Z : State) (a0 : Array Value) (hw : Tb tables_1 a0 Z) (o : Addr) (h0 : Heap) (n0 : Nat) (Z0 : n0 ≤ h0.size) (ar ah : Addr) (rs : List Int32) (hs : List Int64) (B : MT Z n0 h0 o ar ah rs hs 3) (r0 : Nat) (e0 : rs[0]? = some (Int32.ofNat r0)) (b0 : r0 < 1024) (l0 : r0 / 64 < hs.length) (r1 : Nat) (e1 : rs[1]? = some (Int32.ofNat r1)) (b1 : r1 < 1024) (l1 : r1 / 64 < hs.length) (r2 : Nat) (e2 : rs[2]? = some (Int32.ofNat r2)) (b2 : r2 < 1024) (l2 : r2 / 64 < hs.length) :
    Con l Z (⟨"com/example/kindred/kindred/CandidateJoin$Mates", "clear", "()V"⟩ : MethodName) prog_13_method_8_code 2 (none) ({ frames := 0, cells := 0, slots := 0, locals := 0 } : Room) #[(.ref o)] h0 n0 (fun u h => h0.size ≤ h.size ∧ u = none ∧ MT Z n0 h o ar ah rs (own_clr (own_clr (own_clr hs r0) r1) r2) 0) := by
  refine Con.of (plainFor_of_name (by decide +kernel)) Z0 ?_
  intro K hl hZ hn cx T0 X0
  subst hl hZ hn
  refine Run.cast (ef_P13m8_3 K.m o) ?_
  obtain ⟨E_o, F_re, F_he, F_si, A_ar, A_ah, ne_o_ar, ne_o_ah, ne_ar_ah, g_o, g_ar, g_ah⟩ := B
  have Kp : Keep h0 h0 [o, ah] := Keep.refl _ _
  refine r_iconst (0) X0 cx P13m8_0 rfl ?_
  refine r_istoreN (fun zz => #[.val (.ref o), .val (.int zz)]) X0 cx P13m8_1 (fun _ => rfl) (fun i1 e_i1 => ?_)
  subst e_i1
  refine r_iloadN X0 cx P13m8_2 rfl ?_
  refine r_aloadN X0 cx P13m8_3 rfl ?_
  refine r_getfield X0 cx P13m8_4 (hw.get 22 rfl) F_si (fun T2 X2 => ?_)
  refine r_icmpge X2 cx P13m8_7 (fun c => absurd c (by decide)) (fun _ => ?_)
  refine r_aloadN X2 cx P13m8_10 rfl ?_
  refine r_getfield X2 cx P13m8_11 (hw.get 15 rfl) F_he (fun T3 X3 => ?_)
  refine r_aloadN X3 cx P13m8_14 rfl ?_
  refine r_getfield X3 cx P13m8_15 (hw.get 11 rfl) F_re (fun T4 X4 => ?_)
  refine r_iloadN X4 cx P13m8_18 rfl ?_
  refine r_iaload X4 cx P13m8_19 A_ar (0) rfl (v := (Int32.ofNat r0)) e0 ?_
  refine r_bipush (6) X4 cx P13m8_20 rfl ?_
  refine r_iushr X4 cx P13m8_22 ?_
  refine r_lconst (0) X4 cx P13m8_23 rfl ?_
  refine r_lastore X4 cx P13m8_24 A_ah (r0 / 64) (own_us ⟨r0, b0⟩).1 l0 g_ah (fun T5 h5 X5 W5 N5 => ?_)
  replace Kp := Kp.wr W5 (Or.inl (by simp))
  replace F_re := F_re.other W5 (Or.inl ne_o_ah)
  replace F_he := F_he.other W5 (Or.inl ne_o_ah)
  replace F_si := F_si.other W5 (Or.inl ne_o_ah)
  replace E_o := E_o.wr W5
  replace A_ar := A_ar.other W5 ne_ar_ah
  have A_ah : AJ K.Z h5 ah (own_clr hs r0) := N5
  refine r_iinc (1 : Int32) (fun zz => #[.val (.ref o), .val (.int zz)]) X5 cx P13m8_25 rfl rfl (fun _ => rfl) (fun i6 e_i6 => ?_)
  obtain rfl : i6 = (1 : Int32) := e_i6
  refine r_goto X5 cx P13m8_28 ?_
  refine r_iloadN X5 cx P13m8_2 rfl ?_
  refine r_aloadN X5 cx P13m8_3 rfl ?_
  refine r_getfield X5 cx P13m8_4 (hw.get 22 rfl) F_si (fun T7 X7 => ?_)
  refine r_icmpge X7 cx P13m8_7 (fun c => absurd c (by decide)) (fun _ => ?_)
  refine r_aloadN X7 cx P13m8_10 rfl ?_
  refine r_getfield X7 cx P13m8_11 (hw.get 15 rfl) F_he (fun T8 X8 => ?_)
  refine r_aloadN X8 cx P13m8_14 rfl ?_
  refine r_getfield X8 cx P13m8_15 (hw.get 11 rfl) F_re (fun T9 X9 => ?_)
  refine r_iloadN X9 cx P13m8_18 rfl ?_
  refine r_iaload X9 cx P13m8_19 A_ar (1) rfl (v := (Int32.ofNat r1)) e1 ?_
  refine r_bipush (6) X9 cx P13m8_20 rfl ?_
  refine r_iushr X9 cx P13m8_22 ?_
  refine r_lconst (0) X9 cx P13m8_23 rfl ?_
  refine r_lastore X9 cx P13m8_24 A_ah (r1 / 64) (own_us ⟨r1, b1⟩).1 (by simp only [own_lc]; exact l1) g_ah (fun T10 h10 X10 W10 N10 => ?_)
  replace Kp := Kp.wr W10 (Or.inl (by simp))
  replace F_re := F_re.other W10 (Or.inl ne_o_ah)
  replace F_he := F_he.other W10 (Or.inl ne_o_ah)
  replace F_si := F_si.other W10 (Or.inl ne_o_ah)
  replace E_o := E_o.wr W10
  replace A_ar := A_ar.other W10 ne_ar_ah
  have A_ah : AJ K.Z h10 ah (own_clr (own_clr hs r0) r1) := N10
  refine r_iinc (1 : Int32) (fun zz => #[.val (.ref o), .val (.int zz)]) X10 cx P13m8_25 rfl rfl (fun _ => rfl) (fun i11 e_i11 => ?_)
  obtain rfl : i11 = (2 : Int32) := e_i11
  refine r_goto X10 cx P13m8_28 ?_
  refine r_iloadN X10 cx P13m8_2 rfl ?_
  refine r_aloadN X10 cx P13m8_3 rfl ?_
  refine r_getfield X10 cx P13m8_4 (hw.get 22 rfl) F_si (fun T12 X12 => ?_)
  refine r_icmpge X12 cx P13m8_7 (fun c => absurd c (by decide)) (fun _ => ?_)
  refine r_aloadN X12 cx P13m8_10 rfl ?_
  refine r_getfield X12 cx P13m8_11 (hw.get 15 rfl) F_he (fun T13 X13 => ?_)
  refine r_aloadN X13 cx P13m8_14 rfl ?_
  refine r_getfield X13 cx P13m8_15 (hw.get 11 rfl) F_re (fun T14 X14 => ?_)
  refine r_iloadN X14 cx P13m8_18 rfl ?_
  refine r_iaload X14 cx P13m8_19 A_ar (2) rfl (v := (Int32.ofNat r2)) e2 ?_
  refine r_bipush (6) X14 cx P13m8_20 rfl ?_
  refine r_iushr X14 cx P13m8_22 ?_
  refine r_lconst (0) X14 cx P13m8_23 rfl ?_
  refine r_lastore X14 cx P13m8_24 A_ah (r2 / 64) (own_us ⟨r2, b2⟩).1 (by simp only [own_lc]; exact l2) g_ah (fun T15 h15 X15 W15 N15 => ?_)
  replace Kp := Kp.wr W15 (Or.inl (by simp))
  replace F_re := F_re.other W15 (Or.inl ne_o_ah)
  replace F_he := F_he.other W15 (Or.inl ne_o_ah)
  replace F_si := F_si.other W15 (Or.inl ne_o_ah)
  replace E_o := E_o.wr W15
  replace A_ar := A_ar.other W15 ne_ar_ah
  have A_ah : AJ K.Z h15 ah (own_clr (own_clr (own_clr hs r0) r1) r2) := N15
  refine r_iinc (1 : Int32) (fun zz => #[.val (.ref o), .val (.int zz)]) X15 cx P13m8_25 rfl rfl (fun _ => rfl) (fun i16 e_i16 => ?_)
  obtain rfl : i16 = (3 : Int32) := e_i16
  refine r_goto X15 cx P13m8_28 ?_
  refine r_iloadN X15 cx P13m8_2 rfl ?_
  refine r_aloadN X15 cx P13m8_3 rfl ?_
  refine r_getfield X15 cx P13m8_4 (hw.get 22 rfl) F_si (fun T17 X17 => ?_)
  refine r_icmpge X17 cx P13m8_7 (fun _ => ?_) (fun c => absurd c (by decide))
  refine r_aloadN X17 cx P13m8_31 rfl ?_
  refine r_iconst (0) X17 cx P13m8_32 rfl ?_
  refine r_putfield X17 cx P13m8_33 (hw.get 22 rfl) F_si E_o (Or.inl (hw.get 23 rfl)) (hw.get 2 rfl) (ty := .int) (by decide) rfl rfl g_o (fun T18 h18 X18 W18 N18 => ?_)
  replace Kp := Kp.wr W18 (Or.inl (by simp))
  replace F_re := F_re.other W18 (Or.inr (slot_ne (Or.inl (hw.get 12 rfl)) (Or.inl (hw.get 23 rfl)) (by decide) (t := .array .int) (t' := .int) (by decide) (by decide)))
  replace F_he := F_he.other W18 (Or.inr (slot_ne (Or.inr (hw.get 16 rfl)) (Or.inl (hw.get 23 rfl)) (by decide) (t := .array .long) (t' := .int) (by decide) (by decide)))
  replace E_o := E_o.wr W18
  replace A_ar := A_ar.other W18 ne_o_ar.symm
  replace A_ah := A_ah.other W18 ne_o_ah.symm
  have F_si := N18
  refine r_return X18 cx P13m8_36 (by decide) (by decide) ?_
  exact ⟨Kp.1, rfl, E_o, F_re, F_he, F_si, A_ar, A_ah, ne_o_ar, ne_o_ah, ne_ar_ah, g_o, g_ar, g_ah⟩
theorem own_irem (x y : Int32) (hx : 0 ≤ x.toInt) (hy : 0 < y.toInt) : (x - x / y * y).toInt = x.toInt % y.toInt := by
  have h1 : (x / y).toInt = x.toInt / y.toInt := by
    rw [Int32.toInt_div, Int.tdiv_eq_ediv_of_nonneg hx]
    have h2 := Int.ediv_nonneg hx (Int.le_of_lt hy)
    have h3 := Int.ediv_le_self y.toInt hx
    have := x.toInt_lt
    exact Int.bmod_eq_of_le (by omega) (by omega)
  have h2 : x.toInt / y.toInt * y.toInt = x.toInt - x.toInt % y.toInt := by
    have := Int.mul_ediv_add_emod x.toInt y.toInt
    rw [Int.mul_comm] at this; omega
  have h3 := Int.emod_nonneg x.toInt (Int.ne_of_gt hy)
  have h4 := Int.emod_lt_of_pos x.toInt hy
  have h5 : x.toInt % y.toInt ≤ x.toInt := by
    have := Int.ediv_nonneg hx (Int.le_of_lt hy)
    have := Int.mul_nonneg this (Int.le_of_lt hy)
    omega
  have := x.toInt_lt
  have hm : (x / y * y).toInt = x.toInt - x.toInt % y.toInt := by
    rw [Int32.toInt_mul, h1, h2]
    exact Int.bmod_eq_of_le (by omega) (by omega)
  rw [Int32.toInt_sub, hm]
  have : x.toInt - (x.toInt - x.toInt % y.toInt) = x.toInt % y.toInt := by omega
  rw [this]
  exact Int.bmod_eq_of_le (by omega) (by omega)
theorem own_and31 (x : Int32) : 0 ≤ (x &&& 2147483647).toInt := by
  have hle : (x &&& 2147483647).toBitVec.toNat ≤ 2147483647 := by
    rw [Int32.toBitVec_and, BitVec.toNat_and]; exact Nat.and_le_right
  show 0 ≤ (x &&& 2147483647).toBitVec.toInt
  rw [BitVec.toInt_eq_toNat_of_lt (by omega)]
  omega
theorem own_ir (x : Int32) {n : Nat} (hx : 0 ≤ x.toInt) (h1 : 1 ≤ n) (h2 : n < 2 ^ 31) : ∃ r : Nat, r < n ∧ x - x / Int32.ofNat n * Int32.ofNat n = Int32.ofNat r := by
  have hn : (Int32.ofNat n).toInt = n := Int32.toInt_ofNat_of_lt (by omega)
  have h := own_irem x (Int32.ofNat n) hx (by omega)
  rw [hn] at h
  have h3 := Int.emod_nonneg x.toInt (show (n : Int) ≠ 0 by omega)
  have h4 := Int.emod_lt_of_pos x.toInt (show (0 : Int) < n by omega)
  generalize x - x / Int32.ofNat n * Int32.ofNat n = r at h
  refine ⟨r.toInt.toNat, by omega, ?_⟩
  apply Int32.toInt_inj.mp
  rw [Int32.toInt_ofNat_of_lt (by omega)]
  omega
theorem own_mk (x : Int32) (m : Nat) (hm : m < 2 ^ 31) : ∃ n : Nat, n ≤ m ∧ x &&& Int32.ofNat m = Int32.ofNat n := by
  refine ⟨(x &&& Int32.ofNat m).toBitVec.toNat, ?_, ?_⟩
  · simp only [Int32.toBitVec_and, BitVec.toNat_and]
    refine Nat.le_trans Nat.and_le_right ?_
    show (BitVec.ofNat 32 m).toNat ≤ m
    rw [BitVec.toNat_ofNat]; exact Nat.mod_le _ _
  · apply Int32.toBitVec_inj.mp
    show _ = BitVec.ofNat 32 _
    rw [BitVec.ofNat_toNat]; simp
theorem own_m3 (x : Int32) : x &&& 3 = 0 ∨ x &&& 3 = 1 ∨ x &&& 3 = 2 ∨ x &&& 3 = 3 := by
  obtain ⟨n, h, e⟩ := own_mk x 3 (by decide)
  have e' : x &&& 3 = Int32.ofNat n := e
  rw [e']
  have : n = 0 ∨ n = 1 ∨ n = 2 ∨ n = 3 := by omega
  rcases this with rfl | rfl | rfl | rfl <;> decide
theorem own_n (x : Int32) : ∃ n : Nat, 1 ≤ n ∧ n ≤ 1024 ∧ (1 : Int32) + (x &&& 1023) = Int32.ofNat n := by
  obtain ⟨n, h, e⟩ := own_mk x 1023 (by decide)
  have e' : x &&& 1023 = Int32.ofNat n := e
  exact ⟨1 + n, by omega, by omega, by rw [e', Int32.ofNat_add]; rfl⟩
theorem own_nz {n : Nat} (h1 : 1 ≤ n) (h2 : n ≤ 1024) : Int32.ofNat n ≠ 0 := by
  intro q
  have := congrArg Int32.toInt q
  rw [Int32.toInt_ofNat_of_lt (by omega)] at this
  have h0 : (0 : Int32).toInt = 0 := rfl
  omega
theorem own_inj {a b : Nat} (ha : a < 1024) (hb : b < 1024) : Int32.ofNat a = Int32.ofNat b ↔ a = b := by
  rw [← Int32.toInt_inj, Int32.toInt_ofNat_of_lt (by omega), Int32.toInt_ofNat_of_lt (by omega)]
  omega
theorem L_0 : Dc code 0 (.iconst 1) 1 1 := ⟨at_0, rfl⟩
theorem L_1 : Dc code 1 (.iload_n 0) 1 2 := ⟨at_1, rfl⟩
theorem L_2 : Dc code 2 (.sipush 1023) 3 5 := ⟨at_2, rfl⟩
theorem L_5 : Dc code 5 (.iand) 1 6 := ⟨at_5, rfl⟩
theorem L_6 : Dc code 6 (.iadd) 1 7 := ⟨at_6, rfl⟩
theorem L_7 : Dc code 7 (.istore 6) 2 9 := ⟨at_7, rfl⟩
theorem L_9 : Dc code 9 (.iload_n 1) 1 10 := ⟨at_9, rfl⟩
theorem L_10 : Dc code 10 (.ldc 7) 2 12 := ⟨at_10, rfl⟩
theorem L_12 : Dc code 12 (.iand) 1 13 := ⟨at_12, rfl⟩
theorem L_13 : Dc code 13 (.iload 6) 2 15 := ⟨at_13, rfl⟩
theorem L_15 : Dc code 15 (.irem) 1 16 := ⟨at_15, rfl⟩
theorem L_16 : Dc code 16 (.istore 7) 2 18 := ⟨at_16, rfl⟩
theorem L_18 : Dc code 18 (.iload_n 2) 1 19 := ⟨at_18, rfl⟩
theorem L_19 : Dc code 19 (.ldc 7) 2 21 := ⟨at_19, rfl⟩
theorem L_21 : Dc code 21 (.iand) 1 22 := ⟨at_21, rfl⟩
theorem L_22 : Dc code 22 (.iload 6) 2 24 := ⟨at_22, rfl⟩
theorem L_24 : Dc code 24 (.irem) 1 25 := ⟨at_24, rfl⟩
theorem L_25 : Dc code 25 (.istore 8) 2 27 := ⟨at_25, rfl⟩
theorem L_27 : Dc code 27 (.iload_n 3) 1 28 := ⟨at_27, rfl⟩
theorem L_28 : Dc code 28 (.ldc 7) 2 30 := ⟨at_28, rfl⟩
theorem L_30 : Dc code 30 (.iand) 1 31 := ⟨at_30, rfl⟩
theorem L_31 : Dc code 31 (.iload 6) 2 33 := ⟨at_31, rfl⟩
theorem L_33 : Dc code 33 (.irem) 1 34 := ⟨at_33, rfl⟩
theorem L_34 : Dc code 34 (.istore 9) 2 36 := ⟨at_34, rfl⟩
theorem L_36 : Dc code 36 (.iload 5) 2 38 := ⟨at_36, rfl⟩
theorem L_38 : Dc code 38 (.ldc 7) 2 40 := ⟨at_38, rfl⟩
theorem L_40 : Dc code 40 (.iand) 1 41 := ⟨at_40, rfl⟩
theorem L_41 : Dc code 41 (.iload 6) 2 43 := ⟨at_41, rfl⟩
theorem L_43 : Dc code 43 (.irem) 1 44 := ⟨at_43, rfl⟩
theorem L_44 : Dc code 44 (.istore 10) 2 46 := ⟨at_44, rfl⟩
theorem L_46 : Dc code 46 (.iload 4) 2 48 := ⟨at_46, rfl⟩
theorem L_48 : Dc code 48 (.iconst 3) 1 49 := ⟨at_48, rfl⟩
theorem L_49 : Dc code 49 (.iand) 1 50 := ⟨at_49, rfl⟩
theorem L_50 : Dc code 50 (.istore 11) 2 52 := ⟨at_50, rfl⟩
theorem L_52 : Dc code 52 (.new 8) 3 55 := ⟨at_52, rfl⟩
theorem L_55 : Dc code 55 (.dup) 1 56 := ⟨at_55, rfl⟩
theorem L_56 : Dc code 56 (.iload 6) 2 58 := ⟨at_56, rfl⟩
theorem L_58 : Dc code 58 (.invokespecial 10) 3 61 := ⟨at_58, rfl⟩
theorem L_61 : Dc code 61 (.astore 12) 2 63 := ⟨at_61, rfl⟩
theorem L_63 : Dc code 63 (.iconst 0) 1 64 := ⟨at_63, rfl⟩
theorem L_64 : Dc code 64 (.istore 13) 2 66 := ⟨at_64, rfl⟩
theorem L_66 : Dc code 66 (.iconst 0) 1 67 := ⟨at_66, rfl⟩
theorem L_67 : Dc code 67 (.istore 14) 2 69 := ⟨at_67, rfl⟩
theorem L_69 : Dc code 69 (.iload 11) 2 71 := ⟨at_69, rfl⟩
theorem L_71 : Dc code 71 (.iconst 1) 1 72 := ⟨at_71, rfl⟩
theorem L_72 : Db code 72 (.if_icmp .lt 10) (10) 75 82 := ⟨at_72, rfl, by decide, by decide⟩
theorem L_75 : Dc code 75 (.aload 12) 2 77 := ⟨at_75, rfl⟩
theorem L_77 : Dc code 77 (.iload 7) 2 79 := ⟨at_77, rfl⟩
theorem L_79 : Dc code 79 (.invokevirtual 13) 3 82 := ⟨at_79, rfl⟩
theorem L_82 : Dc code 82 (.iload 11) 2 84 := ⟨at_82, rfl⟩
theorem L_84 : Dc code 84 (.iconst 2) 1 85 := ⟨at_84, rfl⟩
theorem L_85 : Db code 85 (.if_icmp .lt 20) (20) 88 105 := ⟨at_85, rfl, by decide, by decide⟩
theorem L_88 : Dc code 88 (.iload 8) 2 90 := ⟨at_88, rfl⟩
theorem L_90 : Dc code 90 (.iload 7) 2 92 := ⟨at_90, rfl⟩
theorem L_92 : Db code 92 (.if_icmp .eq 13) (13) 95 105 := ⟨at_92, rfl, by decide, by decide⟩
theorem L_95 : Dc code 95 (.aload 12) 2 97 := ⟨at_95, rfl⟩
theorem L_97 : Dc code 97 (.iload 8) 2 99 := ⟨at_97, rfl⟩
theorem L_99 : Dc code 99 (.invokevirtual 13) 3 102 := ⟨at_99, rfl⟩
theorem L_102 : Dc code 102 (.iconst 1) 1 103 := ⟨at_102, rfl⟩
theorem L_103 : Dc code 103 (.istore 13) 2 105 := ⟨at_103, rfl⟩
theorem L_105 : Dc code 105 (.iload 11) 2 107 := ⟨at_105, rfl⟩
theorem L_107 : Dc code 107 (.iconst 3) 1 108 := ⟨at_107, rfl⟩
theorem L_108 : Db code 108 (.if_icmp .lt 32) (32) 111 140 := ⟨at_108, rfl, by decide, by decide⟩
theorem L_111 : Dc code 111 (.iload 9) 2 113 := ⟨at_111, rfl⟩
theorem L_113 : Dc code 113 (.iload 7) 2 115 := ⟨at_113, rfl⟩
theorem L_115 : Db code 115 (.if_icmp .eq 25) (25) 118 140 := ⟨at_115, rfl, by decide, by decide⟩
theorem L_118 : Dc code 118 (.iload 13) 2 120 := ⟨at_118, rfl⟩
theorem L_120 : Db code 120 (.ifCond .eq 10) (10) 123 130 := ⟨at_120, rfl, by decide, by decide⟩
theorem L_123 : Dc code 123 (.iload 9) 2 125 := ⟨at_123, rfl⟩
theorem L_125 : Dc code 125 (.iload 8) 2 127 := ⟨at_125, rfl⟩
theorem L_127 : Db code 127 (.if_icmp .eq 13) (13) 130 140 := ⟨at_127, rfl, by decide, by decide⟩
theorem L_130 : Dc code 130 (.aload 12) 2 132 := ⟨at_130, rfl⟩
theorem L_132 : Dc code 132 (.iload 9) 2 134 := ⟨at_132, rfl⟩
theorem L_134 : Dc code 134 (.invokevirtual 13) 3 137 := ⟨at_134, rfl⟩
theorem L_137 : Dc code 137 (.iconst 1) 1 138 := ⟨at_137, rfl⟩
theorem L_138 : Dc code 138 (.istore 14) 2 140 := ⟨at_138, rfl⟩
theorem L_140 : Dc code 140 (.aload 12) 2 142 := ⟨at_140, rfl⟩
theorem L_142 : Dc code 142 (.invokevirtual 16) 3 145 := ⟨at_142, rfl⟩
theorem L_145 : Dc code 145 (.aload 12) 2 147 := ⟨at_145, rfl⟩
theorem L_147 : Dc code 147 (.invokevirtual 19) 3 150 := ⟨at_147, rfl⟩
theorem L_150 : Db code 150 (.ifCond .ne 7) (7) 153 157 := ⟨at_150, rfl, by decide, by decide⟩
theorem L_153 : Dc code 153 (.iconst 1) 1 154 := ⟨at_153, rfl⟩
theorem L_154 : Db code 154 (.goto 4) (4) 157 158 := ⟨at_154, rfl, by decide, by decide⟩
theorem L_157 : Dc code 157 (.iconst 0) 1 158 := ⟨at_157, rfl⟩
theorem L_158 : Dc code 158 (.istore 15) 2 160 := ⟨at_158, rfl⟩
theorem L_160 : Dc code 160 (.iload 15) 2 162 := ⟨at_160, rfl⟩
theorem L_162 : Db code 162 (.ifCond .eq 17) (17) 165 179 := ⟨at_162, rfl, by decide, by decide⟩
theorem L_165 : Dc code 165 (.aload 12) 2 167 := ⟨at_165, rfl⟩
theorem L_167 : Dc code 167 (.iload 8) 2 169 := ⟨at_167, rfl⟩
theorem L_169 : Dc code 169 (.invokevirtual 23) 3 172 := ⟨at_169, rfl⟩
theorem L_172 : Db code 172 (.ifCond .ne 7) (7) 175 179 := ⟨at_172, rfl, by decide, by decide⟩
theorem L_175 : Dc code 175 (.iconst 1) 1 176 := ⟨at_175, rfl⟩
theorem L_176 : Db code 176 (.goto 4) (4) 179 180 := ⟨at_176, rfl, by decide, by decide⟩
theorem L_179 : Dc code 179 (.iconst 0) 1 180 := ⟨at_179, rfl⟩
theorem L_180 : Dc code 180 (.istore 15) 2 182 := ⟨at_180, rfl⟩
theorem L_182 : Dc code 182 (.iload 15) 2 184 := ⟨at_182, rfl⟩
theorem L_184 : Db code 184 (.ifCond .eq 17) (17) 187 201 := ⟨at_184, rfl, by decide, by decide⟩
theorem L_187 : Dc code 187 (.aload 12) 2 189 := ⟨at_187, rfl⟩
theorem L_189 : Dc code 189 (.iload 9) 2 191 := ⟨at_189, rfl⟩
theorem L_191 : Dc code 191 (.invokevirtual 23) 3 194 := ⟨at_191, rfl⟩
theorem L_194 : Db code 194 (.ifCond .ne 7) (7) 197 201 := ⟨at_194, rfl, by decide, by decide⟩
theorem L_197 : Dc code 197 (.iconst 1) 1 198 := ⟨at_197, rfl⟩
theorem L_198 : Db code 198 (.goto 4) (4) 201 202 := ⟨at_198, rfl, by decide, by decide⟩
theorem L_201 : Dc code 201 (.iconst 0) 1 202 := ⟨at_201, rfl⟩
theorem L_202 : Dc code 202 (.istore 15) 2 204 := ⟨at_202, rfl⟩
theorem L_204 : Dc code 204 (.iload 15) 2 206 := ⟨at_204, rfl⟩
theorem L_206 : Db code 206 (.ifCond .ne 5) (5) 209 211 := ⟨at_206, rfl, by decide, by decide⟩
theorem L_209 : Dc code 209 (.iconst 0) 1 210 := ⟨at_209, rfl⟩
theorem L_210 : Dc code 210 (.ireturn) 1 211 := ⟨at_210, rfl⟩
theorem L_211 : Dc code 211 (.aload 12) 2 213 := ⟨at_211, rfl⟩
theorem L_213 : Dc code 213 (.iload 10) 2 215 := ⟨at_213, rfl⟩
theorem L_215 : Dc code 215 (.invokevirtual 13) 3 218 := ⟨at_215, rfl⟩
theorem L_218 : Dc code 218 (.aload 12) 2 220 := ⟨at_218, rfl⟩
theorem L_220 : Dc code 220 (.invokevirtual 19) 3 223 := ⟨at_220, rfl⟩
theorem L_223 : Dc code 223 (.iconst 1) 1 224 := ⟨at_223, rfl⟩
theorem L_224 : Db code 224 (.if_icmp .ne 7) (7) 227 231 := ⟨at_224, rfl, by decide, by decide⟩
theorem L_227 : Dc code 227 (.iconst 1) 1 228 := ⟨at_227, rfl⟩
theorem L_228 : Db code 228 (.goto 4) (4) 231 232 := ⟨at_228, rfl, by decide, by decide⟩
theorem L_231 : Dc code 231 (.iconst 0) 1 232 := ⟨at_231, rfl⟩
theorem L_232 : Dc code 232 (.istore 15) 2 234 := ⟨at_232, rfl⟩
theorem L_234 : Dc code 234 (.iload 15) 2 236 := ⟨at_234, rfl⟩
theorem L_236 : Db code 236 (.ifCond .eq 18) (18) 239 254 := ⟨at_236, rfl, by decide, by decide⟩
theorem L_239 : Dc code 239 (.aload 12) 2 241 := ⟨at_239, rfl⟩
theorem L_241 : Dc code 241 (.iconst 0) 1 242 := ⟨at_241, rfl⟩
theorem L_242 : Dc code 242 (.invokevirtual 27) 3 245 := ⟨at_242, rfl⟩
theorem L_245 : Dc code 245 (.iload 10) 2 247 := ⟨at_245, rfl⟩
theorem L_247 : Db code 247 (.if_icmp .ne 7) (7) 250 254 := ⟨at_247, rfl, by decide, by decide⟩
theorem L_250 : Dc code 250 (.iconst 1) 1 251 := ⟨at_250, rfl⟩
theorem L_251 : Db code 251 (.goto 4) (4) 254 255 := ⟨at_251, rfl, by decide, by decide⟩
theorem L_254 : Dc code 254 (.iconst 0) 1 255 := ⟨at_254, rfl⟩
theorem L_255 : Dc code 255 (.istore 15) 2 257 := ⟨at_255, rfl⟩
theorem L_257 : Dc code 257 (.iload 15) 2 259 := ⟨at_257, rfl⟩
theorem L_259 : Db code 259 (.ifCond .eq 17) (17) 262 276 := ⟨at_259, rfl, by decide, by decide⟩
theorem L_262 : Dc code 262 (.aload 12) 2 264 := ⟨at_262, rfl⟩
theorem L_264 : Dc code 264 (.iload 10) 2 266 := ⟨at_264, rfl⟩
theorem L_266 : Dc code 266 (.invokevirtual 23) 3 269 := ⟨at_266, rfl⟩
theorem L_269 : Db code 269 (.ifCond .eq 7) (7) 272 276 := ⟨at_269, rfl, by decide, by decide⟩
theorem L_272 : Dc code 272 (.iconst 1) 1 273 := ⟨at_272, rfl⟩
theorem L_273 : Db code 273 (.goto 4) (4) 276 277 := ⟨at_273, rfl, by decide, by decide⟩
theorem L_276 : Dc code 276 (.iconst 0) 1 277 := ⟨at_276, rfl⟩
theorem L_277 : Dc code 277 (.istore 15) 2 279 := ⟨at_277, rfl⟩
theorem L_279 : Dc code 279 (.iload 15) 2 281 := ⟨at_279, rfl⟩
theorem L_281 : Db code 281 (.ifCond .eq 29) (29) 284 310 := ⟨at_281, rfl, by decide, by decide⟩
theorem L_284 : Dc code 284 (.aload 12) 2 286 := ⟨at_284, rfl⟩
theorem L_286 : Dc code 286 (.iload 7) 2 288 := ⟨at_286, rfl⟩
theorem L_288 : Dc code 288 (.invokevirtual 23) 3 291 := ⟨at_288, rfl⟩
theorem L_291 : Dc code 291 (.iload 7) 2 293 := ⟨at_291, rfl⟩
theorem L_293 : Dc code 293 (.iload 10) 2 295 := ⟨at_293, rfl⟩
theorem L_295 : Db code 295 (.if_icmp .ne 7) (7) 298 302 := ⟨at_295, rfl, by decide, by decide⟩
theorem L_298 : Dc code 298 (.iconst 1) 1 299 := ⟨at_298, rfl⟩
theorem L_299 : Db code 299 (.goto 4) (4) 302 303 := ⟨at_299, rfl, by decide, by decide⟩
theorem L_302 : Dc code 302 (.iconst 0) 1 303 := ⟨at_302, rfl⟩
theorem L_303 : Db code 303 (.if_icmp .ne 7) (7) 306 310 := ⟨at_303, rfl, by decide, by decide⟩
theorem L_306 : Dc code 306 (.iconst 1) 1 307 := ⟨at_306, rfl⟩
theorem L_307 : Db code 307 (.goto 4) (4) 310 311 := ⟨at_307, rfl, by decide, by decide⟩
theorem L_310 : Dc code 310 (.iconst 0) 1 311 := ⟨at_310, rfl⟩
theorem L_311 : Dc code 311 (.istore 15) 2 313 := ⟨at_311, rfl⟩
theorem L_313 : Dc code 313 (.iload 15) 2 315 := ⟨at_313, rfl⟩
theorem L_315 : Db code 315 (.ifCond .eq 27) (27) 318 342 := ⟨at_315, rfl, by decide, by decide⟩
theorem L_318 : Dc code 318 (.iload 14) 2 320 := ⟨at_318, rfl⟩
theorem L_320 : Db code 320 (.ifCond .ne 8) (8) 323 328 := ⟨at_320, rfl, by decide, by decide⟩
theorem L_323 : Dc code 323 (.iload 14) 2 325 := ⟨at_323, rfl⟩
theorem L_325 : Db code 325 (.ifCond .ne 17) (17) 328 342 := ⟨at_325, rfl, by decide, by decide⟩
theorem L_328 : Dc code 328 (.iload 13) 2 330 := ⟨at_328, rfl⟩
theorem L_330 : Db code 330 (.ifCond .ne 8) (8) 333 338 := ⟨at_330, rfl, by decide, by decide⟩
theorem L_333 : Dc code 333 (.iload 13) 2 335 := ⟨at_333, rfl⟩
theorem L_335 : Db code 335 (.ifCond .ne 7) (7) 338 342 := ⟨at_335, rfl, by decide, by decide⟩
theorem L_338 : Dc code 338 (.iconst 1) 1 339 := ⟨at_338, rfl⟩
theorem L_339 : Db code 339 (.goto 4) (4) 342 343 := ⟨at_339, rfl, by decide, by decide⟩
theorem L_342 : Dc code 342 (.iconst 0) 1 343 := ⟨at_342, rfl⟩
theorem L_343 : Dc code 343 (.ireturn) 1 344 := ⟨at_343, rfl⟩
theorem ef_L (m : MethodId) (i0 : Int32) (i1 : Int32) (i2 : Int32) (i3 : Int32) (i4 : Int32) (i5 : Int32) : entryFrame m #[(.int i0), (.int i1), (.int i2), (.int i3), (.int i4), (.int i5)] maxLocals = mkF m 0 #[.val (.int i0), .val (.int i1), .val (.int i2), .val (.int i3), .val (.int i4), .val (.int i5), .unset, .unset, .unset, .unset, .unset, .unset, .unset, .unset, .unset, .unset] [] := by first | (simp [entryFrame, mkF, argsToLocals, Value.category, maxLocals]; done) | rfl
set_option maxRecDepth 65536 in
set_option maxHeartbeats 40000000 in
theorem con_L (l : Launch) (Z : State) (a0 : Array Value) (hw : Tb tables_1 a0 Z) (i0 : Int32) (i1 : Int32) (i2 : Int32) (i3 : Int32) (i4 : Int32) (i5 : Int32) (h0 : Heap) (n0 : Nat) (Z0 : n0 ≤ h0.size)  :
    Con l Z x code maxLocals ret room_1 #[(.int i0), (.int i1), (.int i2), (.int i3), (.int i4), (.int i5)] h0 n0 (fun v _ => v = some (.int 1)) := by
  refine Con.of (plainFor_of_name (by decide +kernel)) Z0 ?_
  intro K hl hZ hn cx T0 X0
  subst hl hZ hn
  refine Run.cast (ef_L K.m i0 i1 i2 i3 i4 i5) ?_
  refine r_iconst (1) X0 cx L_0 rfl ?_
  refine r_iloadN X0 cx L_1 rfl ?_
  refine r_sipush (1023) X0 cx L_2 rfl ?_
  refine r_iand X0 cx L_5 ?_
  refine r_iadd X0 cx L_6 ?_
  refine r_istore (fun zz => #[.val (.int i0), .val (.int i1), .val (.int i2), .val (.int i3), .val (.int i4), .val (.int i5), .val (.int zz), .unset, .unset, .unset, .unset, .unset, .unset, .unset, .unset, .unset]) X0 cx L_7 (fun _ => rfl) (fun nn e_nn => ?_)
  obtain ⟨n, hn1, hn2, q⟩ := own_n i0
  obtain rfl : nn = Int32.ofNat n := e_nn.trans q
  clear q
  refine r_iloadN X0 cx L_9 rfl ?_
  refine r_ldc X0 cx L_10 (hw.get 0 rfl) ?_
  refine r_iand X0 cx L_12 ?_
  refine r_iload X0 cx L_13 rfl ?_
  refine r_irem X0 cx L_15 (own_nz hn1 hn2) ?_
  refine r_istore (fun zz => #[.val (.int i0), .val (.int i1), .val (.int i2), .val (.int i3), .val (.int i4), .val (.int i5), .val (.int (Int32.ofNat n)), .val (.int zz), .unset, .unset, .unset, .unset, .unset, .unset, .unset, .unset]) X0 cx L_16 (fun _ => rfl) (fun na e_na => ?_)
  obtain ⟨ra, hra, q⟩ := own_ir (i1 &&& 2147483647) (n := n) (own_and31 i1) hn1 (by omega)
  obtain rfl : na = Int32.ofNat ra := e_na.trans q
  clear q
  refine r_iloadN X0 cx L_18 rfl ?_
  refine r_ldc X0 cx L_19 (hw.get 0 rfl) ?_
  refine r_iand X0 cx L_21 ?_
  refine r_iload X0 cx L_22 rfl ?_
  refine r_irem X0 cx L_24 (own_nz hn1 hn2) ?_
  refine r_istore (fun zz => #[.val (.int i0), .val (.int i1), .val (.int i2), .val (.int i3), .val (.int i4), .val (.int i5), .val (.int (Int32.ofNat n)), .val (.int (Int32.ofNat ra)), .val (.int zz), .unset, .unset, .unset, .unset, .unset, .unset, .unset]) X0 cx L_25 (fun _ => rfl) (fun nb e_nb => ?_)
  obtain ⟨rb, hrb, q⟩ := own_ir (i2 &&& 2147483647) (n := n) (own_and31 i2) hn1 (by omega)
  obtain rfl : nb = Int32.ofNat rb := e_nb.trans q
  clear q
  refine r_iloadN X0 cx L_27 rfl ?_
  refine r_ldc X0 cx L_28 (hw.get 0 rfl) ?_
  refine r_iand X0 cx L_30 ?_
  refine r_iload X0 cx L_31 rfl ?_
  refine r_irem X0 cx L_33 (own_nz hn1 hn2) ?_
  refine r_istore (fun zz => #[.val (.int i0), .val (.int i1), .val (.int i2), .val (.int i3), .val (.int i4), .val (.int i5), .val (.int (Int32.ofNat n)), .val (.int (Int32.ofNat ra)), .val (.int (Int32.ofNat rb)), .val (.int zz), .unset, .unset, .unset, .unset, .unset, .unset]) X0 cx L_34 (fun _ => rfl) (fun nc e_nc => ?_)
  obtain ⟨rc, hrc, q⟩ := own_ir (i3 &&& 2147483647) (n := n) (own_and31 i3) hn1 (by omega)
  obtain rfl : nc = Int32.ofNat rc := e_nc.trans q
  clear q
  refine r_iload X0 cx L_36 rfl ?_
  refine r_ldc X0 cx L_38 (hw.get 0 rfl) ?_
  refine r_iand X0 cx L_40 ?_
  refine r_iload X0 cx L_41 rfl ?_
  refine r_irem X0 cx L_43 (own_nz hn1 hn2) ?_
  refine r_istore (fun zz => #[.val (.int i0), .val (.int i1), .val (.int i2), .val (.int i3), .val (.int i4), .val (.int i5), .val (.int (Int32.ofNat n)), .val (.int (Int32.ofNat ra)), .val (.int (Int32.ofNat rb)), .val (.int (Int32.ofNat rc)), .val (.int zz), .unset, .unset, .unset, .unset, .unset]) X0 cx L_44 (fun _ => rfl) (fun np e_np => ?_)
  obtain ⟨rp, hrp, q⟩ := own_ir (i5 &&& 2147483647) (n := n) (own_and31 i5) hn1 (by omega)
  obtain rfl : np = Int32.ofNat rp := e_np.trans q
  clear q
  refine r_iload X0 cx L_46 rfl ?_
  refine r_iconst (3) X0 cx L_48 rfl ?_
  refine r_iand X0 cx L_49 ?_
  refine r_istore (fun zz => #[.val (.int i0), .val (.int i1), .val (.int i2), .val (.int i3), .val (.int i4), .val (.int i5), .val (.int (Int32.ofNat n)), .val (.int (Int32.ofNat ra)), .val (.int (Int32.ofNat rb)), .val (.int (Int32.ofNat rc)), .val (.int (Int32.ofNat rp)), .val (.int zz), .unset, .unset, .unset, .unset]) X0 cx L_50 (fun _ => rfl) (fun kk e_kk => ?_)
  refine r_new X0 cx L_52 (hw.get 1 rfl) (hw.get 2 rfl) (hw.get 3 rfl) (by decide) (by decide) (fun Tz1 hz1 o eaz1 g_o Xz1 Exz1 E_o Dz1 => ?_)
  have F__records_o := Dz1 (Or.inl (hw.get 12 rfl)) (ty := .array .int) (by decide)
  have F__held_o := Dz1 (Or.inr (hw.get 16 rfl)) (ty := .array .long) (by decide)
  have F__size_o := Dz1 (Or.inl (hw.get 23 rfl)) (ty := .int) (by decide)
  refine r_dup Xz1 cx L_55 rfl ?_
  refine r_iload Xz1 cx L_56 rfl ?_
  refine r_special [(.int (Int32.ofNat n))] [(.ref o)] Xz1 cx L_58 rfl (hw.get 4 rfl) (hw.get 5 rfl) (hw.get 3 rfl) (hw.get 6 rfl) (by decide) (con_P13m1 K.l K.Z a0 hw o (Int32.ofNat n) hz1 K.n0 Xz1.ge n rfl hn2 E_o F__records_o F__held_o F__size_o g_o) (lenOf pd_0 rfl) rfl rfl (by decide) (leb rfl) (by decide) (by decide) (fun Tz2 hz2 vz2 Xz2 qz2 => ?_) (fun _ _ q => q.1)
  obtain ⟨zz2, rfl, ar, ah, B⟩ := qz2
  refine r_astore #[.val (.int i0), .val (.int i1), .val (.int i2), .val (.int i3), .val (.int i4), .val (.int i5), .val (.int (Int32.ofNat n)), .val (.int (Int32.ofNat ra)), .val (.int (Int32.ofNat rb)), .val (.int (Int32.ofNat rc)), .val (.int (Int32.ofNat rp)), .val (.int kk), .val (.ref o), .unset, .unset, .unset] Xz2 cx L_61 rfl ?_
  refine r_iconst (0) Xz2 cx L_63 rfl ?_
  refine r_istore (fun zz => #[.val (.int i0), .val (.int i1), .val (.int i2), .val (.int i3), .val (.int i4), .val (.int i5), .val (.int (Int32.ofNat n)), .val (.int (Int32.ofNat ra)), .val (.int (Int32.ofNat rb)), .val (.int (Int32.ofNat rc)), .val (.int (Int32.ofNat rp)), .val (.int kk), .val (.ref o), .val (.int zz), .unset, .unset]) Xz2 cx L_64 (fun _ => rfl) (fun iz3 e_iz3 => ?_)
  subst e_iz3
  refine r_iconst (0) Xz2 cx L_66 rfl ?_
  refine r_istore (fun zz => #[.val (.int i0), .val (.int i1), .val (.int i2), .val (.int i3), .val (.int i4), .val (.int i5), .val (.int (Int32.ofNat n)), .val (.int (Int32.ofNat ra)), .val (.int (Int32.ofNat rb)), .val (.int (Int32.ofNat rc)), .val (.int (Int32.ofNat rp)), .val (.int kk), .val (.ref o), .val (.int (0 : Int32)), .val (.int zz), .unset]) Xz2 cx L_67 (fun _ => rfl) (fun iz4 e_iz4 => ?_)
  subst e_iz4
  have tail : ∀ (T : State) (h : Heap) (f1 f2 : Int32) (rs : List Int32), rs.length = 16 → Sd K T h 3 35 → MT K.Z K.n0 h o ar ah rs (List.replicate ((n + 63) / 64) 0) 0 → Run K (fun v _ => v = some (.int 1)) T (mkF K.m 145 #[.val (.int i0), .val (.int i1), .val (.int i2), .val (.int i3), .val (.int i4), .val (.int i5), .val (.int (Int32.ofNat n)), .val (.int (Int32.ofNat ra)), .val (.int (Int32.ofNat rb)), .val (.int (Int32.ofNat rc)), .val (.int (Int32.ofNat rp)), .val (.int kk), .val (.ref o), .val (.int f1), .val (.int f2), .unset] []) := by
    clear B
    intro T h f1 f2 rs hrl X B
    refine r_aload X cx L_145 rfl ?_
    refine r_virtual [] [] X cx L_147 B.1 (hw.get 24 rfl) (hw.get 25 rfl) (hw.get 27 rfl) (hw.get 26 rfl) (hw.get 3 rfl) (hw.get 28 rfl) (by decide) (con_P13m4_0 K.l K.Z a0 hw o h K.n0 X.ge ar ah rs (List.replicate ((n + 63) / 64) 0) B) (lenOf pd_1 rfl) rfl rfl (by decide) (leb rfl) (by decide) (by decide) (fun Tz5 hz5 vz5 Xz5 qz5 => ?_) (fun _ _ q => Nat.le_of_eq (congrArg Array.size q.1))
    obtain ⟨rfl, rfl⟩ := qz5
    refine r_ifne Xz5 cx L_150 (fun c => absurd c (by decide)) (fun _ => ?_)
    refine r_iconst (1) Xz5 cx L_153 rfl ?_
    refine r_goto Xz5 cx L_154 ?_
    refine r_istore (fun zz => #[.val (.int i0), .val (.int i1), .val (.int i2), .val (.int i3), .val (.int i4), .val (.int i5), .val (.int (Int32.ofNat n)), .val (.int (Int32.ofNat ra)), .val (.int (Int32.ofNat rb)), .val (.int (Int32.ofNat rc)), .val (.int (Int32.ofNat rp)), .val (.int kk), .val (.ref o), .val (.int f1), .val (.int f2), .val (.int zz)]) Xz5 cx L_158 (fun _ => rfl) (fun iz6 e_iz6 => ?_)
    subst e_iz6
    refine r_iload Xz5 cx L_160 rfl ?_
    refine r_ifeq Xz5 cx L_162 (fun c => absurd c (by decide)) (fun _ => ?_)
    refine r_aload Xz5 cx L_165 rfl ?_
    refine r_iload Xz5 cx L_167 rfl ?_
    refine r_virtual [(.int (Int32.ofNat rb))] [] Xz5 cx L_169 B.1 (hw.get 29 rfl) (hw.get 30 rfl) (hw.get 32 rfl) (hw.get 31 rfl) (hw.get 3 rfl) (hw.get 33 rfl) (by decide) (con_P13m2 K.l K.Z a0 hw o (Int32.ofNat rb) h K.n0 Xz5.ge ar ah rs (List.replicate ((n + 63) / 64) 0) 0 rb B rfl (by omega) (by first | (rw [own_fl]; simp; omega) | (simp; omega) | (simp [own_add]; omega))) (lenOf pd_2 rfl) rfl rfl (by decide) (leb rfl) (by decide) (by decide) (fun Tz7 hz7 vz7 Xz7 qz7 => ?_) (fun _ _ q => Nat.le_of_eq (congrArg Array.size q.1))
    obtain ⟨rfl, rfl⟩ := qz7
    refine r_top (v' := 0) (own_h0 _ _) ?_
    refine r_ifne Xz7 cx L_172 (fun c => absurd c (by decide)) (fun _ => ?_)
    refine r_iconst (1) Xz7 cx L_175 rfl ?_
    refine r_goto Xz7 cx L_176 ?_
    refine r_istore (fun zz => #[.val (.int i0), .val (.int i1), .val (.int i2), .val (.int i3), .val (.int i4), .val (.int i5), .val (.int (Int32.ofNat n)), .val (.int (Int32.ofNat ra)), .val (.int (Int32.ofNat rb)), .val (.int (Int32.ofNat rc)), .val (.int (Int32.ofNat rp)), .val (.int kk), .val (.ref o), .val (.int f1), .val (.int f2), .val (.int zz)]) Xz7 cx L_180 (fun _ => rfl) (fun iz8 e_iz8 => ?_)
    subst e_iz8
    refine r_iload Xz7 cx L_182 rfl ?_
    refine r_ifeq Xz7 cx L_184 (fun c => absurd c (by decide)) (fun _ => ?_)
    refine r_aload Xz7 cx L_187 rfl ?_
    refine r_iload Xz7 cx L_189 rfl ?_
    refine r_virtual [(.int (Int32.ofNat rc))] [] Xz7 cx L_191 B.1 (hw.get 29 rfl) (hw.get 30 rfl) (hw.get 32 rfl) (hw.get 31 rfl) (hw.get 3 rfl) (hw.get 33 rfl) (by decide) (con_P13m2 K.l K.Z a0 hw o (Int32.ofNat rc) h K.n0 Xz7.ge ar ah rs (List.replicate ((n + 63) / 64) 0) 0 rc B rfl (by omega) (by first | (rw [own_fl]; simp; omega) | (simp; omega) | (simp [own_add]; omega))) (lenOf pd_2 rfl) rfl rfl (by decide) (leb rfl) (by decide) (by decide) (fun Tz9 hz9 vz9 Xz9 qz9 => ?_) (fun _ _ q => Nat.le_of_eq (congrArg Array.size q.1))
    obtain ⟨rfl, rfl⟩ := qz9
    refine r_top (v' := 0) (own_h0 _ _) ?_
    refine r_ifne Xz9 cx L_194 (fun c => absurd c (by decide)) (fun _ => ?_)
    refine r_iconst (1) Xz9 cx L_197 rfl ?_
    refine r_goto Xz9 cx L_198 ?_
    refine r_istore (fun zz => #[.val (.int i0), .val (.int i1), .val (.int i2), .val (.int i3), .val (.int i4), .val (.int i5), .val (.int (Int32.ofNat n)), .val (.int (Int32.ofNat ra)), .val (.int (Int32.ofNat rb)), .val (.int (Int32.ofNat rc)), .val (.int (Int32.ofNat rp)), .val (.int kk), .val (.ref o), .val (.int f1), .val (.int f2), .val (.int zz)]) Xz9 cx L_202 (fun _ => rfl) (fun iz10 e_iz10 => ?_)
    subst e_iz10
    refine r_iload Xz9 cx L_204 rfl ?_
    refine r_ifne Xz9 cx L_206 (fun _ => ?_) (fun c => absurd c (by decide))
    refine r_aload Xz9 cx L_211 rfl ?_
    refine r_iload Xz9 cx L_213 rfl ?_
    refine r_virtual [(.int (Int32.ofNat rp))] [] Xz9 cx L_215 B.1 (hw.get 34 rfl) (hw.get 35 rfl) (hw.get 37 rfl) (hw.get 36 rfl) (hw.get 3 rfl) (hw.get 38 rfl) (by decide) (con_P13m3_0 K.l K.Z a0 hw o (Int32.ofNat rp) h K.n0 Xz9.ge ar ah rs (List.replicate ((n + 63) / 64) 0) rp B rfl (by omega) (by first | (rw [own_fl]; simp; omega) | (simp; omega) | (simp [own_add]; omega)) hrl) (lenOf pd_0 rfl) rfl rfl (by decide) (leb rfl) (by decide) (by decide) (fun Tz11 hz11 vz11 Xz11 qz11 => ?_) (fun _ _ q => q.1)
    obtain ⟨zz11, rfl, B⟩ := qz11
    replace B : MT K.Z K.n0 hz11 o ar ah (rs.set 0 (Int32.ofNat rp)) (own_add (List.replicate ((n + 63) / 64) 0) rp) 1 := B
    refine r_aload Xz11 cx L_218 rfl ?_
    refine r_virtual [] [] Xz11 cx L_220 B.1 (hw.get 24 rfl) (hw.get 25 rfl) (hw.get 27 rfl) (hw.get 26 rfl) (hw.get 3 rfl) (hw.get 28 rfl) (by decide) (con_P13m4_1 K.l K.Z a0 hw o hz11 K.n0 Xz11.ge ar ah (rs.set 0 (Int32.ofNat rp)) (own_add (List.replicate ((n + 63) / 64) 0) rp) B) (lenOf pd_1 rfl) rfl rfl (by decide) (leb rfl) (by decide) (by decide) (fun Tz12 hz12 vz12 Xz12 qz12 => ?_) (fun _ _ q => Nat.le_of_eq (congrArg Array.size q.1))
    obtain ⟨rfl, rfl⟩ := qz12
    refine r_iconst (1) Xz12 cx L_223 rfl ?_
    refine r_icmpne Xz12 cx L_224 (fun c => absurd c (by decide)) (fun _ => ?_)
    refine r_iconst (1) Xz12 cx L_227 rfl ?_
    refine r_goto Xz12 cx L_228 ?_
    refine r_istore (fun zz => #[.val (.int i0), .val (.int i1), .val (.int i2), .val (.int i3), .val (.int i4), .val (.int i5), .val (.int (Int32.ofNat n)), .val (.int (Int32.ofNat ra)), .val (.int (Int32.ofNat rb)), .val (.int (Int32.ofNat rc)), .val (.int (Int32.ofNat rp)), .val (.int kk), .val (.ref o), .val (.int f1), .val (.int f2), .val (.int zz)]) Xz12 cx L_232 (fun _ => rfl) (fun iz13 e_iz13 => ?_)
    subst e_iz13
    refine r_iload Xz12 cx L_234 rfl ?_
    refine r_ifeq Xz12 cx L_236 (fun c => absurd c (by decide)) (fun _ => ?_)
    refine r_aload Xz12 cx L_239 rfl ?_
    refine r_iconst (0) Xz12 cx L_241 rfl ?_
    refine r_virtual [(.int (0 : Int32))] [] Xz12 cx L_242 B.1 (hw.get 39 rfl) (hw.get 40 rfl) (hw.get 42 rfl) (hw.get 41 rfl) (hw.get 3 rfl) (hw.get 43 rfl) (by decide) (con_P13m5 K.l K.Z a0 hw o hz11 K.n0 Xz12.ge ar ah (rs.set 0 (Int32.ofNat rp)) (own_add (List.replicate ((n + 63) / 64) 0) rp) 1 (Int32.ofNat rp) B (List.getElem?_set_self (by omega))) (lenOf pd_3 rfl) rfl rfl (by decide) (leb rfl) (by decide) (by decide) (fun Tz14 hz14 vz14 Xz14 qz14 => ?_) (fun _ _ q => Nat.le_of_eq (congrArg Array.size q.1))
    obtain ⟨rfl, rfl⟩ := qz14
    refine r_iload Xz14 cx L_245 rfl ?_
    refine r_icmpne Xz14 cx L_247 (fun c247 => ?_) (fun c247 => ?_)
    · exact absurd rfl c247
    · refine r_iconst (1) Xz14 cx L_250 rfl ?_
      refine r_goto Xz14 cx L_251 ?_
      refine r_istore (fun zz => #[.val (.int i0), .val (.int i1), .val (.int i2), .val (.int i3), .val (.int i4), .val (.int i5), .val (.int (Int32.ofNat n)), .val (.int (Int32.ofNat ra)), .val (.int (Int32.ofNat rb)), .val (.int (Int32.ofNat rc)), .val (.int (Int32.ofNat rp)), .val (.int kk), .val (.ref o), .val (.int f1), .val (.int f2), .val (.int zz)]) Xz14 cx L_255 (fun _ => rfl) (fun iz15 e_iz15 => ?_)
      subst e_iz15
      refine r_iload Xz14 cx L_257 rfl ?_
      refine r_ifeq Xz14 cx L_259 (fun c => absurd c (by decide)) (fun _ => ?_)
      refine r_aload Xz14 cx L_262 rfl ?_
      refine r_iload Xz14 cx L_264 rfl ?_
      refine r_virtual [(.int (Int32.ofNat rp))] [] Xz14 cx L_266 B.1 (hw.get 29 rfl) (hw.get 30 rfl) (hw.get 32 rfl) (hw.get 31 rfl) (hw.get 3 rfl) (hw.get 33 rfl) (by decide) (con_P13m2 K.l K.Z a0 hw o (Int32.ofNat rp) hz11 K.n0 Xz14.ge ar ah (rs.set 0 (Int32.ofNat rp)) (own_add (List.replicate ((n + 63) / 64) 0) rp) 1 rp B rfl (by omega) (by first | (rw [own_fl]; simp; omega) | (simp; omega) | (simp [own_add]; omega))) (lenOf pd_2 rfl) rfl rfl (by decide) (leb rfl) (by decide) (by decide) (fun Tz16 hz16 vz16 Xz16 qz16 => ?_) (fun _ _ q => Nat.le_of_eq (congrArg Array.size q.1))
      obtain ⟨rfl, rfl⟩ := qz16
      refine r_top (v' := 1) ((own_h1 (by omega) (by omega) (by omega)).trans (if_pos rfl)) ?_
      refine r_ifeq Xz16 cx L_269 (fun c => absurd c (by decide)) (fun _ => ?_)
      refine r_iconst (1) Xz16 cx L_272 rfl ?_
      refine r_goto Xz16 cx L_273 ?_
      refine r_istore (fun zz => #[.val (.int i0), .val (.int i1), .val (.int i2), .val (.int i3), .val (.int i4), .val (.int i5), .val (.int (Int32.ofNat n)), .val (.int (Int32.ofNat ra)), .val (.int (Int32.ofNat rb)), .val (.int (Int32.ofNat rc)), .val (.int (Int32.ofNat rp)), .val (.int kk), .val (.ref o), .val (.int f1), .val (.int f2), .val (.int zz)]) Xz16 cx L_277 (fun _ => rfl) (fun iz17 e_iz17 => ?_)
      subst e_iz17
      refine r_iload Xz16 cx L_279 rfl ?_
      refine r_ifeq Xz16 cx L_281 (fun c => absurd c (by decide)) (fun _ => ?_)
      refine r_aload Xz16 cx L_284 rfl ?_
      refine r_iload Xz16 cx L_286 rfl ?_
      refine r_virtual [(.int (Int32.ofNat ra))] [] Xz16 cx L_288 B.1 (hw.get 29 rfl) (hw.get 30 rfl) (hw.get 32 rfl) (hw.get 31 rfl) (hw.get 3 rfl) (hw.get 33 rfl) (by decide) (con_P13m2 K.l K.Z a0 hw o (Int32.ofNat ra) hz11 K.n0 Xz16.ge ar ah (rs.set 0 (Int32.ofNat rp)) (own_add (List.replicate ((n + 63) / 64) 0) rp) 1 ra B rfl (by omega) (by first | (rw [own_fl]; simp; omega) | (simp; omega) | (simp [own_add]; omega))) (lenOf pd_2 rfl) rfl rfl (by decide) (leb rfl) (by decide) (by decide) (fun Tz18 hz18 vz18 Xz18 qz18 => ?_) (fun _ _ q => Nat.le_of_eq (congrArg Array.size q.1))
      obtain ⟨rfl, rfl⟩ := qz18
      refine r_iload Xz18 cx L_291 rfl ?_
      refine r_iload Xz18 cx L_293 rfl ?_
      refine r_icmpne Xz18 cx L_295 (fun c295 => ?_) (fun c295 => ?_)
      · refine r_iconst (0) Xz18 cx L_302 rfl ?_
        refine r_icmpne Xz18 cx L_303 (fun c303 => ?_) (fun c303 => ?_)
        · exfalso
          apply c303
          rw [own_h1 (by omega) (by omega) (by omega)]
          rw [own_inj (by omega) (by omega)] at c295
          first | rw [if_pos c295] | rw [if_neg c295]
        · refine r_iconst (1) Xz18 cx L_306 rfl ?_
          refine r_goto Xz18 cx L_307 ?_
          refine r_istore (fun zz => #[.val (.int i0), .val (.int i1), .val (.int i2), .val (.int i3), .val (.int i4), .val (.int i5), .val (.int (Int32.ofNat n)), .val (.int (Int32.ofNat ra)), .val (.int (Int32.ofNat rb)), .val (.int (Int32.ofNat rc)), .val (.int (Int32.ofNat rp)), .val (.int kk), .val (.ref o), .val (.int f1), .val (.int f2), .val (.int zz)]) Xz18 cx L_311 (fun _ => rfl) (fun iz19 e_iz19 => ?_)
          subst e_iz19
          refine r_iload Xz18 cx L_313 rfl ?_
          refine r_ifeq Xz18 cx L_315 (fun c => absurd c (by decide)) (fun _ => ?_)
          refine r_iload Xz18 cx L_318 rfl ?_
          refine r_ifne Xz18 cx L_320 (fun c320 => ?_) (fun c320 => ?_)
          · refine r_iload Xz18 cx L_328 rfl ?_
            refine r_ifne Xz18 cx L_330 (fun c330 => ?_) (fun c330 => ?_)
            · refine r_iconst (1) Xz18 cx L_338 rfl ?_
              refine r_goto Xz18 cx L_339 ?_
              refine r_zreturn Xz18 cx L_343 (by decide) (by decide) ?_
              rfl
            · refine r_iload Xz18 cx L_333 rfl ?_
              refine r_ifne Xz18 cx L_335 (fun c335 => ?_) (fun c335 => ?_)
              · exact absurd c330 c335
              · refine r_iconst (1) Xz18 cx L_338 rfl ?_
                refine r_goto Xz18 cx L_339 ?_
                refine r_zreturn Xz18 cx L_343 (by decide) (by decide) ?_
                rfl
          · refine r_iload Xz18 cx L_323 rfl ?_
            refine r_ifne Xz18 cx L_325 (fun c325 => ?_) (fun c325 => ?_)
            · exact absurd c320 c325
            · refine r_iload Xz18 cx L_328 rfl ?_
              refine r_ifne Xz18 cx L_330 (fun c330 => ?_) (fun c330 => ?_)
              · refine r_iconst (1) Xz18 cx L_338 rfl ?_
                refine r_goto Xz18 cx L_339 ?_
                refine r_zreturn Xz18 cx L_343 (by decide) (by decide) ?_
                rfl
              · refine r_iload Xz18 cx L_333 rfl ?_
                refine r_ifne Xz18 cx L_335 (fun c335 => ?_) (fun c335 => ?_)
                · exact absurd c330 c335
                · refine r_iconst (1) Xz18 cx L_338 rfl ?_
                  refine r_goto Xz18 cx L_339 ?_
                  refine r_zreturn Xz18 cx L_343 (by decide) (by decide) ?_
                  rfl
      · refine r_iconst (1) Xz18 cx L_298 rfl ?_
        refine r_goto Xz18 cx L_299 ?_
        refine r_icmpne Xz18 cx L_303 (fun c303 => ?_) (fun c303 => ?_)
        · exfalso
          apply c303
          rw [own_h1 (by omega) (by omega) (by omega)]
          rw [own_inj (by omega) (by omega)] at c295
          first | rw [if_pos c295] | rw [if_neg c295]
        · refine r_iconst (1) Xz18 cx L_306 rfl ?_
          refine r_goto Xz18 cx L_307 ?_
          refine r_istore (fun zz => #[.val (.int i0), .val (.int i1), .val (.int i2), .val (.int i3), .val (.int i4), .val (.int i5), .val (.int (Int32.ofNat n)), .val (.int (Int32.ofNat ra)), .val (.int (Int32.ofNat rb)), .val (.int (Int32.ofNat rc)), .val (.int (Int32.ofNat rp)), .val (.int kk), .val (.ref o), .val (.int f1), .val (.int f2), .val (.int zz)]) Xz18 cx L_311 (fun _ => rfl) (fun iz19 e_iz19 => ?_)
          subst e_iz19
          refine r_iload Xz18 cx L_313 rfl ?_
          refine r_ifeq Xz18 cx L_315 (fun c => absurd c (by decide)) (fun _ => ?_)
          refine r_iload Xz18 cx L_318 rfl ?_
          refine r_ifne Xz18 cx L_320 (fun c320 => ?_) (fun c320 => ?_)
          · refine r_iload Xz18 cx L_328 rfl ?_
            refine r_ifne Xz18 cx L_330 (fun c330 => ?_) (fun c330 => ?_)
            · refine r_iconst (1) Xz18 cx L_338 rfl ?_
              refine r_goto Xz18 cx L_339 ?_
              refine r_zreturn Xz18 cx L_343 (by decide) (by decide) ?_
              rfl
            · refine r_iload Xz18 cx L_333 rfl ?_
              refine r_ifne Xz18 cx L_335 (fun c335 => ?_) (fun c335 => ?_)
              · exact absurd c330 c335
              · refine r_iconst (1) Xz18 cx L_338 rfl ?_
                refine r_goto Xz18 cx L_339 ?_
                refine r_zreturn Xz18 cx L_343 (by decide) (by decide) ?_
                rfl
          · refine r_iload Xz18 cx L_323 rfl ?_
            refine r_ifne Xz18 cx L_325 (fun c325 => ?_) (fun c325 => ?_)
            · exact absurd c320 c325
            · refine r_iload Xz18 cx L_328 rfl ?_
              refine r_ifne Xz18 cx L_330 (fun c330 => ?_) (fun c330 => ?_)
              · refine r_iconst (1) Xz18 cx L_338 rfl ?_
                refine r_goto Xz18 cx L_339 ?_
                refine r_zreturn Xz18 cx L_343 (by decide) (by decide) ?_
                rfl
              · refine r_iload Xz18 cx L_333 rfl ?_
                refine r_ifne Xz18 cx L_335 (fun c335 => ?_) (fun c335 => ?_)
                · exact absurd c330 c335
                · refine r_iconst (1) Xz18 cx L_338 rfl ?_
                  refine r_goto Xz18 cx L_339 ?_
                  refine r_zreturn Xz18 cx L_343 (by decide) (by decide) ?_
                  rfl
  rcases own_m3 i4 with m3 | m3 | m3 | m3
  · obtain rfl : kk = (0 : Int32) := e_kk.trans m3
    refine r_iload Xz2 cx L_69 rfl ?_
    refine r_iconst (1) Xz2 cx L_71 rfl ?_
    refine r_icmplt Xz2 cx L_72 (fun _ => ?_) (fun c => absurd c (by decide))
    refine r_iload Xz2 cx L_82 rfl ?_
    refine r_iconst (2) Xz2 cx L_84 rfl ?_
    refine r_icmplt Xz2 cx L_85 (fun _ => ?_) (fun c => absurd c (by decide))
    refine r_iload Xz2 cx L_105 rfl ?_
    refine r_iconst (3) Xz2 cx L_107 rfl ?_
    refine r_icmplt Xz2 cx L_108 (fun _ => ?_) (fun c => absurd c (by decide))
    refine r_aload Xz2 cx L_140 rfl ?_
    refine r_virtual [] [] Xz2 cx L_142 B.1 (hw.get 17 rfl) (hw.get 18 rfl) (hw.get 20 rfl) (hw.get 19 rfl) (hw.get 3 rfl) (hw.get 21 rfl) (by decide) (con_P13m8_0 K.l K.Z a0 hw o hz2 K.n0 Xz2.ge ar ah (List.replicate 16 0) (List.replicate ((n + 63) / 64) 0) B ) (lenOf pd_4 rfl) rfl rfl (by decide) (leb rfl) (by decide) (by decide) (fun Tz115 hz115 vz115 Xz115 qz115 => ?_) (fun _ _ q => q.1)
    obtain ⟨zz115, rfl, B⟩ := qz115
    replace B : MT K.Z K.n0 hz115 o ar ah (List.replicate 16 0) (List.foldl own_clr (List.replicate ((n + 63) / 64) 0) []) 0 := B
    exact tail _ _ _ _ (List.replicate 16 0) (by simp) Xz115 B
  · obtain rfl : kk = (1 : Int32) := e_kk.trans m3
    refine r_iload Xz2 cx L_69 rfl ?_
    refine r_iconst (1) Xz2 cx L_71 rfl ?_
    refine r_icmplt Xz2 cx L_72 (fun c => absurd c (by decide)) (fun _ => ?_)
    refine r_aload Xz2 cx L_75 rfl ?_
    refine r_iload Xz2 cx L_77 rfl ?_
    refine r_virtual [(.int (Int32.ofNat ra))] [] Xz2 cx L_79 B.1 (hw.get 34 rfl) (hw.get 35 rfl) (hw.get 37 rfl) (hw.get 36 rfl) (hw.get 3 rfl) (hw.get 38 rfl) (by decide) (con_P13m3_0 K.l K.Z a0 hw o (Int32.ofNat ra) hz2 K.n0 Xz2.ge ar ah (List.replicate 16 0) (List.replicate ((n + 63) / 64) 0) ra B rfl (by omega) (by first | (rw [own_fl]; simp; omega) | (simp; omega) | (simp [own_add]; omega)) (by simp)) (lenOf pd_0 rfl) rfl rfl (by decide) (leb rfl) (by decide) (by decide) (fun Tz115 hz115 vz115 Xz115 qz115 => ?_) (fun _ _ q => q.1)
    obtain ⟨zz115, rfl, B⟩ := qz115
    replace B : MT K.Z K.n0 hz115 o ar ah ((List.replicate 16 0).set 0 (Int32.ofNat ra)) (List.foldl own_add (List.replicate ((n + 63) / 64) 0) [ra]) 1 := B
    refine r_iload Xz115 cx L_82 rfl ?_
    refine r_iconst (2) Xz115 cx L_84 rfl ?_
    refine r_icmplt Xz115 cx L_85 (fun _ => ?_) (fun c => absurd c (by decide))
    refine r_iload Xz115 cx L_105 rfl ?_
    refine r_iconst (3) Xz115 cx L_107 rfl ?_
    refine r_icmplt Xz115 cx L_108 (fun _ => ?_) (fun c => absurd c (by decide))
    refine r_aload Xz115 cx L_140 rfl ?_
    refine r_virtual [] [] Xz115 cx L_142 B.1 (hw.get 17 rfl) (hw.get 18 rfl) (hw.get 20 rfl) (hw.get 19 rfl) (hw.get 3 rfl) (hw.get 21 rfl) (by decide) (con_P13m8_1 K.l K.Z a0 hw o hz115 K.n0 Xz115.ge ar ah ((List.replicate 16 0).set 0 (Int32.ofNat ra)) (List.foldl own_add (List.replicate ((n + 63) / 64) 0) [ra]) B ra rfl (by omega) (by first | (rw [own_fl]; simp; omega) | (simp; omega) | (simp [own_add]; omega))) (lenOf pd_4 rfl) rfl rfl (by decide) (leb rfl) (by decide) (by decide) (fun Tz116 hz116 vz116 Xz116 qz116 => ?_) (fun _ _ q => q.1)
    obtain ⟨zz116, rfl, B⟩ := qz116
    replace B : MT K.Z K.n0 hz116 o ar ah ((List.replicate 16 0).set 0 (Int32.ofNat ra)) (List.foldl own_clr (List.foldl own_add (List.replicate ((n + 63) / 64) 0) [ra]) [ra]) 0 := B
    rw [own_back] at B
    exact tail _ _ _ _ ((List.replicate 16 0).set 0 (Int32.ofNat ra)) (by simp) Xz116 B
  · obtain rfl : kk = (2 : Int32) := e_kk.trans m3
    refine r_iload Xz2 cx L_69 rfl ?_
    refine r_iconst (1) Xz2 cx L_71 rfl ?_
    refine r_icmplt Xz2 cx L_72 (fun c => absurd c (by decide)) (fun _ => ?_)
    refine r_aload Xz2 cx L_75 rfl ?_
    refine r_iload Xz2 cx L_77 rfl ?_
    refine r_virtual [(.int (Int32.ofNat ra))] [] Xz2 cx L_79 B.1 (hw.get 34 rfl) (hw.get 35 rfl) (hw.get 37 rfl) (hw.get 36 rfl) (hw.get 3 rfl) (hw.get 38 rfl) (by decide) (con_P13m3_0 K.l K.Z a0 hw o (Int32.ofNat ra) hz2 K.n0 Xz2.ge ar ah (List.replicate 16 0) (List.replicate ((n + 63) / 64) 0) ra B rfl (by omega) (by first | (rw [own_fl]; simp; omega) | (simp; omega) | (simp [own_add]; omega)) (by simp)) (lenOf pd_0 rfl) rfl rfl (by decide) (leb rfl) (by decide) (by decide) (fun Tz115 hz115 vz115 Xz115 qz115 => ?_) (fun _ _ q => q.1)
    obtain ⟨zz115, rfl, B⟩ := qz115
    replace B : MT K.Z K.n0 hz115 o ar ah ((List.replicate 16 0).set 0 (Int32.ofNat ra)) (List.foldl own_add (List.replicate ((n + 63) / 64) 0) [ra]) 1 := B
    refine r_iload Xz115 cx L_82 rfl ?_
    refine r_iconst (2) Xz115 cx L_84 rfl ?_
    refine r_icmplt Xz115 cx L_85 (fun c => absurd c (by decide)) (fun _ => ?_)
    refine r_iload Xz115 cx L_88 rfl ?_
    refine r_iload Xz115 cx L_90 rfl ?_
    refine r_icmpeq Xz115 cx L_92 (fun c92 => ?_) (fun c92 => ?_)
    · refine r_iload Xz115 cx L_105 rfl ?_
      refine r_iconst (3) Xz115 cx L_107 rfl ?_
      refine r_icmplt Xz115 cx L_108 (fun _ => ?_) (fun c => absurd c (by decide))
      refine r_aload Xz115 cx L_140 rfl ?_
      refine r_virtual [] [] Xz115 cx L_142 B.1 (hw.get 17 rfl) (hw.get 18 rfl) (hw.get 20 rfl) (hw.get 19 rfl) (hw.get 3 rfl) (hw.get 21 rfl) (by decide) (con_P13m8_1 K.l K.Z a0 hw o hz115 K.n0 Xz115.ge ar ah ((List.replicate 16 0).set 0 (Int32.ofNat ra)) (List.foldl own_add (List.replicate ((n + 63) / 64) 0) [ra]) B ra rfl (by omega) (by first | (rw [own_fl]; simp; omega) | (simp; omega) | (simp [own_add]; omega))) (lenOf pd_4 rfl) rfl rfl (by decide) (leb rfl) (by decide) (by decide) (fun Tz116 hz116 vz116 Xz116 qz116 => ?_) (fun _ _ q => q.1)
      obtain ⟨zz116, rfl, B⟩ := qz116
      replace B : MT K.Z K.n0 hz116 o ar ah ((List.replicate 16 0).set 0 (Int32.ofNat ra)) (List.foldl own_clr (List.foldl own_add (List.replicate ((n + 63) / 64) 0) [ra]) [ra]) 0 := B
      rw [own_back] at B
      exact tail _ _ _ _ ((List.replicate 16 0).set 0 (Int32.ofNat ra)) (by simp) Xz116 B
    · refine r_aload Xz115 cx L_95 rfl ?_
      refine r_iload Xz115 cx L_97 rfl ?_
      refine r_virtual [(.int (Int32.ofNat rb))] [] Xz115 cx L_99 B.1 (hw.get 34 rfl) (hw.get 35 rfl) (hw.get 37 rfl) (hw.get 36 rfl) (hw.get 3 rfl) (hw.get 38 rfl) (by decide) (con_P13m3_1 K.l K.Z a0 hw o (Int32.ofNat rb) hz115 K.n0 Xz115.ge ar ah ((List.replicate 16 0).set 0 (Int32.ofNat ra)) (List.foldl own_add (List.replicate ((n + 63) / 64) 0) [ra]) rb B rfl (by omega) (by first | (rw [own_fl]; simp; omega) | (simp; omega) | (simp [own_add]; omega)) (by simp)) (lenOf pd_0 rfl) rfl rfl (by decide) (leb rfl) (by decide) (by decide) (fun Tz116 hz116 vz116 Xz116 qz116 => ?_) (fun _ _ q => q.1)
      obtain ⟨zz116, rfl, B⟩ := qz116
      replace B : MT K.Z K.n0 hz116 o ar ah (((List.replicate 16 0).set 0 (Int32.ofNat ra)).set 1 (Int32.ofNat rb)) (List.foldl own_add (List.replicate ((n + 63) / 64) 0) [ra, rb]) 2 := B
      refine r_iconst (1) Xz116 cx L_102 rfl ?_
      refine r_istore (fun zz => #[.val (.int i0), .val (.int i1), .val (.int i2), .val (.int i3), .val (.int i4), .val (.int i5), .val (.int (Int32.ofNat n)), .val (.int (Int32.ofNat ra)), .val (.int (Int32.ofNat rb)), .val (.int (Int32.ofNat rc)), .val (.int (Int32.ofNat rp)), .val (.int (2 : Int32)), .val (.ref o), .val (.int zz), .val (.int (0 : Int32)), .unset]) Xz116 cx L_103 (fun _ => rfl) (fun iz117 e_iz117 => ?_)
      subst e_iz117
      refine r_iload Xz116 cx L_105 rfl ?_
      refine r_iconst (3) Xz116 cx L_107 rfl ?_
      refine r_icmplt Xz116 cx L_108 (fun _ => ?_) (fun c => absurd c (by decide))
      refine r_aload Xz116 cx L_140 rfl ?_
      refine r_virtual [] [] Xz116 cx L_142 B.1 (hw.get 17 rfl) (hw.get 18 rfl) (hw.get 20 rfl) (hw.get 19 rfl) (hw.get 3 rfl) (hw.get 21 rfl) (by decide) (con_P13m8_2 K.l K.Z a0 hw o hz116 K.n0 Xz116.ge ar ah (((List.replicate 16 0).set 0 (Int32.ofNat ra)).set 1 (Int32.ofNat rb)) (List.foldl own_add (List.replicate ((n + 63) / 64) 0) [ra, rb]) B ra rfl (by omega) (by first | (rw [own_fl]; simp; omega) | (simp; omega) | (simp [own_add]; omega)) rb rfl (by omega) (by first | (rw [own_fl]; simp; omega) | (simp; omega) | (simp [own_add]; omega))) (lenOf pd_4 rfl) rfl rfl (by decide) (leb rfl) (by decide) (by decide) (fun Tz118 hz118 vz118 Xz118 qz118 => ?_) (fun _ _ q => q.1)
      obtain ⟨zz118, rfl, B⟩ := qz118
      replace B : MT K.Z K.n0 hz118 o ar ah (((List.replicate 16 0).set 0 (Int32.ofNat ra)).set 1 (Int32.ofNat rb)) (List.foldl own_clr (List.foldl own_add (List.replicate ((n + 63) / 64) 0) [ra, rb]) [ra, rb]) 0 := B
      rw [own_back] at B
      exact tail _ _ _ _ (((List.replicate 16 0).set 0 (Int32.ofNat ra)).set 1 (Int32.ofNat rb)) (by simp) Xz118 B
  · obtain rfl : kk = (3 : Int32) := e_kk.trans m3
    refine r_iload Xz2 cx L_69 rfl ?_
    refine r_iconst (1) Xz2 cx L_71 rfl ?_
    refine r_icmplt Xz2 cx L_72 (fun c => absurd c (by decide)) (fun _ => ?_)
    refine r_aload Xz2 cx L_75 rfl ?_
    refine r_iload Xz2 cx L_77 rfl ?_
    refine r_virtual [(.int (Int32.ofNat ra))] [] Xz2 cx L_79 B.1 (hw.get 34 rfl) (hw.get 35 rfl) (hw.get 37 rfl) (hw.get 36 rfl) (hw.get 3 rfl) (hw.get 38 rfl) (by decide) (con_P13m3_0 K.l K.Z a0 hw o (Int32.ofNat ra) hz2 K.n0 Xz2.ge ar ah (List.replicate 16 0) (List.replicate ((n + 63) / 64) 0) ra B rfl (by omega) (by first | (rw [own_fl]; simp; omega) | (simp; omega) | (simp [own_add]; omega)) (by simp)) (lenOf pd_0 rfl) rfl rfl (by decide) (leb rfl) (by decide) (by decide) (fun Tz115 hz115 vz115 Xz115 qz115 => ?_) (fun _ _ q => q.1)
    obtain ⟨zz115, rfl, B⟩ := qz115
    replace B : MT K.Z K.n0 hz115 o ar ah ((List.replicate 16 0).set 0 (Int32.ofNat ra)) (List.foldl own_add (List.replicate ((n + 63) / 64) 0) [ra]) 1 := B
    refine r_iload Xz115 cx L_82 rfl ?_
    refine r_iconst (2) Xz115 cx L_84 rfl ?_
    refine r_icmplt Xz115 cx L_85 (fun c => absurd c (by decide)) (fun _ => ?_)
    refine r_iload Xz115 cx L_88 rfl ?_
    refine r_iload Xz115 cx L_90 rfl ?_
    refine r_icmpeq Xz115 cx L_92 (fun c92 => ?_) (fun c92 => ?_)
    · refine r_iload Xz115 cx L_105 rfl ?_
      refine r_iconst (3) Xz115 cx L_107 rfl ?_
      refine r_icmplt Xz115 cx L_108 (fun c => absurd c (by decide)) (fun _ => ?_)
      refine r_iload Xz115 cx L_111 rfl ?_
      refine r_iload Xz115 cx L_113 rfl ?_
      refine r_icmpeq Xz115 cx L_115 (fun c115 => ?_) (fun c115 => ?_)
      · refine r_aload Xz115 cx L_140 rfl ?_
        refine r_virtual [] [] Xz115 cx L_142 B.1 (hw.get 17 rfl) (hw.get 18 rfl) (hw.get 20 rfl) (hw.get 19 rfl) (hw.get 3 rfl) (hw.get 21 rfl) (by decide) (con_P13m8_1 K.l K.Z a0 hw o hz115 K.n0 Xz115.ge ar ah ((List.replicate 16 0).set 0 (Int32.ofNat ra)) (List.foldl own_add (List.replicate ((n + 63) / 64) 0) [ra]) B ra rfl (by omega) (by first | (rw [own_fl]; simp; omega) | (simp; omega) | (simp [own_add]; omega))) (lenOf pd_4 rfl) rfl rfl (by decide) (leb rfl) (by decide) (by decide) (fun Tz116 hz116 vz116 Xz116 qz116 => ?_) (fun _ _ q => q.1)
        obtain ⟨zz116, rfl, B⟩ := qz116
        replace B : MT K.Z K.n0 hz116 o ar ah ((List.replicate 16 0).set 0 (Int32.ofNat ra)) (List.foldl own_clr (List.foldl own_add (List.replicate ((n + 63) / 64) 0) [ra]) [ra]) 0 := B
        rw [own_back] at B
        exact tail _ _ _ _ ((List.replicate 16 0).set 0 (Int32.ofNat ra)) (by simp) Xz116 B
      · refine r_iload Xz115 cx L_118 rfl ?_
        refine r_ifeq Xz115 cx L_120 (fun _ => ?_) (fun c => absurd c (by decide))
        refine r_aload Xz115 cx L_130 rfl ?_
        refine r_iload Xz115 cx L_132 rfl ?_
        refine r_virtual [(.int (Int32.ofNat rc))] [] Xz115 cx L_134 B.1 (hw.get 34 rfl) (hw.get 35 rfl) (hw.get 37 rfl) (hw.get 36 rfl) (hw.get 3 rfl) (hw.get 38 rfl) (by decide) (con_P13m3_1 K.l K.Z a0 hw o (Int32.ofNat rc) hz115 K.n0 Xz115.ge ar ah ((List.replicate 16 0).set 0 (Int32.ofNat ra)) (List.foldl own_add (List.replicate ((n + 63) / 64) 0) [ra]) rc B rfl (by omega) (by first | (rw [own_fl]; simp; omega) | (simp; omega) | (simp [own_add]; omega)) (by simp)) (lenOf pd_0 rfl) rfl rfl (by decide) (leb rfl) (by decide) (by decide) (fun Tz116 hz116 vz116 Xz116 qz116 => ?_) (fun _ _ q => q.1)
        obtain ⟨zz116, rfl, B⟩ := qz116
        replace B : MT K.Z K.n0 hz116 o ar ah (((List.replicate 16 0).set 0 (Int32.ofNat ra)).set 1 (Int32.ofNat rc)) (List.foldl own_add (List.replicate ((n + 63) / 64) 0) [ra, rc]) 2 := B
        refine r_iconst (1) Xz116 cx L_137 rfl ?_
        refine r_istore (fun zz => #[.val (.int i0), .val (.int i1), .val (.int i2), .val (.int i3), .val (.int i4), .val (.int i5), .val (.int (Int32.ofNat n)), .val (.int (Int32.ofNat ra)), .val (.int (Int32.ofNat rb)), .val (.int (Int32.ofNat rc)), .val (.int (Int32.ofNat rp)), .val (.int (3 : Int32)), .val (.ref o), .val (.int (0 : Int32)), .val (.int zz), .unset]) Xz116 cx L_138 (fun _ => rfl) (fun iz117 e_iz117 => ?_)
        subst e_iz117
        refine r_aload Xz116 cx L_140 rfl ?_
        refine r_virtual [] [] Xz116 cx L_142 B.1 (hw.get 17 rfl) (hw.get 18 rfl) (hw.get 20 rfl) (hw.get 19 rfl) (hw.get 3 rfl) (hw.get 21 rfl) (by decide) (con_P13m8_2 K.l K.Z a0 hw o hz116 K.n0 Xz116.ge ar ah (((List.replicate 16 0).set 0 (Int32.ofNat ra)).set 1 (Int32.ofNat rc)) (List.foldl own_add (List.replicate ((n + 63) / 64) 0) [ra, rc]) B ra rfl (by omega) (by first | (rw [own_fl]; simp; omega) | (simp; omega) | (simp [own_add]; omega)) rc rfl (by omega) (by first | (rw [own_fl]; simp; omega) | (simp; omega) | (simp [own_add]; omega))) (lenOf pd_4 rfl) rfl rfl (by decide) (leb rfl) (by decide) (by decide) (fun Tz118 hz118 vz118 Xz118 qz118 => ?_) (fun _ _ q => q.1)
        obtain ⟨zz118, rfl, B⟩ := qz118
        replace B : MT K.Z K.n0 hz118 o ar ah (((List.replicate 16 0).set 0 (Int32.ofNat ra)).set 1 (Int32.ofNat rc)) (List.foldl own_clr (List.foldl own_add (List.replicate ((n + 63) / 64) 0) [ra, rc]) [ra, rc]) 0 := B
        rw [own_back] at B
        exact tail _ _ _ _ (((List.replicate 16 0).set 0 (Int32.ofNat ra)).set 1 (Int32.ofNat rc)) (by simp) Xz118 B
    · refine r_aload Xz115 cx L_95 rfl ?_
      refine r_iload Xz115 cx L_97 rfl ?_
      refine r_virtual [(.int (Int32.ofNat rb))] [] Xz115 cx L_99 B.1 (hw.get 34 rfl) (hw.get 35 rfl) (hw.get 37 rfl) (hw.get 36 rfl) (hw.get 3 rfl) (hw.get 38 rfl) (by decide) (con_P13m3_1 K.l K.Z a0 hw o (Int32.ofNat rb) hz115 K.n0 Xz115.ge ar ah ((List.replicate 16 0).set 0 (Int32.ofNat ra)) (List.foldl own_add (List.replicate ((n + 63) / 64) 0) [ra]) rb B rfl (by omega) (by first | (rw [own_fl]; simp; omega) | (simp; omega) | (simp [own_add]; omega)) (by simp)) (lenOf pd_0 rfl) rfl rfl (by decide) (leb rfl) (by decide) (by decide) (fun Tz116 hz116 vz116 Xz116 qz116 => ?_) (fun _ _ q => q.1)
      obtain ⟨zz116, rfl, B⟩ := qz116
      replace B : MT K.Z K.n0 hz116 o ar ah (((List.replicate 16 0).set 0 (Int32.ofNat ra)).set 1 (Int32.ofNat rb)) (List.foldl own_add (List.replicate ((n + 63) / 64) 0) [ra, rb]) 2 := B
      refine r_iconst (1) Xz116 cx L_102 rfl ?_
      refine r_istore (fun zz => #[.val (.int i0), .val (.int i1), .val (.int i2), .val (.int i3), .val (.int i4), .val (.int i5), .val (.int (Int32.ofNat n)), .val (.int (Int32.ofNat ra)), .val (.int (Int32.ofNat rb)), .val (.int (Int32.ofNat rc)), .val (.int (Int32.ofNat rp)), .val (.int (3 : Int32)), .val (.ref o), .val (.int zz), .val (.int (0 : Int32)), .unset]) Xz116 cx L_103 (fun _ => rfl) (fun iz117 e_iz117 => ?_)
      subst e_iz117
      refine r_iload Xz116 cx L_105 rfl ?_
      refine r_iconst (3) Xz116 cx L_107 rfl ?_
      refine r_icmplt Xz116 cx L_108 (fun c => absurd c (by decide)) (fun _ => ?_)
      refine r_iload Xz116 cx L_111 rfl ?_
      refine r_iload Xz116 cx L_113 rfl ?_
      refine r_icmpeq Xz116 cx L_115 (fun c115 => ?_) (fun c115 => ?_)
      · refine r_aload Xz116 cx L_140 rfl ?_
        refine r_virtual [] [] Xz116 cx L_142 B.1 (hw.get 17 rfl) (hw.get 18 rfl) (hw.get 20 rfl) (hw.get 19 rfl) (hw.get 3 rfl) (hw.get 21 rfl) (by decide) (con_P13m8_2 K.l K.Z a0 hw o hz116 K.n0 Xz116.ge ar ah (((List.replicate 16 0).set 0 (Int32.ofNat ra)).set 1 (Int32.ofNat rb)) (List.foldl own_add (List.replicate ((n + 63) / 64) 0) [ra, rb]) B ra rfl (by omega) (by first | (rw [own_fl]; simp; omega) | (simp; omega) | (simp [own_add]; omega)) rb rfl (by omega) (by first | (rw [own_fl]; simp; omega) | (simp; omega) | (simp [own_add]; omega))) (lenOf pd_4 rfl) rfl rfl (by decide) (leb rfl) (by decide) (by decide) (fun Tz118 hz118 vz118 Xz118 qz118 => ?_) (fun _ _ q => q.1)
        obtain ⟨zz118, rfl, B⟩ := qz118
        replace B : MT K.Z K.n0 hz118 o ar ah (((List.replicate 16 0).set 0 (Int32.ofNat ra)).set 1 (Int32.ofNat rb)) (List.foldl own_clr (List.foldl own_add (List.replicate ((n + 63) / 64) 0) [ra, rb]) [ra, rb]) 0 := B
        rw [own_back] at B
        exact tail _ _ _ _ (((List.replicate 16 0).set 0 (Int32.ofNat ra)).set 1 (Int32.ofNat rb)) (by simp) Xz118 B
      · refine r_iload Xz116 cx L_118 rfl ?_
        refine r_ifeq Xz116 cx L_120 (fun c => absurd c (by decide)) (fun _ => ?_)
        refine r_iload Xz116 cx L_123 rfl ?_
        refine r_iload Xz116 cx L_125 rfl ?_
        refine r_icmpeq Xz116 cx L_127 (fun c127 => ?_) (fun c127 => ?_)
        · refine r_aload Xz116 cx L_140 rfl ?_
          refine r_virtual [] [] Xz116 cx L_142 B.1 (hw.get 17 rfl) (hw.get 18 rfl) (hw.get 20 rfl) (hw.get 19 rfl) (hw.get 3 rfl) (hw.get 21 rfl) (by decide) (con_P13m8_2 K.l K.Z a0 hw o hz116 K.n0 Xz116.ge ar ah (((List.replicate 16 0).set 0 (Int32.ofNat ra)).set 1 (Int32.ofNat rb)) (List.foldl own_add (List.replicate ((n + 63) / 64) 0) [ra, rb]) B ra rfl (by omega) (by first | (rw [own_fl]; simp; omega) | (simp; omega) | (simp [own_add]; omega)) rb rfl (by omega) (by first | (rw [own_fl]; simp; omega) | (simp; omega) | (simp [own_add]; omega))) (lenOf pd_4 rfl) rfl rfl (by decide) (leb rfl) (by decide) (by decide) (fun Tz118 hz118 vz118 Xz118 qz118 => ?_) (fun _ _ q => q.1)
          obtain ⟨zz118, rfl, B⟩ := qz118
          replace B : MT K.Z K.n0 hz118 o ar ah (((List.replicate 16 0).set 0 (Int32.ofNat ra)).set 1 (Int32.ofNat rb)) (List.foldl own_clr (List.foldl own_add (List.replicate ((n + 63) / 64) 0) [ra, rb]) [ra, rb]) 0 := B
          rw [own_back] at B
          exact tail _ _ _ _ (((List.replicate 16 0).set 0 (Int32.ofNat ra)).set 1 (Int32.ofNat rb)) (by simp) Xz118 B
        · refine r_aload Xz116 cx L_130 rfl ?_
          refine r_iload Xz116 cx L_132 rfl ?_
          refine r_virtual [(.int (Int32.ofNat rc))] [] Xz116 cx L_134 B.1 (hw.get 34 rfl) (hw.get 35 rfl) (hw.get 37 rfl) (hw.get 36 rfl) (hw.get 3 rfl) (hw.get 38 rfl) (by decide) (con_P13m3_2 K.l K.Z a0 hw o (Int32.ofNat rc) hz116 K.n0 Xz116.ge ar ah (((List.replicate 16 0).set 0 (Int32.ofNat ra)).set 1 (Int32.ofNat rb)) (List.foldl own_add (List.replicate ((n + 63) / 64) 0) [ra, rb]) rc B rfl (by omega) (by first | (rw [own_fl]; simp; omega) | (simp; omega) | (simp [own_add]; omega)) (by simp)) (lenOf pd_0 rfl) rfl rfl (by decide) (leb rfl) (by decide) (by decide) (fun Tz118 hz118 vz118 Xz118 qz118 => ?_) (fun _ _ q => q.1)
          obtain ⟨zz118, rfl, B⟩ := qz118
          replace B : MT K.Z K.n0 hz118 o ar ah ((((List.replicate 16 0).set 0 (Int32.ofNat ra)).set 1 (Int32.ofNat rb)).set 2 (Int32.ofNat rc)) (List.foldl own_add (List.replicate ((n + 63) / 64) 0) [ra, rb, rc]) 3 := B
          refine r_iconst (1) Xz118 cx L_137 rfl ?_
          refine r_istore (fun zz => #[.val (.int i0), .val (.int i1), .val (.int i2), .val (.int i3), .val (.int i4), .val (.int i5), .val (.int (Int32.ofNat n)), .val (.int (Int32.ofNat ra)), .val (.int (Int32.ofNat rb)), .val (.int (Int32.ofNat rc)), .val (.int (Int32.ofNat rp)), .val (.int (3 : Int32)), .val (.ref o), .val (.int (1 : Int32)), .val (.int zz), .unset]) Xz118 cx L_138 (fun _ => rfl) (fun iz119 e_iz119 => ?_)
          subst e_iz119
          refine r_aload Xz118 cx L_140 rfl ?_
          refine r_virtual [] [] Xz118 cx L_142 B.1 (hw.get 17 rfl) (hw.get 18 rfl) (hw.get 20 rfl) (hw.get 19 rfl) (hw.get 3 rfl) (hw.get 21 rfl) (by decide) (con_P13m8_3 K.l K.Z a0 hw o hz118 K.n0 Xz118.ge ar ah ((((List.replicate 16 0).set 0 (Int32.ofNat ra)).set 1 (Int32.ofNat rb)).set 2 (Int32.ofNat rc)) (List.foldl own_add (List.replicate ((n + 63) / 64) 0) [ra, rb, rc]) B ra rfl (by omega) (by first | (rw [own_fl]; simp; omega) | (simp; omega) | (simp [own_add]; omega)) rb rfl (by omega) (by first | (rw [own_fl]; simp; omega) | (simp; omega) | (simp [own_add]; omega)) rc rfl (by omega) (by first | (rw [own_fl]; simp; omega) | (simp; omega) | (simp [own_add]; omega))) (lenOf pd_4 rfl) rfl rfl (by decide) (leb rfl) (by decide) (by decide) (fun Tz120 hz120 vz120 Xz120 qz120 => ?_) (fun _ _ q => q.1)
          obtain ⟨zz120, rfl, B⟩ := qz120
          replace B : MT K.Z K.n0 hz120 o ar ah ((((List.replicate 16 0).set 0 (Int32.ofNat ra)).set 1 (Int32.ofNat rb)).set 2 (Int32.ofNat rc)) (List.foldl own_clr (List.foldl own_add (List.replicate ((n + 63) / 64) 0) [ra, rb, rc]) [ra, rb, rc]) 0 := B
          rw [own_back] at B
          exact tail _ _ _ _ ((((List.replicate 16 0).set 0 (Int32.ofNat ra)).set 1 (Int32.ofNat rb)).set 2 (Int32.ofNat rc)) (by simp) Xz120 B
set_option maxRecDepth 65536 in
set_option maxHeartbeats 40000000 in
theorem comes_1 {Post : Tables → Env → Array Value → State → Outcome → State → Prop} (hpost : ∀ tb e args s v u, (limb_1_1.after args s (.returned v) u = true ∧ limb_1_2.after args s (.returned v) u = true ∧ True) → FrameEnd s (.returned v) u (Jvm.fieldLocs frame_1_writes args s ++ Jvm.arrayLocs frame_1_arrays args s ++ Jvm.staticLocs frame_1_statics s) 16 192 → Post tb e args s (.returned v) u) :
    ArmFor flags0 classFile x code maxLocals ret World_1 tables_1 room_1 Calls_1 rest_1 Pre_1 Post := by
  intro l hfl _ _ p e ha hc hk s m args below hf hA hF happ hP
  obtain ⟨hcalls, hrest, hpre⟩ := hP
  obtain ⟨-, -, -, hnamed, -, -, -, hat⟩ := (Spec.applies_iff hf).mp happ
  obtain ⟨hg, hn⟩ := and_e (Cond.before_iff.mp (show (Jvm.Cond.and given_1 narrow_1).before args s = true from hpre))
  obtain ⟨gc, r0⟩ := and_e hg
  obtain ⟨g0, r1⟩ := and_e r0
  obtain ⟨g1, r2⟩ := and_e r1
  obtain ⟨g2, r3⟩ := and_e r2
  obtain ⟨g3, r4⟩ := and_e r3
  obtain ⟨g4, r5⟩ := and_e r4
  obtain ⟨w0, w1, w2, w3, w4, w5, rfl⟩ : ∃ w0 w1 w2 w3 w4 w5 : Value, args = #[w0, w1, w2, w3, w4, w5] := by
    have hs : args.size = 6 := by simpa [Cond.value, given_1] using gc
    obtain ⟨L⟩ := args
    match L, hs with
    | [w0, w1, w2, w3, w4, w5], _ => exact ⟨w0, w1, w2, w3, w4, w5, rfl⟩
  have hw : Tb tables_1 #[w0, w1, w2, w3, w4, w5] s := fun d (hd : d ∈ tables_1) => atoms_spec (ws := Jvm.Cond.code x code maxLocals ret :: tables_1) hat d (List.mem_cons_of_mem _ hd)
  obtain ⟨i0, ei0⟩ := is_v g0
  obtain rfl : w0 = (.int i0) := Option.some.inj ei0
  obtain ⟨i1, ei1⟩ := is_v g1
  obtain rfl : w1 = (.int i1) := Option.some.inj ei1
  obtain ⟨i2, ei2⟩ := is_v g2
  obtain rfl : w2 = (.int i2) := Option.some.inj ei2
  obtain ⟨i3, ei3⟩ := is_v g3
  obtain rfl : w3 = (.int i3) := Option.some.inj ei3
  obtain ⟨i4, ei4⟩ := is_v g4
  obtain rfl : w4 = (.int i4) := Option.some.inj ei4
  obtain ⟨i5, ei5⟩ := is_v r5
  obtain rfl : w5 = (.int i5) := Option.some.inj ei5
  obtain ⟨n, o, h1, h2, h3, _, L, rfl, ⟨rfl, N⟩, hq⟩ := con_L l s _ hw i0 i1 i2 i3 i4 i5 s.heap s.heap.size (Nat.le_refl _) tables_1 p e ha hc hk s m _ below hf ((Spec.applies_iff_loose hf).mp happ).1 ⟨rfl, State.Warmed39.refl s, rfl⟩ trivial
  refine ⟨n, _, h1, h2, h3, hpost _ _ _ _ _ _ ⟨Cond.after_iff.mpr rfl, Cond.after_iff.mpr (eq_i res_at (Term.int_eval (1)) rfl), trivial⟩ ⟨hq.1, hq.2.1, (hq.2.2.sift fun y hy => Or.inr (N y hy)).mono (by decide) (by decide)⟩⟩
theorem main_1_1 : Claimed_1_1 := comes_1 fun _ _ _ _ _ _ h hF => ⟨h.1, hF⟩
theorem main_1_2 : Claimed_1_2 := comes_1 fun _ _ _ _ _ _ h hF => ⟨h.2.1, hF⟩
end Jvm.Pilot.@@N@@
namespace Jvm.Pilot.@@N@@
open Jvm Jvm.ClassFile Sem Op Lib Jvm.Free Jvm.Stand Jvm.Pilot.@@N@@.Jvm.D
/-! MADE BY PROGRAM (witnessworld.py) out of the Statement's table words and the real class files: 11 classes; the members and pool entries that the words name. The judged class is class 1, her method 1. -/
namespace start1
open Jvm.ClassFile
def u (s : String) : CpInfo := .utf8 (stringToUtf16 s)
/-- a pool by its gaps: so many unusable entries, then the entry; so many at the end -/
def gap : Nat → List CpInfo → List CpInfo
  | 0, r => r
  | n + 1, r => .unusable :: gap n r
def poolList (es : List (Nat × CpInfo)) (last : Nat) : List CpInfo := es.foldr (fun e r => gap e.1 (e.2 :: r)) (gap last [])
def pool (es : List (Nat × CpInfo)) (last : Nat) : Array CpInfo := ⟨poolList es last⟩
def fileOf (pool : Array CpInfo) (this : Nat) (attrs : Array Attribute := #[]) (ms : Array MethodInfo := #[]) (fl : Nat := 33) (sup : Nat := 0) (ifs : Array Nat := #[]) (fds : Array FieldInfo := #[]) : ClassFile where
  minorVersion := 0
  majorVersion := 65
  constantPool := pool
  accessFlags := fl
  thisClass := this
  superClass := sup
  interfaces := ifs
  fields := fds
  methods := ms
  attributes := attrs
def plain (name : String) (sup : Option ClassId) : Class where
  name := name
  kind := .ordinary
  loader := none
  accessFlags := 33
  super := sup
  interfaces := #[]
  cf := none
  fields := #[]
  methods := #[]
  instanceTypes := #[]
  staticTypes := #[]
  resolved := #[]
  callSites := []
  init := .initialized
  statics := none
  mirror := none

def pool0 : Array CpInfo := pool [(5, u "<init>"), (0, u "()V"), (1, .class_ 10), (1, u "java/lang/Object")] 113

def k0c0 : Code := { maxStack := 0, maxLocals := 1, code := object_method_1_code, exceptionTable := #[], attributes := #[] }
def k0m0 : Method := { name := "<init>", desc := "()V", sig := { parameters := [], returnType := none }, accessFlags := 1, code := some k0c0 }
/-- java/lang/Object -/
def k0 : Class := { plain "java/lang/Object" none with
  accessFlags := 33
  interfaces := #[]
  cf := some (fileOf pool0 8 #[] #[{ accessFlags := 1, nameIndex := 5, descriptorIndex := 6, attributes := #[] }] 33 0 #[] #[])
  fields := #[]
  methods := #[k0m0]
  instanceTypes := #[]
  staticTypes := #[]
  resolved := Array.replicate 124 none
  statics := none }

def pool1 : Array CpInfo := pool [(2, .class_ 4), (1, u "java/lang/Object"), (0, u "<init>"), (0, u "()V"), (0, .integer 2147483647), (0, .class_ 9), (0, u "com/example/kindred/kindred/CandidateJoin$Mates"), (0, .methodref 8 11), (0, .nameAndType 5 12), (0, u "(I)V"), (0, .methodref 8 14), (0, .nameAndType 15 12), (0, u "add"), (0, .methodref 8 17), (0, .nameAndType 18 6), (0, u "clear"), (0, .methodref 8 20), (0, .nameAndType 21 22), (0, u "size"), (0, u "()I"), (0, .methodref 8 24), (0, .nameAndType 25 26), (0, u "holds"), (0, u "(I)Z"), (0, .methodref 8 28), (0, .nameAndType 29 30), (0, u "get"), (0, u "(I)I"), (0, .class_ 32), (0, u "com/example/kindred/kindred/CandidateJoinClearPinLaw"), (2, u "law"), (0, u "(IIIIII)Z")] 7

def k1m0 : Method := { name := "<init>", desc := "()V", sig := { parameters := [], returnType := none }, accessFlags := 2, code := none }
def k1c1 : Code := { maxStack := 3, maxLocals := 16, code := code, exceptionTable := #[], attributes := #[] }
def k1m1 : Method := { name := "law", desc := "(IIIIII)Z", sig := { parameters := [.int, .int, .int, .int, .int, .int], returnType := some .boolean }, accessFlags := 9, code := some k1c1 }
/-- com/example/kindred/kindred/CandidateJoinClearPinLaw -/
def k1 : Class := { plain "com/example/kindred/kindred/CandidateJoinClearPinLaw" (some 0) with
  accessFlags := 49
  interfaces := #[]
  cf := some (fileOf pool1 31 #[] #[{ accessFlags := 2, nameIndex := 5, descriptorIndex := 6, attributes := #[] }, { accessFlags := 9, nameIndex := 35, descriptorIndex := 36, attributes := #[] }] 49 2 #[] #[])
  fields := #[]
  methods := #[k1m0, k1m1]
  instanceTypes := #[]
  staticTypes := #[]
  resolved := Array.replicate 44 none
  statics := none }

def pool2 : Array CpInfo := pool [(1, .methodref 2 3), (0, .class_ 4), (0, .nameAndType 5 6), (0, u "java/lang/Object"), (0, u "<init>"), (0, u "()V"), (0, .fieldref 8 9), (0, .class_ 10), (0, .nameAndType 11 12), (0, u "com/example/kindred/kindred/CandidateJoin$Mates"), (0, u "_records"), (0, u "[I"), (2, .long 64), (1, .fieldref 8 18), (0, .nameAndType 19 20), (0, u "_held"), (0, u "[J"), (0, .fieldref 8 22), (0, .nameAndType 23 24), (0, u "_size"), (0, u "I"), (2, u "get"), (12, u "(I)Z"), (16, u "WORDS_PER_RECORD_SORTED"), (2, u "(I)V"), (2, u "holds"), (1, u "add"), (0, u "size"), (0, u "()I"), (0, u "(I)I"), (2, u "clear"), (5, .class_ 78), (0, u "com/example/kindred/kindred/CandidateJoin")] 21

def k2c0 : Code := { maxStack := 5, maxLocals := 2, code := prog_13_method_1_code, exceptionTable := #[], attributes := #[] }
def k2m0 : Method := { name := "<init>", desc := "(I)V", sig := { parameters := [.int], returnType := none }, accessFlags := 0, code := some k2c0 }
def k2c1 : Code := { maxStack := 5, maxLocals := 2, code := prog_13_method_2_code, exceptionTable := #[], attributes := #[] }
def k2m1 : Method := { name := "holds", desc := "(I)Z", sig := { parameters := [.int], returnType := some .boolean }, accessFlags := 0, code := some k2c1 }
def k2c2 : Code := { maxStack := 7, maxLocals := 2, code := prog_13_method_3_code, exceptionTable := #[], attributes := #[] }
def k2m2 : Method := { name := "add", desc := "(I)V", sig := { parameters := [.int], returnType := none }, accessFlags := 0, code := some k2c2 }
def k2c3 : Code := { maxStack := 1, maxLocals := 1, code := prog_13_method_4_code, exceptionTable := #[], attributes := #[] }
def k2m3 : Method := { name := "size", desc := "()I", sig := { parameters := [], returnType := some .int }, accessFlags := 0, code := some k2c3 }
def k2c4 : Code := { maxStack := 2, maxLocals := 2, code := prog_13_method_5_code, exceptionTable := #[], attributes := #[] }
def k2m4 : Method := { name := "get", desc := "(I)I", sig := { parameters := [.int], returnType := some .int }, accessFlags := 0, code := some k2c4 }
def k2c5 : Code := { maxStack := 4, maxLocals := 2, code := prog_13_method_8_code, exceptionTable := #[], attributes := #[] }
def k2m5 : Method := { name := "clear", desc := "()V", sig := { parameters := [], returnType := none }, accessFlags := 0, code := some k2c5 }
/-- com/example/kindred/kindred/CandidateJoin$Mates -/
def k2 : Class := { plain "com/example/kindred/kindred/CandidateJoin$Mates" (some 0) with
  accessFlags := 48
  interfaces := #[]
  cf := some (fileOf pool2 8 #[.nestHost 77] #[{ accessFlags := 0, nameIndex := 5, descriptorIndex := 60, attributes := #[] }, { accessFlags := 0, nameIndex := 63, descriptorIndex := 40, attributes := #[] }, { accessFlags := 0, nameIndex := 65, descriptorIndex := 60, attributes := #[] }, { accessFlags := 0, nameIndex := 66, descriptorIndex := 67, attributes := #[] }, { accessFlags := 0, nameIndex := 27, descriptorIndex := 68, attributes := #[] }, { accessFlags := 0, nameIndex := 71, descriptorIndex := 6, attributes := #[] }] 48 2 #[] #[{ accessFlags := 26, nameIndex := 57, descriptorIndex := 24, attributes := #[] }, { accessFlags := 18, nameIndex := 19, descriptorIndex := 20, attributes := #[] }, { accessFlags := 2, nameIndex := 11, descriptorIndex := 12, attributes := #[] }, { accessFlags := 2, nameIndex := 23, descriptorIndex := 24, attributes := #[] }])
  fields := #[{ name := "WORDS_PER_RECORD_SORTED", type := .int, accessFlags := 26, slot := 0, constantValue := 0 }, { name := "_held", type := (.array .long), accessFlags := 18, slot := 0, constantValue := 0 }, { name := "_records", type := (.array .int), accessFlags := 2, slot := 1, constantValue := 0 }, { name := "_size", type := .int, accessFlags := 2, slot := 2, constantValue := 0 }]
  methods := #[k2m0, k2m1, k2m2, k2m3, k2m4, k2m5]
  instanceTypes := #[(.array .long), (.array .int), .int]
  staticTypes := #[.int]
  resolved := Array.replicate 100 none
  statics := none }

def pool3 : Array CpInfo := pool [(1, u "java/lang/Cloneable"), (0, .class_ 1), (0, u "java/lang/Object"), (0, .class_ 3)] 3

/-- java/lang/Cloneable -/
def k3 : Class := { plain "java/lang/Cloneable" (some 0) with
  accessFlags := 1537
  interfaces := #[]
  cf := some (fileOf pool3 2 #[] #[] 1537 4 #[] #[])
  fields := #[]
  methods := #[]
  instanceTypes := #[]
  staticTypes := #[]
  resolved := Array.replicate 8 none
  statics := none }

def pool4 : Array CpInfo := pool [(1, u "java/io/Serializable"), (0, .class_ 1), (0, u "java/lang/Object"), (0, .class_ 3)] 3

/-- java/io/Serializable -/
def k4 : Class := { plain "java/io/Serializable" (some 0) with
  accessFlags := 1537
  interfaces := #[]
  cf := some (fileOf pool4 2 #[] #[] 1537 4 #[] #[])
  fields := #[]
  methods := #[]
  instanceTypes := #[]
  staticTypes := #[]
  resolved := Array.replicate 8 none
  statics := none }

/-- the primitive byte -/
def k5 : Class := { plain "byte" none with kind := .primitive 'B', accessFlags := 0x411 }
/-- [B -/
def k6 : Class := { plain "[B" (some 0) with kind := .array 5 .byte, interfaces := #[3, 4], accessFlags := 1041 }

/-- the primitive int -/
def k7 : Class := { plain "int" none with kind := .primitive 'I', accessFlags := 0x411 }
/-- [I -/
def k8 : Class := { plain "[I" (some 0) with kind := .array 7 .int, interfaces := #[3, 4], accessFlags := 1041 }

/-- the primitive long -/
def k9 : Class := { plain "long" none with kind := .primitive 'J', accessFlags := 0x411 }
/-- [J -/
def k10 : Class := { plain "[J" (some 0) with kind := .array 9 .long, interfaces := #[3, 4], accessFlags := 1041 }

def heap : Heap := #[]
def classes : Array Class := #[k0, k1, k2, k3, k4, k5, k6, k7, k8, k9, k10]
def interned : List (Array UInt16 × Addr) := []
def slotsUsed : Nat := 0
def theMethod : MethodId := ⟨1, 1⟩
def args0 : Array Value := #[.int 5, .int 6, .int 7, .int 8, .int 9, .int 10]
def aboutOver (below : List Frame) : State where
  vm := { classes := classes, interned := interned.toArray }
  heap := heap
  slotsUsed := slotsUsed
  threads := #[{ frames := .invoking theMethod args0 :: below }]
def below0 : List Frame := [.native { method := ⟨0, 0⟩, args := #[] }]
def about1 : State := aboutOver below0
def p0 : Program := .bare "" "" ""
def e0 : Env := launch0.env 0 0 0
theorem w_frames : about1.frames = Frame.invoking theMethod args0 :: below0 := rfl
set_option maxRecDepth 65536 in
theorem w_args : argsFit about1.vm theMethod args0 = true := by decide +kernel
set_option maxRecDepth 65536 in
theorem w_heap : heapFits about1 = true := by decide +kernel
set_option maxRecDepth 65536 in
theorem w_runnable : about1.curStatus? = some .runnable := by decide +kernel
set_option maxRecDepth 65536 in
theorem w_alone : about1.alone = true := by decide +kernel
set_option maxRecDepth 65536 in
theorem w_named : about1.methodNamed? x = some theMethod := by decide +kernel
set_option maxRecDepth 65536 in
theorem w_hears : about1.hears theMethod below0 = true := by decide +kernel
set_option maxRecDepth 65536 in
theorem w_ripe : about1.ripe theMethod args0 below0 = true := by decide +kernel
theorem w_running : about1.status = .running := rfl
set_option maxRecDepth 65536 in
theorem w_room : about1.hasRoom e0.platform room_1 = true :=
  launch0.hasRoom_least _ room_1 (by decide +kernel) (by decide +kernel) (by decide +kernel) (by decide +kernel) (by decide +kernel) (by decide +kernel)
theorem allAtoms_all (ts : List Jvm.Cond) (a : Array Jvm.Value) (st : Jvm.State) : (allAtoms ts).before a st = ts.all (fun c => c.before a st) := by
  induction ts with
  | nil => rfl
  | cons c t ih =>
    show (Jvm.Cond.and c (allAtoms t)).before a st = _
    rw [Jvm.Cond.before_and, ih, List.all_cons]
def words1 : List Jvm.Cond := Jvm.Cond.code x code maxLocals ret :: tables_1
/-- a 'code' word, met by the world's own term for the bytes: nothing is compared byte by byte -/
theorem code_word {y : MethodName} {bytes : ByteArray} {mx : Nat} {rt : Option FieldType} {a : Array Value} {s : State} {m : MethodId} {meth : Method} {c : Code} (h1 : s.methodNamed? y = some m) (h2 : s.vm.method? m = some meth) (h3 : meth.code = some c) (h4 : c.code = bytes)
    (h5 : (c.maxLocals == mx && c.exceptionTable.isEmpty && decide (c.maxStack ≤ mostOperands) && decide (meth.sig.returnType = rt) && !meth.locks && decide (parseMethodDescriptor y.desc = some meth.sig)) = true) : (Jvm.Cond.code y bytes mx rt).before a s = true := by
  simp only [Bool.and_eq_true, beq_iff_eq, Bool.not_eq_true', decide_eq_true_eq] at h5
  obtain ⟨⟨⟨⟨⟨g1, g2⟩, g3⟩, g4⟩, g5⟩, g6⟩ := h5
  simp [Cond.before, Cond.holds, Cond.value, h1, h2, h3, h4, g1, g2, g3, g4, g5, g6]
def isCode : Jvm.Cond → Bool
  | .code _ _ _ _ => true
  | _ => false
theorem all_split {L : List Jvm.Cond} {P : Jvm.Cond → Bool} (h1 : L.all (fun c => isCode c || P c) = true) (h2 : ∀ c ∈ L.filter isCode, P c = true) : L.all P = true := by
  refine List.all_eq_true.mpr fun c hc => ?_
  have h := List.all_eq_true.mp h1 c hc
  rcases Bool.eq_false_or_eq_true (isCode c) with hi | hi
  · exact h2 c (List.mem_filter.mpr ⟨hc, hi⟩)
  · simpa [hi] using h
set_option maxRecDepth 65536 in
theorem w_c0 : (Jvm.Cond.code x code maxLocals ret).before args0 about1 = true := code_word (m := ⟨1, 1⟩) (meth := k1m1) (c := k1c1) (by decide +kernel) rfl rfl rfl (by decide +kernel)
set_option maxRecDepth 65536 in
theorem w_c1 : (Jvm.Cond.code ({ cls := "com/example/kindred/kindred/CandidateJoin$Mates", name := "<init>", desc := "(I)V" } : Jvm.MethodName) prog_13_method_1_code (2 : Nat) (Option.none : Option Jvm.ClassFile.FieldType)).before args0 about1 = true := code_word (m := ⟨2, 0⟩) (meth := k2m0) (c := k2c0) (by decide +kernel) rfl rfl rfl (by decide +kernel)
set_option maxRecDepth 65536 in
theorem w_c2 : (Jvm.Cond.code ({ cls := "java/lang/Object", name := "<init>", desc := "()V" } : Jvm.MethodName) object_method_1_code (1 : Nat) (Option.none : Option Jvm.ClassFile.FieldType)).before args0 about1 = true := code_word (m := ⟨0, 0⟩) (meth := k0m0) (c := k0c0) (by decide +kernel) rfl rfl rfl (by decide +kernel)
set_option maxRecDepth 65536 in
theorem w_c3 : (Jvm.Cond.code ({ cls := "com/example/kindred/kindred/CandidateJoin$Mates", name := "clear", desc := "()V" } : Jvm.MethodName) prog_13_method_8_code (2 : Nat) (Option.none : Option Jvm.ClassFile.FieldType)).before args0 about1 = true := code_word (m := ⟨2, 5⟩) (meth := k2m5) (c := k2c5) (by decide +kernel) rfl rfl rfl (by decide +kernel)
set_option maxRecDepth 65536 in
theorem w_c4 : (Jvm.Cond.code ({ cls := "com/example/kindred/kindred/CandidateJoin$Mates", name := "size", desc := "()I" } : Jvm.MethodName) prog_13_method_4_code (1 : Nat) (Option.some Jvm.ClassFile.FieldType.int)).before args0 about1 = true := code_word (m := ⟨2, 3⟩) (meth := k2m3) (c := k2c3) (by decide +kernel) rfl rfl rfl (by decide +kernel)
set_option maxRecDepth 65536 in
theorem w_c5 : (Jvm.Cond.code ({ cls := "com/example/kindred/kindred/CandidateJoin$Mates", name := "holds", desc := "(I)Z" } : Jvm.MethodName) prog_13_method_2_code (2 : Nat) (Option.some Jvm.ClassFile.FieldType.boolean)).before args0 about1 = true := code_word (m := ⟨2, 1⟩) (meth := k2m1) (c := k2c1) (by decide +kernel) rfl rfl rfl (by decide +kernel)
set_option maxRecDepth 65536 in
theorem w_c6 : (Jvm.Cond.code ({ cls := "com/example/kindred/kindred/CandidateJoin$Mates", name := "add", desc := "(I)V" } : Jvm.MethodName) prog_13_method_3_code (2 : Nat) (Option.none : Option Jvm.ClassFile.FieldType)).before args0 about1 = true := code_word (m := ⟨2, 2⟩) (meth := k2m2) (c := k2c2) (by decide +kernel) rfl rfl rfl (by decide +kernel)
set_option maxRecDepth 65536 in
theorem w_c7 : (Jvm.Cond.code ({ cls := "com/example/kindred/kindred/CandidateJoin$Mates", name := "get", desc := "(I)I" } : Jvm.MethodName) prog_13_method_5_code (2 : Nat) (Option.some Jvm.ClassFile.FieldType.int)).before args0 about1 = true := code_word (m := ⟨2, 4⟩) (meth := k2m4) (c := k2c4) (by decide +kernel) rfl rfl rfl (by decide +kernel)
def codes1 : List Jvm.Cond := [Jvm.Cond.code x code maxLocals ret, Jvm.Cond.code ({ cls := "com/example/kindred/kindred/CandidateJoin$Mates", name := "<init>", desc := "(I)V" } : Jvm.MethodName) prog_13_method_1_code (2 : Nat) (Option.none : Option Jvm.ClassFile.FieldType), Jvm.Cond.code ({ cls := "java/lang/Object", name := "<init>", desc := "()V" } : Jvm.MethodName) object_method_1_code (1 : Nat) (Option.none : Option Jvm.ClassFile.FieldType), Jvm.Cond.code ({ cls := "com/example/kindred/kindred/CandidateJoin$Mates", name := "clear", desc := "()V" } : Jvm.MethodName) prog_13_method_8_code (2 : Nat) (Option.none : Option Jvm.ClassFile.FieldType), Jvm.Cond.code ({ cls := "com/example/kindred/kindred/CandidateJoin$Mates", name := "size", desc := "()I" } : Jvm.MethodName) prog_13_method_4_code (1 : Nat) (Option.some Jvm.ClassFile.FieldType.int), Jvm.Cond.code ({ cls := "com/example/kindred/kindred/CandidateJoin$Mates", name := "holds", desc := "(I)Z" } : Jvm.MethodName) prog_13_method_2_code (2 : Nat) (Option.some Jvm.ClassFile.FieldType.boolean), Jvm.Cond.code ({ cls := "com/example/kindred/kindred/CandidateJoin$Mates", name := "add", desc := "(I)V" } : Jvm.MethodName) prog_13_method_3_code (2 : Nat) (Option.none : Option Jvm.ClassFile.FieldType), Jvm.Cond.code ({ cls := "com/example/kindred/kindred/CandidateJoin$Mates", name := "get", desc := "(I)I" } : Jvm.MethodName) prog_13_method_5_code (2 : Nat) (Option.some Jvm.ClassFile.FieldType.int)]
set_option maxRecDepth 65536 in
theorem codes_eq : words1.filter isCode = codes1 := rfl
theorem w_codes : ∀ c ∈ words1.filter isCode, c.before args0 about1 = true := by
  rw [codes_eq]
  intro c hc
  simp only [codes1, List.mem_cons, List.not_mem_nil, or_false] at hc
  rcases hc with rfl | rfl | rfl | rfl | rfl | rfl | rfl | rfl
  · exact w_c0
  · exact w_c1
  · exact w_c2
  · exact w_c3
  · exact w_c4
  · exact w_c5
  · exact w_c6
  · exact w_c7
set_option maxRecDepth 65536 in
theorem w_t1 : (words1.take 24).all (fun c => isCode c || c.before args0 about1) = true := by decide +kernel
set_option maxRecDepth 65536 in
theorem w_t2 : (words1.drop 24).all (fun c => isCode c || c.before args0 about1) = true := by decide +kernel
theorem w_tables : (allAtoms (Jvm.Cond.code x code maxLocals ret :: tables_1)).before args0 about1 = true := by
  rw [allAtoms_all]
  show words1.all (fun c => c.before args0 about1) = true
  refine all_split ?_ w_codes
  rw [← List.take_append_drop 24 words1, List.all_append, w_t1, w_t2]
  rfl
set_option maxRecDepth 65536 in
theorem w_case : (Jvm.Cond.and given_1 narrow_1).before args0 about1 = true := by decide +kernel
theorem w_applies : (headSpec (Jvm.Cond.code x code maxLocals ret :: tables_1) room_1).applies x e0.platform about1 = true :=
  (Spec.applies_iff w_frames).mpr ⟨w_running, w_runnable, w_alone, w_named, w_hears, w_ripe, w_room, w_tables⟩
theorem atStart : AtStart classFile x code maxLocals ret World_1 tables_1 room_1 Calls_1 rest_1 Pre_1 launch0 p0 e0 about1 theMethod args0 below0 :=
  ⟨lists_1, trivial, launch0.admits_env _ _ _, launch0.least_env, fairChoices_fair.cas, fairChoices_fair.clock, w_frames, w_args, w_heap, w_applies, trivial, trivial, w_case⟩
end start1
theorem witness_1 : WitnessClaimed_1 := ⟨start1.p0, start1.e0, start1.about1, start1.theMethod, start1.args0, start1.below0, start1.atStart⟩
end Jvm.Pilot.@@N@@

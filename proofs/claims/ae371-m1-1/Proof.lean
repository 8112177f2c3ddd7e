import JvmDerived
import JvmDerived.Pilot.@@N@@Statement
import JvmDerived.Pilot.@@N@@Code
set_option linter.unusedVariables false
set_option linter.unusedSimpArgs false
namespace Jvm.RoadKit
open Sem ClassFile Op Lib Jvm.Stand Jvm.Free Jvm.LawKit
section New
variable {p : Program} {l : Launch} {e : Env} {R : Room} {s : State} {m : MethodId} {args : Array Value} {below : List Frame} {meth : Method} {c : Code} {T : State} {locs : List Loc} {cells slots : Nat}
theorem retI (X : Stand p l e R s m args below meth c T locs cells slots) (hx : p.tables.exec = Jvm.exec) {pc : Nat} {Ls : Array Slot} {z : Int32} {rest : List Value} (hret : meth.sig.returnType = some .int) (hd : decode c.code pc = .ok (.ireturn, 1)) {fs : List Frame}
    (hl : ∀ (f : JFrame) (acts : List Action), f.method = m → f.locked = none → f.entered = [] → (doReturn e (T.setTop f) acts (some (.int z))).1 = T.setFrames fs) : Steps p.tables e below (T.setTop (mkF m pc Ls (.int z :: rest))) (T.setFrames fs) := by
  have hm' : T.vm.method? m = some meth := X.method'
  have hn : narrow .int (.int z) = .int z := rfl
  show Steps p.tables e below (T.setTop { method := m, pc := pc, locals := Ls, stack := _ :: rest, locked := none }) _
  jvm_step X.here [X.here.top, hx, hd, hm', hret, hn]
  first | (intro acts; rw [hl _ acts rfl rfl rfl]) | rw [hl _ _ rfl rfl rfl]
  exact Steps.refl _
end New
end Jvm.RoadKit
namespace Jvm.Own
open Sem ClassFile Op Lib Jvm.Stand Jvm.Free Jvm.LawKit Jvm.RoadKit
/-- the constants of one body's walk -/
abbrev KT := Program × Launch × Env × Room × State × MethodId × Array Value × List Frame × Method × Code × State × Nat
abbrev KT.p (K : KT) : Program := K.1
abbrev KT.l (K : KT) : Launch := K.2.1
abbrev KT.e (K : KT) : Env := K.2.2.1
abbrev KT.R (K : KT) : Room := K.2.2.2.1
abbrev KT.s (K : KT) : State := K.2.2.2.2.1
abbrev KT.m (K : KT) : MethodId := K.2.2.2.2.2.1
abbrev KT.args (K : KT) : Array Value := K.2.2.2.2.2.2.1
abbrev KT.below (K : KT) : List Frame := K.2.2.2.2.2.2.2.1
abbrev KT.meth (K : KT) : Method := K.2.2.2.2.2.2.2.2.1
abbrev KT.c (K : KT) : Code := K.2.2.2.2.2.2.2.2.2.1
abbrev KT.Z (K : KT) : State := K.2.2.2.2.2.2.2.2.2.2.1
abbrev KT.n0 (K : KT) : Nat := K.2.2.2.2.2.2.2.2.2.2.2
/-- what is known of the body -/
def Cx (K : KT) (y : MethodName) (bytes : ByteArray) (mx : Nat) (rt : Option FieldType) (R : Room) : Prop :=
  K.p.tables.exec = Jvm.exec ∧ K.Z.Warmed39 K.s.vm ∧ K.c.code = bytes ∧ K.c.maxLocals = mx ∧ K.s.vm.findClass y.cls = some K.m.cls ∧ K.meth.sig.returnType = rt ∧ K.meth.locks = false ∧ K.R = R ∧ K.meth.name = y.name
/-- where the walk stands: heap h, so many cells and slots made; nothing old written -/
def Sd (K : KT) (T : State) (h : Heap) (cl sl : Nat) : Prop := ∃ locs, Stand K.p K.l K.e K.R K.s K.m K.args K.below K.meth K.c T locs cl sl ∧ Fr K.n0 locs ∧ K.n0 ≤ h.size ∧ T.heap = h
/-- from here the body comes to its end, and Q holds of what it returns and of the heap then -/
def Run (K : KT) (Q : Option Value → Heap → Prop) (T : State) (g : JFrame) : Prop :=
  ∃ s₂ v L, Steps K.p.tables K.e K.below (T.setTop g) s₂ ∧ s₂.status = .running ∧ Ended s₂ K.below (.returned v) ∧ Q v s₂.heap ∧ Fr K.n0 L ∧ FrameEnd K.s (.returned v) s₂ L K.R.cells K.R.slots
theorem Run.st {K : KT} {Q : Option Value → Heap → Prop} {T T' : State} {g g' : JFrame} (st : ∀ t, Steps K.p.tables K.e K.below (T'.setTop g') t → Steps K.p.tables K.e K.below (T.setTop g) t) (k : Run K Q T' g') : Run K Q T g := by
  obtain ⟨s₂, v, L, h1, h2⟩ := k
  exact ⟨s₂, v, L, st _ h1, h2⟩
theorem Run.cast {K : KT} {Q : Option Value → Heap → Prop} {T : State} {g g' : JFrame} (q : g = g') (k : Run K Q T g') : Run K Q T g := q ▸ k
theorem Run.mono {K : KT} {Q Q' : Option Value → Heap → Prop} {T : State} {g : JFrame} (k : Run K Q T g) (q : ∀ v h, Q v h → Q' v h) : Run K Q' T g := by
  obtain ⟨s₂, v, L, h1, h2, h3, h4, h5⟩ := k
  exact ⟨s₂, v, L, h1, h2, h3, q _ _ h4, h5⟩
/-- the words of a sheet -/
def Tb (ws : List Jvm.Cond) (a0 : Array Value) (Z : State) : Prop := ∀ d ∈ ws, d.before a0 Z = true
theorem Tb.get {ws : List Jvm.Cond} {a0 : Array Value} {Z : State} (hw : Tb ws a0 Z) (i : Nat) {d : Jvm.Cond} (h : ws[i]? = some d) : d.before a0 Z = true := hw d (List.mem_of_getElem? h)
/-- an instruction, its length, the pc behind -/
def Dc (bytes : ByteArray) (pc : Nat) (i : Instr) (n pc' : Nat) : Prop := decode bytes pc = .ok (i, n) ∧ pc + n = pc'
/-- a branch: the pc behind, the pc that it goes to -/
def Db (bytes : ByteArray) (pc : Nat) (i : Instr) (o : Int) (pc' pt : Nat) : Prop := decode bytes pc = .ok (i, 3) ∧ pc + 3 = pc' ∧ 0 ≤ (pc : Int) + o ∧ ((pc : Int) + o).toNat = pt
theorem ne_new {a b : Addr} {h : Heap} (ea : a = h.size) (q : b < h.size) : a ≠ b := by subst ea; exact Nat.ne_of_gt q
theorem fr_new {h0 h : Heap} {a : Addr} (ea : a = h.size) (q : h0.size ≤ h.size) : h0.size ≤ a := ea ▸ q
theorem leb {a b : Nat} (h : Nat.ble a b = true) : a ≤ b := Nat.le_of_ble_eq_true h
theorem ltb {a b : Nat} (h : Nat.ble (a + 1) b = true) : a < b := Nat.le_of_ble_eq_true h
section Rules
variable {K : KT} {Q : Option Value → Heap → Prop} {T : State} {h : Heap} {cl sl : Nat} {y : MethodName} {bytes : ByteArray} {mx : Nat} {rt : Option FieldType} {R : Room} {pc pc' pt : Nat} {L : Array Slot} {S : List Value}
theorem r_top {v v' : Int32} (q : v = v') (k : Run K Q T (mkF K.m pc L (.int v' :: S))) : Run K Q T (mkF K.m pc L (.int v :: S)) := q ▸ k
theorem r_topL {v v' : Int64} (q : v = v') (k : Run K Q T (mkF K.m pc L (.long v' :: S))) : Run K Q T (mkF K.m pc L (.long v :: S)) := q ▸ k
theorem Sd.ge (X : Sd K T h cl sl) : K.n0 ≤ h.size := by obtain ⟨_, _, _, q, _⟩ := X; exact q
theorem r_iloadN {i : Fin 4} {v : Int32} (X : Sd K T h cl sl) (cx : Cx K y bytes mx rt R) (hd : Dc bytes pc (.iload_n i) 1 pc') (hl : L[i.val]? = some (.val (.int v))) (k : Run K Q T (mkF K.m pc' L (.int v :: S))) : Run K Q T (mkF K.m pc L (S)) := by
  obtain ⟨locs, X0, -⟩ := X; obtain ⟨hx, -, hby, -⟩ := cx; obtain ⟨d, rfl⟩ := hd
  exact Run.st (fun t q => XS.iloadN X0.here hx rfl (hb hby d) hl q) k
theorem r_iload {i : Nat} {v : Int32} (X : Sd K T h cl sl) (cx : Cx K y bytes mx rt R) (hd : Dc bytes pc (.iload i) 2 pc') (hl : L[i]? = some (.val (.int v))) (k : Run K Q T (mkF K.m pc' L (.int v :: S))) : Run K Q T (mkF K.m pc L (S)) := by
  obtain ⟨locs, X0, -⟩ := X; obtain ⟨hx, -, hby, -⟩ := cx; obtain ⟨d, rfl⟩ := hd
  exact Run.st (fun t q => XS.iload X0.here hx rfl (hb hby d) hl q) k
theorem r_lloadN {i : Fin 4} {v : Int64} (X : Sd K T h cl sl) (cx : Cx K y bytes mx rt R) (hd : Dc bytes pc (.lload_n i) 1 pc') (hl : L[i.val]? = some (.val (.long v))) (k : Run K Q T (mkF K.m pc' L (.long v :: S))) : Run K Q T (mkF K.m pc L (S)) := by
  obtain ⟨locs, X0, -⟩ := X; obtain ⟨hx, -, hby, -⟩ := cx; obtain ⟨d, rfl⟩ := hd
  exact Run.st (fun t q => XT.lloadN X0.here hx rfl (hb hby d) hl q) k
theorem r_lload {i : Nat} {v : Int64} (X : Sd K T h cl sl) (cx : Cx K y bytes mx rt R) (hd : Dc bytes pc (.lload i) 2 pc') (hl : L[i]? = some (.val (.long v))) (k : Run K Q T (mkF K.m pc' L (.long v :: S))) : Run K Q T (mkF K.m pc L (S)) := by
  obtain ⟨locs, X0, -⟩ := X; obtain ⟨hx, -, hby, -⟩ := cx; obtain ⟨d, rfl⟩ := hd
  exact Run.st (fun t q => XT.lload X0.here hx rfl (hb hby d) hl q) k
theorem r_aloadN {i : Fin 4} {v : Addr} (X : Sd K T h cl sl) (cx : Cx K y bytes mx rt R) (hd : Dc bytes pc (.aload_n i) 1 pc') (hl : L[i.val]? = some (.val (.ref v))) (k : Run K Q T (mkF K.m pc' L (.ref v :: S))) : Run K Q T (mkF K.m pc L (S)) := by
  obtain ⟨locs, X0, -⟩ := X; obtain ⟨hx, -, hby, -⟩ := cx; obtain ⟨d, rfl⟩ := hd
  exact Run.st (fun t q => XS.aloadN X0.here hx rfl (hb hby d) hl rfl q) k
theorem r_aload {i : Nat} {v : Addr} (X : Sd K T h cl sl) (cx : Cx K y bytes mx rt R) (hd : Dc bytes pc (.aload i) 2 pc') (hl : L[i]? = some (.val (.ref v))) (k : Run K Q T (mkF K.m pc' L (.ref v :: S))) : Run K Q T (mkF K.m pc L (S)) := by
  obtain ⟨locs, X0, -⟩ := X; obtain ⟨hx, -, hby, -⟩ := cx; obtain ⟨d, rfl⟩ := hd
  exact Run.st (fun t q => XS.aload X0.here hx rfl (hb hby d) hl rfl q) k
theorem r_iconst {i : Int} (v : Int32) (X : Sd K T h cl sl) (cx : Cx K y bytes mx rt R) (hd : Dc bytes pc (.iconst i) 1 pc') (hv : Int32.ofInt i = v) (k : Run K Q T (mkF K.m pc' L (.int v :: S))) : Run K Q T (mkF K.m pc L (S)) := by
  obtain ⟨locs, X0, -⟩ := X; obtain ⟨hx, -, hby, -⟩ := cx; obtain ⟨d, rfl⟩ := hd
  exact Run.st (fun t q => XT.iconstV X0.here hx rfl v (hb hby d) hv q) k
theorem r_bipush {i : Int} (v : Int32) (X : Sd K T h cl sl) (cx : Cx K y bytes mx rt R) (hd : Dc bytes pc (.bipush i) 2 pc') (hv : (Int8.ofInt i).toInt32 = v) (k : Run K Q T (mkF K.m pc' L (.int v :: S))) : Run K Q T (mkF K.m pc L (S)) := by
  obtain ⟨locs, X0, -⟩ := X; obtain ⟨hx, -, hby, -⟩ := cx; obtain ⟨d, rfl⟩ := hd
  exact Run.st (fun t q => XT.bipushV X0.here hx rfl v (hb hby d) hv q) k
theorem r_sipush {i : Int} (v : Int32) (X : Sd K T h cl sl) (cx : Cx K y bytes mx rt R) (hd : Dc bytes pc (.sipush i) 3 pc') (hv : (Int16.ofInt i).toInt32 = v) (k : Run K Q T (mkF K.m pc' L (.int v :: S))) : Run K Q T (mkF K.m pc L (S)) := by
  obtain ⟨locs, X0, -⟩ := X; obtain ⟨hx, -, hby, -⟩ := cx; obtain ⟨d, rfl⟩ := hd
  exact Run.st (fun t q => XT.sipushV X0.here hx rfl v (hb hby d) hv q) k
theorem r_lconst {i : Fin 2} (v : Int64) (X : Sd K T h cl sl) (cx : Cx K y bytes mx rt R) (hd : Dc bytes pc (.lconst i) 1 pc') (hv : Int64.ofNat i = v) (k : Run K Q T (mkF K.m pc' L (.long v :: S))) : Run K Q T (mkF K.m pc L (S)) := by
  obtain ⟨locs, X0, -⟩ := X; obtain ⟨hx, -, hby, -⟩ := cx; obtain ⟨d, rfl⟩ := hd
  exact Run.st (fun t q => XT.lconstV X0.here hx rfl v (hb hby d) hv q) k
theorem r_iadd {a b : Int32} (X : Sd K T h cl sl) (cx : Cx K y bytes mx rt R) (hd : Dc bytes pc .iadd 1 pc') (k : Run K Q T (mkF K.m pc' L (.int (a + b) :: S))) : Run K Q T (mkF K.m pc L (.int b :: .int a :: S)) := by
  obtain ⟨locs, X0, -⟩ := X; obtain ⟨hx, -, hby, -⟩ := cx; obtain ⟨d, rfl⟩ := hd
  exact Run.st (fun t q => XS.iadd X0.here hx rfl (hb hby d) rfl q) k
theorem r_isub {a b : Int32} (X : Sd K T h cl sl) (cx : Cx K y bytes mx rt R) (hd : Dc bytes pc .isub 1 pc') (k : Run K Q T (mkF K.m pc' L (.int (a - b) :: S))) : Run K Q T (mkF K.m pc L (.int b :: .int a :: S)) := by
  obtain ⟨locs, X0, -⟩ := X; obtain ⟨hx, -, hby, -⟩ := cx; obtain ⟨d, rfl⟩ := hd
  exact Run.st (fun t q => XS.isub X0.here hx rfl (hb hby d) rfl q) k
theorem r_imul {a b : Int32} (X : Sd K T h cl sl) (cx : Cx K y bytes mx rt R) (hd : Dc bytes pc .imul 1 pc') (k : Run K Q T (mkF K.m pc' L (.int (a * b) :: S))) : Run K Q T (mkF K.m pc L (.int b :: .int a :: S)) := by
  obtain ⟨locs, X0, -⟩ := X; obtain ⟨hx, -, hby, -⟩ := cx; obtain ⟨d, rfl⟩ := hd
  exact Run.st (fun t q => XS.imul X0.here hx rfl (hb hby d) rfl q) k
theorem r_iand {a b : Int32} (X : Sd K T h cl sl) (cx : Cx K y bytes mx rt R) (hd : Dc bytes pc .iand 1 pc') (k : Run K Q T (mkF K.m pc' L (.int (a &&& b) :: S))) : Run K Q T (mkF K.m pc L (.int b :: .int a :: S)) := by
  obtain ⟨locs, X0, -⟩ := X; obtain ⟨hx, -, hby, -⟩ := cx; obtain ⟨d, rfl⟩ := hd
  exact Run.st (fun t q => XS.iand X0.here hx rfl (hb hby d) rfl q) k
theorem r_ior {a b : Int32} (X : Sd K T h cl sl) (cx : Cx K y bytes mx rt R) (hd : Dc bytes pc .ior 1 pc') (k : Run K Q T (mkF K.m pc' L (.int (a ||| b) :: S))) : Run K Q T (mkF K.m pc L (.int b :: .int a :: S)) := by
  obtain ⟨locs, X0, -⟩ := X; obtain ⟨hx, -, hby, -⟩ := cx; obtain ⟨d, rfl⟩ := hd
  exact Run.st (fun t q => XT.ior X0.here hx rfl (hb hby d) rfl q) k
theorem r_ixor {a b : Int32} (X : Sd K T h cl sl) (cx : Cx K y bytes mx rt R) (hd : Dc bytes pc .ixor 1 pc') (k : Run K Q T (mkF K.m pc' L (.int (a ^^^ b) :: S))) : Run K Q T (mkF K.m pc L (.int b :: .int a :: S)) := by
  obtain ⟨locs, X0, -⟩ := X; obtain ⟨hx, -, hby, -⟩ := cx; obtain ⟨d, rfl⟩ := hd
  exact Run.st (fun t q => XT.ixor X0.here hx rfl (hb hby d) rfl q) k
theorem r_ishl {a b : Int32} (X : Sd K T h cl sl) (cx : Cx K y bytes mx rt R) (hd : Dc bytes pc .ishl 1 pc') (k : Run K Q T (mkF K.m pc' L (.int (a <<< (b &&& 31)) :: S))) : Run K Q T (mkF K.m pc L (.int b :: .int a :: S)) := by
  obtain ⟨locs, X0, -⟩ := X; obtain ⟨hx, -, hby, -⟩ := cx; obtain ⟨d, rfl⟩ := hd
  exact Run.st (fun t q => XT.ishl X0.here hx rfl (hb hby d) rfl q) k
theorem r_ishr {a b : Int32} (X : Sd K T h cl sl) (cx : Cx K y bytes mx rt R) (hd : Dc bytes pc .ishr 1 pc') (k : Run K Q T (mkF K.m pc' L (.int (a >>> (b &&& 31)) :: S))) : Run K Q T (mkF K.m pc L (.int b :: .int a :: S)) := by
  obtain ⟨locs, X0, -⟩ := X; obtain ⟨hx, -, hby, -⟩ := cx; obtain ⟨d, rfl⟩ := hd
  exact Run.st (fun t q => XT.ishr X0.here hx rfl (hb hby d) rfl q) k
theorem r_iushr {a b : Int32} (X : Sd K T h cl sl) (cx : Cx K y bytes mx rt R) (hd : Dc bytes pc .iushr 1 pc') (k : Run K Q T (mkF K.m pc' L (.int (XT.ushr a b) :: S))) : Run K Q T (mkF K.m pc L (.int b :: .int a :: S)) := by
  obtain ⟨locs, X0, -⟩ := X; obtain ⟨hx, -, hby, -⟩ := cx; obtain ⟨d, rfl⟩ := hd
  exact Run.st (fun t q => XT.iushr X0.here hx rfl (hb hby d) rfl q) k
theorem r_idiv {a b : Int32} (X : Sd K T h cl sl) (cx : Cx K y bytes mx rt R) (hd : Dc bytes pc .idiv 1 pc') (hne : b ≠ 0) (k : Run K Q T (mkF K.m pc' L (.int (a / b) :: S))) : Run K Q T (mkF K.m pc L (.int b :: .int a :: S)) := by
  obtain ⟨locs, X0, -⟩ := X; obtain ⟨hx, -, hby, -⟩ := cx; obtain ⟨d, rfl⟩ := hd
  exact Run.st (fun t q => XS.idiv X0.here hx rfl (hb hby d) rfl hne q) k
theorem r_irem {a b : Int32} (X : Sd K T h cl sl) (cx : Cx K y bytes mx rt R) (hd : Dc bytes pc .irem 1 pc') (hne : b ≠ 0) (k : Run K Q T (mkF K.m pc' L (.int (a - (a / b) * b) :: S))) : Run K Q T (mkF K.m pc L (.int b :: .int a :: S)) := by
  obtain ⟨locs, X0, -⟩ := X; obtain ⟨hx, -, hby, -⟩ := cx; obtain ⟨d, rfl⟩ := hd
  exact Run.st (fun t q => XS.irem X0.here hx rfl (hb hby d) rfl hne q) k
theorem r_ladd {a b : Int64} (X : Sd K T h cl sl) (cx : Cx K y bytes mx rt R) (hd : Dc bytes pc .ladd 1 pc') (k : Run K Q T (mkF K.m pc' L (.long (a + b) :: S))) : Run K Q T (mkF K.m pc L (.long b :: .long a :: S)) := by
  obtain ⟨locs, X0, -⟩ := X; obtain ⟨hx, -, hby, -⟩ := cx; obtain ⟨d, rfl⟩ := hd
  exact Run.st (fun t q => XT.ladd X0.here hx rfl (hb hby d) rfl q) k
theorem r_lsub {a b : Int64} (X : Sd K T h cl sl) (cx : Cx K y bytes mx rt R) (hd : Dc bytes pc .lsub 1 pc') (k : Run K Q T (mkF K.m pc' L (.long (a - b) :: S))) : Run K Q T (mkF K.m pc L (.long b :: .long a :: S)) := by
  obtain ⟨locs, X0, -⟩ := X; obtain ⟨hx, -, hby, -⟩ := cx; obtain ⟨d, rfl⟩ := hd
  exact Run.st (fun t q => XT.lsub X0.here hx rfl (hb hby d) rfl q) k
theorem r_lmul {a b : Int64} (X : Sd K T h cl sl) (cx : Cx K y bytes mx rt R) (hd : Dc bytes pc .lmul 1 pc') (k : Run K Q T (mkF K.m pc' L (.long (a * b) :: S))) : Run K Q T (mkF K.m pc L (.long b :: .long a :: S)) := by
  obtain ⟨locs, X0, -⟩ := X; obtain ⟨hx, -, hby, -⟩ := cx; obtain ⟨d, rfl⟩ := hd
  exact Run.st (fun t q => XT.lmul X0.here hx rfl (hb hby d) rfl q) k
theorem r_land {a b : Int64} (X : Sd K T h cl sl) (cx : Cx K y bytes mx rt R) (hd : Dc bytes pc .land 1 pc') (k : Run K Q T (mkF K.m pc' L (.long (a &&& b) :: S))) : Run K Q T (mkF K.m pc L (.long b :: .long a :: S)) := by
  obtain ⟨locs, X0, -⟩ := X; obtain ⟨hx, -, hby, -⟩ := cx; obtain ⟨d, rfl⟩ := hd
  exact Run.st (fun t q => XT.land X0.here hx rfl (hb hby d) rfl q) k
theorem r_lor {a b : Int64} (X : Sd K T h cl sl) (cx : Cx K y bytes mx rt R) (hd : Dc bytes pc .lor 1 pc') (k : Run K Q T (mkF K.m pc' L (.long (a ||| b) :: S))) : Run K Q T (mkF K.m pc L (.long b :: .long a :: S)) := by
  obtain ⟨locs, X0, -⟩ := X; obtain ⟨hx, -, hby, -⟩ := cx; obtain ⟨d, rfl⟩ := hd
  exact Run.st (fun t q => XT.lor X0.here hx rfl (hb hby d) rfl q) k
theorem r_lxor {a b : Int64} (X : Sd K T h cl sl) (cx : Cx K y bytes mx rt R) (hd : Dc bytes pc .lxor 1 pc') (k : Run K Q T (mkF K.m pc' L (.long (a ^^^ b) :: S))) : Run K Q T (mkF K.m pc L (.long b :: .long a :: S)) := by
  obtain ⟨locs, X0, -⟩ := X; obtain ⟨hx, -, hby, -⟩ := cx; obtain ⟨d, rfl⟩ := hd
  exact Run.st (fun t q => XT.lxor X0.here hx rfl (hb hby d) rfl q) k
theorem r_ldiv {a b : Int64} (X : Sd K T h cl sl) (cx : Cx K y bytes mx rt R) (hd : Dc bytes pc .ldiv 1 pc') (hne : b ≠ 0) (k : Run K Q T (mkF K.m pc' L (.long (a / b) :: S))) : Run K Q T (mkF K.m pc L (.long b :: .long a :: S)) := by
  obtain ⟨locs, X0, -⟩ := X; obtain ⟨hx, -, hby, -⟩ := cx; obtain ⟨d, rfl⟩ := hd
  exact Run.st (fun t q => XT.ldiv X0.here hx rfl (hb hby d) rfl hne q) k
theorem r_lrem {a b : Int64} (X : Sd K T h cl sl) (cx : Cx K y bytes mx rt R) (hd : Dc bytes pc .lrem 1 pc') (hne : b ≠ 0) (k : Run K Q T (mkF K.m pc' L (.long (a - (a / b) * b) :: S))) : Run K Q T (mkF K.m pc L (.long b :: .long a :: S)) := by
  obtain ⟨locs, X0, -⟩ := X; obtain ⟨hx, -, hby, -⟩ := cx; obtain ⟨d, rfl⟩ := hd
  exact Run.st (fun t q => XT.lrem X0.here hx rfl (hb hby d) rfl hne q) k
theorem r_lshl {a : Int64} {b : Int32} (X : Sd K T h cl sl) (cx : Cx K y bytes mx rt R) (hd : Dc bytes pc .lshl 1 pc') (k : Run K Q T (mkF K.m pc' L (.long (a <<< (b.toInt64 &&& 63)) :: S))) : Run K Q T (mkF K.m pc L (.int b :: .long a :: S)) := by
  obtain ⟨locs, X0, -⟩ := X; obtain ⟨hx, -, hby, -⟩ := cx; obtain ⟨d, rfl⟩ := hd
  exact Run.st (fun t q => XT.lshl X0.here hx rfl (hb hby d) rfl q) k
theorem r_lshr {a : Int64} {b : Int32} (X : Sd K T h cl sl) (cx : Cx K y bytes mx rt R) (hd : Dc bytes pc .lshr 1 pc') (k : Run K Q T (mkF K.m pc' L (.long (a >>> (b.toInt64 &&& 63)) :: S))) : Run K Q T (mkF K.m pc L (.int b :: .long a :: S)) := by
  obtain ⟨locs, X0, -⟩ := X; obtain ⟨hx, -, hby, -⟩ := cx; obtain ⟨d, rfl⟩ := hd
  exact Run.st (fun t q => XT.lshr X0.here hx rfl (hb hby d) rfl q) k
theorem r_lushr {a : Int64} {b : Int32} (X : Sd K T h cl sl) (cx : Cx K y bytes mx rt R) (hd : Dc bytes pc .lushr 1 pc') (k : Run K Q T (mkF K.m pc' L (.long (XT.ushrL a b) :: S))) : Run K Q T (mkF K.m pc L (.int b :: .long a :: S)) := by
  obtain ⟨locs, X0, -⟩ := X; obtain ⟨hx, -, hby, -⟩ := cx; obtain ⟨d, rfl⟩ := hd
  exact Run.st (fun t q => XT.lushr X0.here hx rfl (hb hby d) rfl q) k
theorem r_ineg {a : Int32} (X : Sd K T h cl sl) (cx : Cx K y bytes mx rt R) (hd : Dc bytes pc .ineg 1 pc') (k : Run K Q T (mkF K.m pc' L (.int (-a) :: S))) : Run K Q T (mkF K.m pc L (.int a :: S)) := by
  obtain ⟨locs, X0, -⟩ := X; obtain ⟨hx, -, hby, -⟩ := cx; obtain ⟨d, rfl⟩ := hd
  exact Run.st (fun t q => XS.ineg X0.here hx rfl (hb hby d) rfl q) k
theorem r_i2l {a : Int32} (X : Sd K T h cl sl) (cx : Cx K y bytes mx rt R) (hd : Dc bytes pc .i2l 1 pc') (k : Run K Q T (mkF K.m pc' L (.long a.toInt64 :: S))) : Run K Q T (mkF K.m pc L (.int a :: S)) := by
  obtain ⟨locs, X0, -⟩ := X; obtain ⟨hx, -, hby, -⟩ := cx; obtain ⟨d, rfl⟩ := hd
  exact Run.st (fun t q => XT.i2l X0.here hx rfl (hb hby d) rfl q) k
theorem r_l2i {a : Int64} (X : Sd K T h cl sl) (cx : Cx K y bytes mx rt R) (hd : Dc bytes pc .l2i 1 pc') (k : Run K Q T (mkF K.m pc' L (.int a.toInt32 :: S))) : Run K Q T (mkF K.m pc L (.long a :: S)) := by
  obtain ⟨locs, X0, -⟩ := X; obtain ⟨hx, -, hby, -⟩ := cx; obtain ⟨d, rfl⟩ := hd
  exact Run.st (fun t q => XT.l2i X0.here hx rfl (hb hby d) rfl q) k
theorem r_i2b {a : Int32} (X : Sd K T h cl sl) (cx : Cx K y bytes mx rt R) (hd : Dc bytes pc .i2b 1 pc') (k : Run K Q T (mkF K.m pc' L (.int a.toInt8.toInt32 :: S))) : Run K Q T (mkF K.m pc L (.int a :: S)) := by
  obtain ⟨locs, X0, -⟩ := X; obtain ⟨hx, -, hby, -⟩ := cx; obtain ⟨d, rfl⟩ := hd
  exact Run.st (fun t q => XT.i2b X0.here hx rfl (hb hby d) rfl q) k
theorem r_i2s {a : Int32} (X : Sd K T h cl sl) (cx : Cx K y bytes mx rt R) (hd : Dc bytes pc .i2s 1 pc') (k : Run K Q T (mkF K.m pc' L (.int a.toInt16.toInt32 :: S))) : Run K Q T (mkF K.m pc L (.int a :: S)) := by
  obtain ⟨locs, X0, -⟩ := X; obtain ⟨hx, -, hby, -⟩ := cx; obtain ⟨d, rfl⟩ := hd
  exact Run.st (fun t q => XT.i2s X0.here hx rfl (hb hby d) rfl q) k
theorem r_lcmp {a b : Int64} (X : Sd K T h cl sl) (cx : Cx K y bytes mx rt R) (hd : Dc bytes pc .lcmp 1 pc') (k : Run K Q T (mkF K.m pc' L (.int (XT.cmpL a b) :: S))) : Run K Q T (mkF K.m pc L (.long b :: .long a :: S)) := by
  obtain ⟨locs, X0, -⟩ := X; obtain ⟨hx, -, hby, -⟩ := cx; obtain ⟨d, rfl⟩ := hd
  exact Run.st (fun t q => XT.lcmp X0.here hx rfl (hb hby d) rfl q) k
theorem r_dup {v : Value} (X : Sd K T h cl sl) (cx : Cx K y bytes mx rt R) (hd : Dc bytes pc .dup 1 pc') (hc : v.category = 1) (k : Run K Q T (mkF K.m pc' L (v :: v :: S))) : Run K Q T (mkF K.m pc L (v :: S)) := by
  obtain ⟨locs, X0, -⟩ := X; obtain ⟨hx, -, hby, -⟩ := cx; obtain ⟨d, rfl⟩ := hd
  exact Run.st (fun t q => XS.dup X0.here hx rfl (hb hby d) rfl hc q) k
theorem r_pop {v : Value} (X : Sd K T h cl sl) (cx : Cx K y bytes mx rt R) (hd : Dc bytes pc .pop 1 pc') (hc : v.category = 1) (k : Run K Q T (mkF K.m pc' L (S))) : Run K Q T (mkF K.m pc L (v :: S)) := by
  obtain ⟨locs, X0, -⟩ := X; obtain ⟨hx, -, hby, -⟩ := cx; obtain ⟨d, rfl⟩ := hd
  exact Run.st (fun t q => XT.pop X0.here hx rfl (hb hby d) rfl hc q) k
theorem r_dup2 {v w : Value} (X : Sd K T h cl sl) (cx : Cx K y bytes mx rt R) (hd : Dc bytes pc .dup2 1 pc') (hc : v.category = 1) (hc2 : w.category = 1) (k : Run K Q T (mkF K.m pc' L (v :: w :: v :: w :: S))) : Run K Q T (mkF K.m pc L (v :: w :: S)) := by
  obtain ⟨locs, X0, -⟩ := X; obtain ⟨hx, -, hby, -⟩ := cx; obtain ⟨d, rfl⟩ := hd
  exact Run.st (fun t q => XT.dup2 X0.here hx rfl (hb hby d) rfl hc hc2 q) k
theorem r_dup_x1 {v w : Value} (X : Sd K T h cl sl) (cx : Cx K y bytes mx rt R) (hd : Dc bytes pc .dup_x1 1 pc') (hc : v.category = 1) (hc2 : w.category = 1) (k : Run K Q T (mkF K.m pc' L (v :: w :: v :: S))) : Run K Q T (mkF K.m pc L (v :: w :: S)) := by
  obtain ⟨locs, X0, -⟩ := X; obtain ⟨hx, -, hby, -⟩ := cx; obtain ⟨d, rfl⟩ := hd
  exact Run.st (fun t q => XT.dupX1 X0.here hx rfl (hb hby d) rfl hc hc2 q) k
theorem r_istoreN {i : Fin 4} {x : Int32} (L' : Int32 → Array Slot) (X : Sd K T h cl sl) (cx : Cx K y bytes mx rt R) (hd : Dc bytes pc (.istore_n i) 1 pc') (hl : ∀ v, storeLocals L i.val (.int v) = some (L' v)) (k : ∀ v, v = x → Run K Q T (mkF K.m pc' (L' v) S)) : Run K Q T (mkF K.m pc L (.int x :: S)) := by
  obtain ⟨locs, X0, -⟩ := X; obtain ⟨hx, -, hby, -⟩ := cx; obtain ⟨d, rfl⟩ := hd
  exact Run.st (fun t q => XS.istoreN X0.here hx rfl (hb hby d) rfl (hl x) q) (k x rfl)
theorem r_istore {i : Nat} {x : Int32} (L' : Int32 → Array Slot) (X : Sd K T h cl sl) (cx : Cx K y bytes mx rt R) (hd : Dc bytes pc (.istore i) 2 pc') (hl : ∀ v, storeLocals L i (.int v) = some (L' v)) (k : ∀ v, v = x → Run K Q T (mkF K.m pc' (L' v) S)) : Run K Q T (mkF K.m pc L (.int x :: S)) := by
  obtain ⟨locs, X0, -⟩ := X; obtain ⟨hx, -, hby, -⟩ := cx; obtain ⟨d, rfl⟩ := hd
  exact Run.st (fun t q => XS.istore X0.here hx rfl (hb hby d) rfl (hl x) q) (k x rfl)
theorem r_lstoreN {i : Fin 4} {x : Int64} (L' : Int64 → Array Slot) (X : Sd K T h cl sl) (cx : Cx K y bytes mx rt R) (hd : Dc bytes pc (.lstore_n i) 1 pc') (hl : ∀ v, storeLocals L i.val (.long v) = some (L' v)) (k : ∀ v, v = x → Run K Q T (mkF K.m pc' (L' v) S)) : Run K Q T (mkF K.m pc L (.long x :: S)) := by
  obtain ⟨locs, X0, -⟩ := X; obtain ⟨hx, -, hby, -⟩ := cx; obtain ⟨d, rfl⟩ := hd
  exact Run.st (fun t q => XT.lstoreN X0.here hx rfl (hb hby d) rfl (hl x) q) (k x rfl)
theorem r_lstore {i : Nat} {x : Int64} (L' : Int64 → Array Slot) (X : Sd K T h cl sl) (cx : Cx K y bytes mx rt R) (hd : Dc bytes pc (.lstore i) 2 pc') (hl : ∀ v, storeLocals L i (.long v) = some (L' v)) (k : ∀ v, v = x → Run K Q T (mkF K.m pc' (L' v) S)) : Run K Q T (mkF K.m pc L (.long x :: S)) := by
  obtain ⟨locs, X0, -⟩ := X; obtain ⟨hx, -, hby, -⟩ := cx; obtain ⟨d, rfl⟩ := hd
  exact Run.st (fun t q => XT.lstore X0.here hx rfl (hb hby d) rfl (hl x) q) (k x rfl)
theorem r_astoreN {i : Fin 4} {x : Addr} (L' : Array Slot) (X : Sd K T h cl sl) (cx : Cx K y bytes mx rt R) (hd : Dc bytes pc (.astore_n i) 1 pc') (hl : storeLocals L i.val (.ref x) = some L') (k : Run K Q T (mkF K.m pc' L' S)) : Run K Q T (mkF K.m pc L (.ref x :: S)) := by
  obtain ⟨locs, X0, -⟩ := X; obtain ⟨hx, -, hby, -⟩ := cx; obtain ⟨d, rfl⟩ := hd
  exact Run.st (fun t q => XS.astoreN X0.here hx rfl (hb hby d) rfl rfl hl q) k
theorem r_astore {i : Nat} {x : Addr} (L' : Array Slot) (X : Sd K T h cl sl) (cx : Cx K y bytes mx rt R) (hd : Dc bytes pc (.astore i) 2 pc') (hl : storeLocals L i (.ref x) = some L') (k : Run K Q T (mkF K.m pc' L' S)) : Run K Q T (mkF K.m pc L (.ref x :: S)) := by
  obtain ⟨locs, X0, -⟩ := X; obtain ⟨hx, -, hby, -⟩ := cx; obtain ⟨d, rfl⟩ := hd
  exact Run.st (fun t q => XS.astore X0.here hx rfl (hb hby d) rfl rfl hl q) k
theorem r_iinc {i : Nat} {cst : Int} {x : Int32} (w : Int32) (L' : Int32 → Array Slot) (X : Sd K T h cl sl) (cx : Cx K y bytes mx rt R) (hd : Dc bytes pc (.iinc i cst) 3 pc') (hv : Int32.ofInt cst = w) (ho : L[i]? = some (.val (.int x))) (hl : ∀ v, storeLocals L i (.int v) = some (L' v)) (k : ∀ v, v = x + w → Run K Q T (mkF K.m pc' (L' v) S)) : Run K Q T (mkF K.m pc L S) := by
  obtain ⟨locs, X0, -⟩ := X; obtain ⟨hx, -, hby, -⟩ := cx; obtain ⟨d, rfl⟩ := hd
  exact Run.st (fun t q => XT.iincV X0.here hx rfl w (hb hby d) hv ho (hl _) q) (k _ rfl)
theorem r_goto {o : Int} (X : Sd K T h cl sl) (cx : Cx K y bytes mx rt R) (hd : Db bytes pc (.goto o) o pc' pt) (k : Run K Q T (mkF K.m pt L S)) : Run K Q T (mkF K.m pc L S) := by
  obtain ⟨locs, X0, -⟩ := X; obtain ⟨hx, -, hby, -⟩ := cx; obtain ⟨d, -, ho, hp⟩ := hd
  exact Run.st (fun t q => XS.goto X0.here hx rfl (pc0 := pc) rfl (hb hby d) ho hp q) k
theorem r_icmpeq {o : Int} {a b : Int32} (X : Sd K T h cl sl) (cx : Cx K y bytes mx rt R) (hd : Db bytes pc (.if_icmp .eq o) o pc' pt) (k1 : a = b → Run K Q T (mkF K.m pt L S)) (k2 : ¬ a = b → Run K Q T (mkF K.m pc' L S)) : Run K Q T (mkF K.m pc L (.int b :: .int a :: S)) := by
  obtain ⟨locs, X0, -⟩ := X; obtain ⟨hx, -, hby, -⟩ := cx; obtain ⟨d, rfl, ho, hp⟩ := hd
  by_cases q : a = b
  · exact Run.st (fun t u => XS.icmpYes X0.here hx rfl (pc0 := pc) rfl (hb hby d) rfl (XT.ii_eq_t q) ho hp u) (k1 q)
  · exact Run.st (fun t u => XS.icmpNo X0.here hx rfl (hb hby d) rfl (XT.ii_eq_f q) u) (k2 q)
theorem r_ifeq {o : Int} {a : Int32} (X : Sd K T h cl sl) (cx : Cx K y bytes mx rt R) (hd : Db bytes pc (.ifCond .eq o) o pc' pt) (k1 : a = 0 → Run K Q T (mkF K.m pt L S)) (k2 : ¬ a = 0 → Run K Q T (mkF K.m pc' L S)) : Run K Q T (mkF K.m pc L (.int a :: S)) := by
  obtain ⟨locs, X0, -⟩ := X; obtain ⟨hx, -, hby, -⟩ := cx; obtain ⟨d, rfl, ho, hp⟩ := hd
  by_cases q : a = 0
  · exact Run.st (fun t u => XS.ifYes X0.here hx rfl (pc0 := pc) rfl (hb hby d) rfl (XT.i0_eq_t q) ho hp u) (k1 q)
  · exact Run.st (fun t u => XS.ifNo X0.here hx rfl (hb hby d) rfl (XT.i0_eq_f q) u) (k2 q)
theorem r_lcmpeq {o : Int} {a b : Int64} (X : Sd K T h cl sl) (cx : Cx K y bytes mx rt R) (hd : Db bytes pc (.ifCond .eq o) o pc' pt) (k1 : a = b → Run K Q T (mkF K.m pt L S)) (k2 : ¬ a = b → Run K Q T (mkF K.m pc' L S)) : Run K Q T (mkF K.m pc L (.int (XT.cmpL a b) :: S)) := by
  obtain ⟨locs, X0, -⟩ := X; obtain ⟨hx, -, hby, -⟩ := cx; obtain ⟨d, rfl, ho, hp⟩ := hd
  by_cases q : a = b
  · exact Run.st (fun t u => XS.ifYes X0.here hx rfl (pc0 := pc) rfl (hb hby d) rfl (XT.ll_eq_t q) ho hp u) (k1 q)
  · exact Run.st (fun t u => XS.ifNo X0.here hx rfl (hb hby d) rfl (XT.ll_eq_f q) u) (k2 q)
theorem r_icmpne {o : Int} {a b : Int32} (X : Sd K T h cl sl) (cx : Cx K y bytes mx rt R) (hd : Db bytes pc (.if_icmp .ne o) o pc' pt) (k1 : ¬ a = b → Run K Q T (mkF K.m pt L S)) (k2 : a = b → Run K Q T (mkF K.m pc' L S)) : Run K Q T (mkF K.m pc L (.int b :: .int a :: S)) := by
  obtain ⟨locs, X0, -⟩ := X; obtain ⟨hx, -, hby, -⟩ := cx; obtain ⟨d, rfl, ho, hp⟩ := hd
  by_cases q : a = b
  · exact Run.st (fun t u => XS.icmpNo X0.here hx rfl (hb hby d) rfl (XT.ii_ne_f q) u) (k2 q)
  · exact Run.st (fun t u => XS.icmpYes X0.here hx rfl (pc0 := pc) rfl (hb hby d) rfl (XT.ii_ne_t q) ho hp u) (k1 q)
theorem r_ifne {o : Int} {a : Int32} (X : Sd K T h cl sl) (cx : Cx K y bytes mx rt R) (hd : Db bytes pc (.ifCond .ne o) o pc' pt) (k1 : ¬ a = 0 → Run K Q T (mkF K.m pt L S)) (k2 : a = 0 → Run K Q T (mkF K.m pc' L S)) : Run K Q T (mkF K.m pc L (.int a :: S)) := by
  obtain ⟨locs, X0, -⟩ := X; obtain ⟨hx, -, hby, -⟩ := cx; obtain ⟨d, rfl, ho, hp⟩ := hd
  by_cases q : a = 0
  · exact Run.st (fun t u => XS.ifNo X0.here hx rfl (hb hby d) rfl (XT.i0_ne_f q) u) (k2 q)
  · exact Run.st (fun t u => XS.ifYes X0.here hx rfl (pc0 := pc) rfl (hb hby d) rfl (XT.i0_ne_t q) ho hp u) (k1 q)
theorem r_lcmpne {o : Int} {a b : Int64} (X : Sd K T h cl sl) (cx : Cx K y bytes mx rt R) (hd : Db bytes pc (.ifCond .ne o) o pc' pt) (k1 : ¬ a = b → Run K Q T (mkF K.m pt L S)) (k2 : a = b → Run K Q T (mkF K.m pc' L S)) : Run K Q T (mkF K.m pc L (.int (XT.cmpL a b) :: S)) := by
  obtain ⟨locs, X0, -⟩ := X; obtain ⟨hx, -, hby, -⟩ := cx; obtain ⟨d, rfl, ho, hp⟩ := hd
  by_cases q : a = b
  · exact Run.st (fun t u => XS.ifNo X0.here hx rfl (hb hby d) rfl (XT.ll_ne_f q) u) (k2 q)
  · exact Run.st (fun t u => XS.ifYes X0.here hx rfl (pc0 := pc) rfl (hb hby d) rfl (XT.ll_ne_t q) ho hp u) (k1 q)
theorem r_icmplt {o : Int} {a b : Int32} (X : Sd K T h cl sl) (cx : Cx K y bytes mx rt R) (hd : Db bytes pc (.if_icmp .lt o) o pc' pt) (k1 : a < b → Run K Q T (mkF K.m pt L S)) (k2 : ¬ a < b → Run K Q T (mkF K.m pc' L S)) : Run K Q T (mkF K.m pc L (.int b :: .int a :: S)) := by
  obtain ⟨locs, X0, -⟩ := X; obtain ⟨hx, -, hby, -⟩ := cx; obtain ⟨d, rfl, ho, hp⟩ := hd
  by_cases q : a < b
  · exact Run.st (fun t u => XS.icmpYes X0.here hx rfl (pc0 := pc) rfl (hb hby d) rfl (XT.ii_lt_t q) ho hp u) (k1 q)
  · exact Run.st (fun t u => XS.icmpNo X0.here hx rfl (hb hby d) rfl (XT.ii_lt_f q) u) (k2 q)
theorem r_iflt {o : Int} {a : Int32} (X : Sd K T h cl sl) (cx : Cx K y bytes mx rt R) (hd : Db bytes pc (.ifCond .lt o) o pc' pt) (k1 : a < 0 → Run K Q T (mkF K.m pt L S)) (k2 : ¬ a < 0 → Run K Q T (mkF K.m pc' L S)) : Run K Q T (mkF K.m pc L (.int a :: S)) := by
  obtain ⟨locs, X0, -⟩ := X; obtain ⟨hx, -, hby, -⟩ := cx; obtain ⟨d, rfl, ho, hp⟩ := hd
  by_cases q : a < 0
  · exact Run.st (fun t u => XS.ifYes X0.here hx rfl (pc0 := pc) rfl (hb hby d) rfl (XT.i0_lt_t q) ho hp u) (k1 q)
  · exact Run.st (fun t u => XS.ifNo X0.here hx rfl (hb hby d) rfl (XT.i0_lt_f q) u) (k2 q)
theorem r_lcmplt {o : Int} {a b : Int64} (X : Sd K T h cl sl) (cx : Cx K y bytes mx rt R) (hd : Db bytes pc (.ifCond .lt o) o pc' pt) (k1 : a < b → Run K Q T (mkF K.m pt L S)) (k2 : ¬ a < b → Run K Q T (mkF K.m pc' L S)) : Run K Q T (mkF K.m pc L (.int (XT.cmpL a b) :: S)) := by
  obtain ⟨locs, X0, -⟩ := X; obtain ⟨hx, -, hby, -⟩ := cx; obtain ⟨d, rfl, ho, hp⟩ := hd
  by_cases q : a < b
  · exact Run.st (fun t u => XS.ifYes X0.here hx rfl (pc0 := pc) rfl (hb hby d) rfl (XT.ll_lt_t q) ho hp u) (k1 q)
  · exact Run.st (fun t u => XS.ifNo X0.here hx rfl (hb hby d) rfl (XT.ll_lt_f q) u) (k2 q)
theorem r_icmpge {o : Int} {a b : Int32} (X : Sd K T h cl sl) (cx : Cx K y bytes mx rt R) (hd : Db bytes pc (.if_icmp .ge o) o pc' pt) (k1 : ¬ a < b → Run K Q T (mkF K.m pt L S)) (k2 : a < b → Run K Q T (mkF K.m pc' L S)) : Run K Q T (mkF K.m pc L (.int b :: .int a :: S)) := by
  obtain ⟨locs, X0, -⟩ := X; obtain ⟨hx, -, hby, -⟩ := cx; obtain ⟨d, rfl, ho, hp⟩ := hd
  by_cases q : a < b
  · exact Run.st (fun t u => XS.icmpNo X0.here hx rfl (hb hby d) rfl (XT.ii_ge_f q) u) (k2 q)
  · exact Run.st (fun t u => XS.icmpYes X0.here hx rfl (pc0 := pc) rfl (hb hby d) rfl (XT.ii_ge_t q) ho hp u) (k1 q)
theorem r_ifge {o : Int} {a : Int32} (X : Sd K T h cl sl) (cx : Cx K y bytes mx rt R) (hd : Db bytes pc (.ifCond .ge o) o pc' pt) (k1 : ¬ a < 0 → Run K Q T (mkF K.m pt L S)) (k2 : a < 0 → Run K Q T (mkF K.m pc' L S)) : Run K Q T (mkF K.m pc L (.int a :: S)) := by
  obtain ⟨locs, X0, -⟩ := X; obtain ⟨hx, -, hby, -⟩ := cx; obtain ⟨d, rfl, ho, hp⟩ := hd
  by_cases q : a < 0
  · exact Run.st (fun t u => XS.ifNo X0.here hx rfl (hb hby d) rfl (XT.i0_ge_f q) u) (k2 q)
  · exact Run.st (fun t u => XS.ifYes X0.here hx rfl (pc0 := pc) rfl (hb hby d) rfl (XT.i0_ge_t q) ho hp u) (k1 q)
theorem r_lcmpge {o : Int} {a b : Int64} (X : Sd K T h cl sl) (cx : Cx K y bytes mx rt R) (hd : Db bytes pc (.ifCond .ge o) o pc' pt) (k1 : ¬ a < b → Run K Q T (mkF K.m pt L S)) (k2 : a < b → Run K Q T (mkF K.m pc' L S)) : Run K Q T (mkF K.m pc L (.int (XT.cmpL a b) :: S)) := by
  obtain ⟨locs, X0, -⟩ := X; obtain ⟨hx, -, hby, -⟩ := cx; obtain ⟨d, rfl, ho, hp⟩ := hd
  by_cases q : a < b
  · exact Run.st (fun t u => XS.ifNo X0.here hx rfl (hb hby d) rfl (XT.ll_ge_f q) u) (k2 q)
  · exact Run.st (fun t u => XS.ifYes X0.here hx rfl (pc0 := pc) rfl (hb hby d) rfl (XT.ll_ge_t q) ho hp u) (k1 q)
theorem r_icmpgt {o : Int} {a b : Int32} (X : Sd K T h cl sl) (cx : Cx K y bytes mx rt R) (hd : Db bytes pc (.if_icmp .gt o) o pc' pt) (k1 : b < a → Run K Q T (mkF K.m pt L S)) (k2 : ¬ b < a → Run K Q T (mkF K.m pc' L S)) : Run K Q T (mkF K.m pc L (.int b :: .int a :: S)) := by
  obtain ⟨locs, X0, -⟩ := X; obtain ⟨hx, -, hby, -⟩ := cx; obtain ⟨d, rfl, ho, hp⟩ := hd
  by_cases q : b < a
  · exact Run.st (fun t u => XS.icmpYes X0.here hx rfl (pc0 := pc) rfl (hb hby d) rfl (XT.ii_gt_t q) ho hp u) (k1 q)
  · exact Run.st (fun t u => XS.icmpNo X0.here hx rfl (hb hby d) rfl (XT.ii_gt_f q) u) (k2 q)
theorem r_ifgt {o : Int} {a : Int32} (X : Sd K T h cl sl) (cx : Cx K y bytes mx rt R) (hd : Db bytes pc (.ifCond .gt o) o pc' pt) (k1 : 0 < a → Run K Q T (mkF K.m pt L S)) (k2 : ¬ 0 < a → Run K Q T (mkF K.m pc' L S)) : Run K Q T (mkF K.m pc L (.int a :: S)) := by
  obtain ⟨locs, X0, -⟩ := X; obtain ⟨hx, -, hby, -⟩ := cx; obtain ⟨d, rfl, ho, hp⟩ := hd
  by_cases q : 0 < a
  · exact Run.st (fun t u => XS.ifYes X0.here hx rfl (pc0 := pc) rfl (hb hby d) rfl (XT.i0_gt_t q) ho hp u) (k1 q)
  · exact Run.st (fun t u => XS.ifNo X0.here hx rfl (hb hby d) rfl (XT.i0_gt_f q) u) (k2 q)
theorem r_lcmpgt {o : Int} {a b : Int64} (X : Sd K T h cl sl) (cx : Cx K y bytes mx rt R) (hd : Db bytes pc (.ifCond .gt o) o pc' pt) (k1 : b < a → Run K Q T (mkF K.m pt L S)) (k2 : ¬ b < a → Run K Q T (mkF K.m pc' L S)) : Run K Q T (mkF K.m pc L (.int (XT.cmpL a b) :: S)) := by
  obtain ⟨locs, X0, -⟩ := X; obtain ⟨hx, -, hby, -⟩ := cx; obtain ⟨d, rfl, ho, hp⟩ := hd
  by_cases q : b < a
  · exact Run.st (fun t u => XS.ifYes X0.here hx rfl (pc0 := pc) rfl (hb hby d) rfl (XT.ll_gt_t q) ho hp u) (k1 q)
  · exact Run.st (fun t u => XS.ifNo X0.here hx rfl (hb hby d) rfl (XT.ll_gt_f q) u) (k2 q)
theorem r_icmple {o : Int} {a b : Int32} (X : Sd K T h cl sl) (cx : Cx K y bytes mx rt R) (hd : Db bytes pc (.if_icmp .le o) o pc' pt) (k1 : ¬ b < a → Run K Q T (mkF K.m pt L S)) (k2 : b < a → Run K Q T (mkF K.m pc' L S)) : Run K Q T (mkF K.m pc L (.int b :: .int a :: S)) := by
  obtain ⟨locs, X0, -⟩ := X; obtain ⟨hx, -, hby, -⟩ := cx; obtain ⟨d, rfl, ho, hp⟩ := hd
  by_cases q : b < a
  · exact Run.st (fun t u => XS.icmpNo X0.here hx rfl (hb hby d) rfl (XT.ii_le_f q) u) (k2 q)
  · exact Run.st (fun t u => XS.icmpYes X0.here hx rfl (pc0 := pc) rfl (hb hby d) rfl (XT.ii_le_t q) ho hp u) (k1 q)
theorem r_ifle {o : Int} {a : Int32} (X : Sd K T h cl sl) (cx : Cx K y bytes mx rt R) (hd : Db bytes pc (.ifCond .le o) o pc' pt) (k1 : ¬ 0 < a → Run K Q T (mkF K.m pt L S)) (k2 : 0 < a → Run K Q T (mkF K.m pc' L S)) : Run K Q T (mkF K.m pc L (.int a :: S)) := by
  obtain ⟨locs, X0, -⟩ := X; obtain ⟨hx, -, hby, -⟩ := cx; obtain ⟨d, rfl, ho, hp⟩ := hd
  by_cases q : 0 < a
  · exact Run.st (fun t u => XS.ifNo X0.here hx rfl (hb hby d) rfl (XT.i0_le_f q) u) (k2 q)
  · exact Run.st (fun t u => XS.ifYes X0.here hx rfl (pc0 := pc) rfl (hb hby d) rfl (XT.i0_le_t q) ho hp u) (k1 q)
theorem r_lcmple {o : Int} {a b : Int64} (X : Sd K T h cl sl) (cx : Cx K y bytes mx rt R) (hd : Db bytes pc (.ifCond .le o) o pc' pt) (k1 : ¬ b < a → Run K Q T (mkF K.m pt L S)) (k2 : b < a → Run K Q T (mkF K.m pc' L S)) : Run K Q T (mkF K.m pc L (.int (XT.cmpL a b) :: S)) := by
  obtain ⟨locs, X0, -⟩ := X; obtain ⟨hx, -, hby, -⟩ := cx; obtain ⟨d, rfl, ho, hp⟩ := hd
  by_cases q : b < a
  · exact Run.st (fun t u => XS.ifNo X0.here hx rfl (hb hby d) rfl (XT.ll_le_f q) u) (k2 q)
  · exact Run.st (fun t u => XS.ifYes X0.here hx rfl (pc0 := pc) rfl (hb hby d) rfl (XT.ll_le_t q) ho hp u) (k1 q)
theorem r_ldc {i : Nat} {v : Int32} {a0 : Array Value} (X : Sd K T h cl sl) (cx : Cx K y bytes mx rt R) (hd : Dc bytes pc (.ldc i) 2 pc') (w : (Cond.constant y.cls i v).before a0 K.Z = true) (k : Run K Q T (mkF K.m pc' L (.int v :: S))) : Run K Q T (mkF K.m pc L S) := by
  obtain ⟨locs, X0, -⟩ := X; obtain ⟨hx, hZ, hby, -, hown, -⟩ := cx; obtain ⟨d, rfl⟩ := hd
  exact Run.st (fun t q => Jvm.Stand.ldcI X0 hx hown (mv hZ w) rfl (hb hby d) q) k
theorem r_ldcW {i : Nat} {v : Int32} {a0 : Array Value} (X : Sd K T h cl sl) (cx : Cx K y bytes mx rt R) (hd : Dc bytes pc (.ldc_w i) 3 pc') (w : (Cond.constant y.cls i v).before a0 K.Z = true) (k : Run K Q T (mkF K.m pc' L (.int v :: S))) : Run K Q T (mkF K.m pc L S) := by
  obtain ⟨locs, X0, -⟩ := X; obtain ⟨hx, hZ, hby, -, hown, -⟩ := cx; obtain ⟨d, rfl⟩ := hd
  exact Run.st (fun t q => Jvm.Stand.ldcWI X0 hx hown (mv hZ w) rfl (hb hby d) q) k
theorem r_ldc2 {i : Nat} {v : Int64} {a0 : Array Value} (X : Sd K T h cl sl) (cx : Cx K y bytes mx rt R) (hd : Dc bytes pc (.ldc2_w i) 3 pc') (w : (Cond.constantLong y.cls i v).before a0 K.Z = true) (k : Run K Q T (mkF K.m pc' L (.long v :: S))) : Run K Q T (mkF K.m pc L S) := by
  obtain ⟨locs, X0, -⟩ := X; obtain ⟨hx, hZ, hby, -, hown, -⟩ := cx; obtain ⟨d, rfl⟩ := hd
  exact Run.st (fun t q => Jvm.Stand.ldc2J X0 hx hown (mv hZ w) rfl (hb hby d) q) k
theorem fin {v : Option Value} (X : Sd K T h cl sl) (cx : Cx K y bytes mx rt R) (hv : rt = none → v = none) (hc : cl ≤ R.cells) (hs : sl ≤ R.slots) (hq : Q v h) {g : JFrame}
    (st : ∀ fs, (∀ (f : JFrame) (acts : List Action), f.method = K.m → f.locked = none → f.entered = [] → (doReturn K.e (T.setTop f) acts v).1 = T.setFrames fs) → Steps K.p.tables K.e K.below (T.setTop g) (T.setFrames fs)) : Run K Q T g := by
  obtain ⟨locs, X0, N, hz, eT⟩ := X
  obtain ⟨hx, hZ, hby, hml, hown, hret, hlk, hR, hnm⟩ := cx
  obtain ⟨fs, hr, hrun, hended, hW, hsame⟩ := X0.leave (v := v) (fun q => hv (hret.symm.trans q)) hlk
  refine ⟨_, v, locs, st fs hr, hrun, hended, ?_, N, ⟨_, rfl⟩, hW, hsame.mono (by rw [hR]; exact hc) (by rw [hR]; exact hs)⟩
  show Q v T.heap
  rw [eT]; exact hq
theorem r_ireturn {z : Int32} (X : Sd K T h cl sl) (cx : Cx K y bytes mx (some .int) R) (hd : Dc bytes pc .ireturn 1 pc') (hc : cl ≤ R.cells) (hs : sl ≤ R.slots) (hq : Q (some (.int z)) h) : Run K Q T (mkF K.m pc L (.int z :: S)) := by
  refine fin X cx (fun q => nomatch q) hc hs hq fun fs hr => ?_
  obtain ⟨locs, X0, -⟩ := X; obtain ⟨hx, -, hby, -, -, hret, -⟩ := cx; obtain ⟨d, rfl⟩ := hd
  exact retI X0 hx hret (hb hby d) hr
theorem r_zreturn {z : Int32} (X : Sd K T h cl sl) (cx : Cx K y bytes mx (some .boolean) R) (hd : Dc bytes pc .ireturn 1 pc') (hc : cl ≤ R.cells) (hs : sl ≤ R.slots) (hq : Q (some (.int (nar .boolean z))) h) : Run K Q T (mkF K.m pc L (.int z :: S)) := by
  refine fin X cx (fun q => nomatch q) hc hs hq fun fs hr => ?_
  obtain ⟨locs, X0, -⟩ := X; obtain ⟨hx, -, hby, -, -, hret, -⟩ := cx; obtain ⟨d, rfl⟩ := hd
  exact retN X0 hx (t := .boolean) hret (by simp) (hb hby d) hr
theorem r_lreturn {z : Int64} (X : Sd K T h cl sl) (cx : Cx K y bytes mx (some .long) R) (hd : Dc bytes pc .lreturn 1 pc') (hc : cl ≤ R.cells) (hs : sl ≤ R.slots) (hq : Q (some (.long z)) h) : Run K Q T (mkF K.m pc L [.long z]) := by
  refine fin X cx (fun q => nomatch q) hc hs hq fun fs hr => ?_
  obtain ⟨locs, X0, -⟩ := X; obtain ⟨hx, -, hby, -, -, hret, -⟩ := cx; obtain ⟨d, rfl⟩ := hd
  exact X0.lreturnOut hx hret (hb hby d) hr
theorem r_areturn {z : Addr} {ty : FieldType} (X : Sd K T h cl sl) (cx : Cx K y bytes mx (some ty) R) (hty : ty.isReference = true) (hd : Dc bytes pc .areturn 1 pc') (hc : cl ≤ R.cells) (hs : sl ≤ R.slots) (hq : Q (some (.ref z)) h) : Run K Q T (mkF K.m pc L [.ref z]) := by
  refine fin X cx (fun q => nomatch q) hc hs hq fun fs hr => ?_
  obtain ⟨locs, X0, -⟩ := X; obtain ⟨hx, -, hby, -, -, hret, -⟩ := cx; obtain ⟨d, rfl⟩ := hd
  exact X0.areturnOut hx rfl hret hty (hb hby d) hr
theorem r_return (X : Sd K T h cl sl) (cx : Cx K y bytes mx none R) (hd : Dc bytes pc .return_ 1 pc') (hc : cl ≤ R.cells) (hs : sl ≤ R.slots) (hq : Q none h) : Run K Q T (mkF K.m pc L []) := by
  refine fin X cx (fun _ => rfl) hc hs hq fun fs hr => ?_
  obtain ⟨locs, X0, -⟩ := X; obtain ⟨hx, -, hby, -, -, hret, -⟩ := cx; obtain ⟨d, rfl⟩ := hd
  exact X0.returnOut hx hret (hb hby d) hr
/-! fields -/
theorem r_getfield {O n d : String} {i : Nat} {a : Addr} {v : Value} {a0 : Array Value} (X : Sd K T h cl sl) (cx : Cx K y bytes mx rt R) (hd : Dc bytes pc (.getfield i) 3 pc') (w : (Cond.fieldLink y.cls i O n d).before a0 K.Z = true) (F : Fld K.Z h a O n d v) (k : ∀ T', Sd K T' h cl sl → Run K Q T' (mkF K.m pc' L (v :: S))) : Run K Q T (mkF K.m pc L (.ref a :: S)) := by
  obtain ⟨locs, X0, N, hz, eT⟩ := X; obtain ⟨hx, hZ, hby, -, hown, -⟩ := cx; obtain ⟨dd, rfl⟩ := hd
  obtain ⟨T1, X1, e1, st1⟩ := getF X0 hx hZ hown (host := "") (Or.inl w) Via.refl eT F (g := mkF K.m pc L (.ref a :: S)) rfl rfl (hb hby dd)
  exact Run.st st1 (k T1 ⟨locs, X1, N, hz, e1⟩)
theorem r_getfieldN {O n d host : String} {i : Nat} {a : Addr} {v : Value} {a0 : Array Value} (X : Sd K T h cl sl) (cx : Cx K y bytes mx rt R) (hd : Dc bytes pc (.getfield i) 3 pc') (w : (Cond.fieldLinkNest y.cls i O n d host).before a0 K.Z = true) (F : Fld K.Z h a O n d v) (k : ∀ T', Sd K T' h cl sl → Run K Q T' (mkF K.m pc' L (v :: S))) : Run K Q T (mkF K.m pc L (.ref a :: S)) := by
  obtain ⟨locs, X0, N, hz, eT⟩ := X; obtain ⟨hx, hZ, hby, -, hown, -⟩ := cx; obtain ⟨dd, rfl⟩ := hd
  obtain ⟨T1, X1, e1, st1⟩ := getF X0 hx hZ hown (host := host) (Or.inr w) Via.refl eT F (g := mkF K.m pc L (.ref a :: S)) rfl rfl (hb hby dd)
  exact Run.st st1 (k T1 ⟨locs, X1, N, hz, e1⟩)
theorem r_putfield {O n d C : String} {i kk : Nat} {a : Addr} {v old : Value} {ty : FieldType} {a0 : Array Value} (X : Sd K T h cl sl) (cx : Cx K y bytes mx rt R) (hd : Dc bytes pc (.putfield i) 3 pc') (w : (Cond.fieldLink y.cls i O n d).before a0 K.Z = true) (F : Fld K.Z h a O n d old) (E : Exa K.Z h a C) (hL : (Cond.lays C O n d).before a0 K.Z = true ∨ ((Cond.laysFinal C O n d).before a0 K.Z = true ∧ y.cls = O ∧ y.name = "<init>")) (wi : (Cond.instantiable C kk).before a0 K.Z = true)
    (hty : parseFieldDescriptor d = some ty) (hn : narrow ty v = v) (hf : fits ty v = true) (ge : K.n0 ≤ a) (k : ∀ T' h', Sd K T' h' cl sl → Wr h h' a (Jvm.RoadKit.slotOf K.Z O n d) v → Fld K.Z h' a O n d v → Run K Q T' (mkF K.m pc' L S)) : Run K Q T (mkF K.m pc L (v :: .ref a :: S)) := by
  obtain ⟨locs, X0, N, hz, eT⟩ := X; obtain ⟨hx, hZ, hby, -, hown, -, -, -, hnm⟩ := cx; obtain ⟨dd, rfl⟩ := hd
  obtain ⟨T1, h1, X1, e1, W1, st1⟩ := putF X0 hx hZ hown (host := "") (Or.inl w) Via.refl eT F E (hL.imp id fun q => ⟨q.1, q.2.1, hnm.trans q.2.2⟩) wi hty hn hf (g := mkF K.m pc L (v :: .ref a :: S)) rfl rfl (hb hby dd)
  exact Run.st st1 (k T1 h1 ⟨_, X1, Fr.snoc X1 N ge, by rw [W1.size]; exact hz, e1⟩ W1 (F.same W1))
theorem r_new {C : String} {i n : Nat} {a0 : Array Value} (X : Sd K T h cl sl) (cx : Cx K y bytes mx rt R) (hd : Dc bytes pc (.new i) 3 pc') (w : (Cond.classLink y.cls i C).before a0 K.Z = true) (wi : (Cond.instantiable C n).before a0 K.Z = true) (wz : (Cond.initialized C).before a0 K.Z = true) (hc : cl + 1 ≤ R.cells) (hs : sl + n ≤ R.slots)
    (k : ∀ T' h' a, a = h.size → K.n0 ≤ a → Sd K T' h' (cl + 1) (sl + n) → Ext h h' → Exa K.Z h' a C → (∀ {O nm d : String} {ty : FieldType}, Laid K.Z a0 C O nm d → parseFieldDescriptor d = some ty → Fld K.Z h' a O nm d (defaultValue ty)) → Run K Q T' (mkF K.m pc' L (.ref a :: S))) : Run K Q T (mkF K.m pc L S) := by
  obtain ⟨locs, X0, N, hz, eT⟩ := X; obtain ⟨hx, hZ, hby, -, hown, -, -, hR, -⟩ := cx; obtain ⟨dd, rfl⟩ := hd
  obtain ⟨T1, h1, X1, e1, E1, A1, D1, -, st1⟩ := newO X0 hx hZ hown w wi wz eT (g := mkF K.m pc L S) rfl (hb hby dd) (by rw [hR]; exact hc) (by rw [hR]; exact hs)
  exact Run.st st1 (k T1 h1 h.size rfl hz ⟨locs, X1, N, Nat.le_trans hz E1.1, e1⟩ E1 A1 D1)
theorem r_initO {i : Nat} {a : Addr} {a0 : Array Value} (X : Sd K T h cl sl) (cx : Cx K y bytes mx rt R) (hd : Dc bytes pc (.invokespecial i) 3 pc') (w1 : (Cond.methodLink y.cls i Lib.objectInit).before a0 K.Z = true) (w2 : (Cond.instanceMethod Lib.objectInit).before a0 K.Z = true) (w3 : (Cond.code Lib.objectInit ⟨#[0xb1]⟩ 1 none).before a0 K.Z = true) (hsz : L.size = mx) (hf : 1 ≤ R.frames) (hl : (S.map fun v => v.category).sum + 12 ≤ R.locals) (k : ∀ T', Sd K T' h cl sl → Run K Q T' (mkF K.m pc' L S)) : Run K Q T (mkF K.m pc L (.ref a :: S)) := by
  obtain ⟨locs, X0, N, hz, eT⟩ := X; obtain ⟨hx, hZ, hby, hml, hown, -, -, hR, -⟩ := cx; obtain ⟨dd, rfl⟩ := hd
  obtain ⟨T1, X1, e1, st1⟩ := initO X0 hx hZ hown w1 w2 w3 eT (g := mkF K.m pc L (.ref a :: S)) rfl (by rw [hml]; exact hsz) rfl (hb hby dd) (by rw [hR]; exact hf) (W := (S.map fun v => v.category).sum) (by show 2 * 0 + _ ≤ _; omega) (by rw [hR]; exact hl)
  exact Run.st st1 (k T1 ⟨locs, X1, N, hz, e1⟩)
end Rules
/-! arrays: their whole list of values -/
def AV (Z : State) (h : Heap) (a : Addr) (ty : FieldType) (vs : List Value) : Prop := ∃ c : Cell, Arr Z h a c ty ∧ c.slots.toList = vs ∧ vs.length < 2 ^ 31
def AI (ty : FieldType) (Z : State) (h : Heap) (a : Addr) (xs : List Int32) : Prop := AV Z h a ty (xs.map Value.int)
def AJ (Z : State) (h : Heap) (a : Addr) (xs : List Int64) : Prop := AV Z h a .long (xs.map Value.long)
theorem AV.ext {Z : State} {h h' : Heap} {a : Addr} {ty : FieldType} {vs : List Value} (A : AV Z h a ty vs) (E : Ext h h') : AV Z h' a ty vs := by obtain ⟨c, q, r⟩ := A; exact ⟨c, q.ext E, r⟩
theorem AV.other {Z : State} {h h' : Heap} {a b : Addr} {ty : FieldType} {vs : List Value} {sl : Nat} {v : Value} (A : AV Z h a ty vs) (W : Wr h h' b sl v) (q : a ≠ b) : AV Z h' a ty vs := by obtain ⟨c, u, r⟩ := A; exact ⟨c, u.other W q, r⟩
theorem AV.keep {Z : State} {h h' : Heap} {a : Addr} {ty : FieldType} {vs : List Value} {ws : List Addr} (A : AV Z h a ty vs) (k : Keep h h' ws) (q : a ∉ ws) : AV Z h' a ty vs := by obtain ⟨c, u, r⟩ := A; exact ⟨c, ⟨k.2.1 a c u.1 q, u.2⟩, r⟩
theorem AV.lt {Z : State} {h : Heap} {a : Addr} {ty : FieldType} {vs : List Value} (A : AV Z h a ty vs) : a < h.size := by obtain ⟨c, u, r⟩ := A; exact u.lt
theorem AV.len {Z : State} {h : Heap} {a : Addr} {ty : FieldType} {vs : List Value} (A : AV Z h a ty vs) : vs.length < 2 ^ 31 := by obtain ⟨c, u, r, q⟩ := A; exact q
theorem AV.set {Z : State} {h h' : Heap} {a : Addr} {ty : FieldType} {vs : List Value} {n : Nat} {v : Value} (A : AV Z h a ty vs) (W : Wr h h' a n v) : AV Z h' a ty (vs.set n v) := by
  obtain ⟨c, u, r, q⟩ := A
  refine ⟨_, u.same W, ?_, by simpa using q⟩
  subst r
  simp [Cell.setSlot]
section
variable {ty : FieldType} {Z : State} {h h' : Heap} {a b : Addr} {xs : List Int32} {zs : List Int64} {sl : Nat} {v : Value} {ws : List Addr}
theorem AI.ext (A : AI ty Z h a xs) (E : Ext h h') : AI ty Z h' a xs := AV.ext A E
theorem AI.other (A : AI ty Z h a xs) (W : Wr h h' b sl v) (q : a ≠ b) : AI ty Z h' a xs := AV.other A W q
theorem AI.keep (A : AI ty Z h a xs) (k : Keep h h' ws) (q : a ∉ ws) : AI ty Z h' a xs := AV.keep A k q
theorem AI.lt (A : AI ty Z h a xs) : a < h.size := AV.lt A
theorem AI.len (A : AI ty Z h a xs) : xs.length < 2 ^ 31 := by simpa using AV.len A
theorem AI.set {n : Nat} {x : Int32} (A : AI ty Z h a xs) (W : Wr h h' a n (.int x)) : AI ty Z h' a (xs.set n x) := by
  have q := AV.set A W
  show AV Z h' a ty ((xs.set n x).map Value.int)
  rw [List.map_set]; exact q
theorem AJ.ext (A : AJ Z h a zs) (E : Ext h h') : AJ Z h' a zs := AV.ext A E
theorem AJ.other (A : AJ Z h a zs) (W : Wr h h' b sl v) (q : a ≠ b) : AJ Z h' a zs := AV.other A W q
theorem AJ.keep (A : AJ Z h a zs) (k : Keep h h' ws) (q : a ∉ ws) : AJ Z h' a zs := AV.keep A k q
theorem AJ.lt (A : AJ Z h a zs) : a < h.size := AV.lt A
theorem AJ.len (A : AJ Z h a zs) : zs.length < 2 ^ 31 := by simpa using AV.len A
theorem AJ.set {n : Nat} {x : Int64} (A : AJ Z h a zs) (W : Wr h h' a n (.long x)) : AJ Z h' a (zs.set n x) := by
  have q := AV.set A W
  show AV Z h' a .long ((zs.set n x).map Value.long)
  rw [List.map_set]; exact q
end
theorem ofNat_neg {n : Nat} (hn : n < 2 ^ 31) : ¬ Int32.ofNat n < 0 := by
  rw [Int32.lt_iff_toInt_lt, Int32.toInt_ofNat_of_lt hn]
  show ¬ (n : Int) < 0
  omega
theorem ofNat_clamp {n : Nat} (hn : n < 2 ^ 31) : (Int32.ofNat n).toNatClampNeg = n := by
  show (Int32.ofNat n).toInt.toNat = n
  rw [Int32.toInt_ofNat_of_lt hn]; rfl
section Rules
variable {K : KT} {Q : Option Value → Heap → Prop} {T : State} {h : Heap} {cl sl : Nat} {y : MethodName} {bytes : ByteArray} {mx : Nat} {rt : Option FieldType} {R : Room} {pc pc' pt : Nat} {L : Array Slot} {S : List Value}
theorem r_arraylength {ty : FieldType} {vs : List Value} {a : Addr} (X : Sd K T h cl sl) (cx : Cx K y bytes mx rt R) (hd : Dc bytes pc .arraylength 1 pc') (A : AV K.Z h a ty vs) (k : Run K Q T (mkF K.m pc' L (.int (Int32.ofNat vs.length) :: S))) : Run K Q T (mkF K.m pc L (.ref a :: S)) := by
  obtain ⟨locs, X0, N, hz, eT⟩ := X; obtain ⟨hx, hZ, hby, -, hown, -⟩ := cx; obtain ⟨dd, rfl⟩ := hd
  obtain ⟨c, Ar, hc, hlen⟩ := A
  have hs : c.slots.size = vs.length := by rw [← hc]; simp
  refine Run.st (X0.arraylength hx (cell := c) (by rw [eT]; exact Ar.1) (State.isArrayOf_alike hZ.alike Ar.2.1) (g := mkF K.m pc L (.ref a :: S)) rfl (rest := S) rfl (hb hby dd)) ?_
  rw [hs]; exact k
theorem r_alen {ty : FieldType} {xs : List Int32} {a : Addr} (X : Sd K T h cl sl) (cx : Cx K y bytes mx rt R) (hd : Dc bytes pc .arraylength 1 pc') (A : AI ty K.Z h a xs) (n : Nat) (hn : xs.length = n) (k : Run K Q T (mkF K.m pc' L (.int (Int32.ofNat n) :: S))) : Run K Q T (mkF K.m pc L (.ref a :: S)) :=
  r_arraylength X cx hd A (by rw [List.length_map, hn]; exact k)
theorem r_alenJ {xs : List Int64} {a : Addr} (X : Sd K T h cl sl) (cx : Cx K y bytes mx rt R) (hd : Dc bytes pc .arraylength 1 pc') (A : AJ K.Z h a xs) (n : Nat) (hn : xs.length = n) (k : Run K Q T (mkF K.m pc' L (.int (Int32.ofNat n) :: S))) : Run K Q T (mkF K.m pc L (.ref a :: S)) :=
  r_arraylength X cx hd A (by rw [List.length_map, hn]; exact k)
theorem r_iaload {xs : List Int32} {a : Addr} {j : Int32} {v : Int32} (X : Sd K T h cl sl) (cx : Cx K y bytes mx rt R) (hd : Dc bytes pc .iaload 1 pc') (A : AI .int K.Z h a xs) (n : Nat) (hj : j = Int32.ofNat n) (hv : xs[n]? = some v) (k : Run K Q T (mkF K.m pc' L (.int v :: S))) : Run K Q T (mkF K.m pc L (.int j :: .ref a :: S)) := by
  obtain ⟨locs, X0, N, hz, eT⟩ := X; obtain ⟨hx, hZ, hby, -, hown, -⟩ := cx; obtain ⟨dd, rfl⟩ := hd
  obtain ⟨c, Ar, hc, hlen⟩ := A
  have hs : c.slots.size = xs.length := by have := congrArg List.length hc; simpa using this
  have hl : n < xs.length := (List.getElem?_eq_some_iff.mp hv).1
  have hn : n < 2 ^ 31 := by simp at hlen; omega
  subst hj
  have e1 := ofNat_clamp hn
  have hat : c.slots[(Int32.ofNat n).toNatClampNeg]? = some (.int v) := by
    rw [e1, ← Array.getElem?_toList, hc, List.getElem?_map, hv]; rfl
  exact Run.st (X0.iaload hx (cell := c) (by rw [eT]; exact Ar.1) (State.isArrayOf_alike hZ.alike Ar.2.1) Ar.2.2 (by rw [e1, hs]; intro q; rcases q with q | q; exact ofNat_neg hn q; omega) hat (g := mkF K.m pc L (.int (Int32.ofNat n) :: .ref a :: S)) rfl rfl (hb hby dd)) k
theorem r_saload {xs : List Int32} {a : Addr} {j : Int32} {v : Int32} (X : Sd K T h cl sl) (cx : Cx K y bytes mx rt R) (hd : Dc bytes pc .saload 1 pc') (A : AI .short K.Z h a xs) (n : Nat) (hj : j = Int32.ofNat n) (hv : xs[n]? = some v) (k : Run K Q T (mkF K.m pc' L (.int v :: S))) : Run K Q T (mkF K.m pc L (.int j :: .ref a :: S)) := by
  obtain ⟨locs, X0, N, hz, eT⟩ := X; obtain ⟨hx, hZ, hby, -, hown, -⟩ := cx; obtain ⟨dd, rfl⟩ := hd
  obtain ⟨c, Ar, hc, hlen⟩ := A
  have hs : c.slots.size = xs.length := by have := congrArg List.length hc; simpa using this
  have hl : n < xs.length := (List.getElem?_eq_some_iff.mp hv).1
  have hn : n < 2 ^ 31 := by simp at hlen; omega
  subst hj
  have e1 := ofNat_clamp hn
  have hat : c.slots[(Int32.ofNat n).toNatClampNeg]? = some (.int v) := by
    rw [e1, ← Array.getElem?_toList, hc, List.getElem?_map, hv]; rfl
  exact Run.st (X0.saload hx (cell := c) (by rw [eT]; exact Ar.1) (State.isArrayOf_alike hZ.alike Ar.2.1) Ar.2.2 (by rw [e1, hs]; intro q; rcases q with q | q; exact ofNat_neg hn q; omega) hat (g := mkF K.m pc L (.int (Int32.ofNat n) :: .ref a :: S)) rfl rfl (hb hby dd)) k
theorem r_baload {xs : List Int32} {a : Addr} {j : Int32} {v : Int32} (X : Sd K T h cl sl) (cx : Cx K y bytes mx rt R) (hd : Dc bytes pc .baload 1 pc') (A : AI .byte K.Z h a xs) (n : Nat) (hj : j = Int32.ofNat n) (hv : xs[n]? = some v) (k : Run K Q T (mkF K.m pc' L (.int v :: S))) : Run K Q T (mkF K.m pc L (.int j :: .ref a :: S)) := by
  obtain ⟨locs, X0, N, hz, eT⟩ := X; obtain ⟨hx, hZ, hby, -, hown, -⟩ := cx; obtain ⟨dd, rfl⟩ := hd
  obtain ⟨c, Ar, hc, hlen⟩ := A
  have hs : c.slots.size = xs.length := by have := congrArg List.length hc; simpa using this
  have hl : n < xs.length := (List.getElem?_eq_some_iff.mp hv).1
  have hn : n < 2 ^ 31 := by simp at hlen; omega
  subst hj
  have e1 := ofNat_clamp hn
  have hat : c.slots[(Int32.ofNat n).toNatClampNeg]? = some (.int v) := by
    rw [e1, ← Array.getElem?_toList, hc, List.getElem?_map, hv]; rfl
  exact Run.st (X0.baloadBytes hx (cell := c) (by rw [eT]; exact Ar.1) (State.isArrayOf_alike hZ.alike Ar.2.1) Ar.2.2 (by rw [e1, hs]; intro q; rcases q with q | q; exact ofNat_neg hn q; omega) hat (g := mkF K.m pc L (.int (Int32.ofNat n) :: .ref a :: S)) rfl rfl (hb hby dd)) k
theorem r_laload {xs : List Int64} {a : Addr} {j : Int32} {v : Int64} (X : Sd K T h cl sl) (cx : Cx K y bytes mx rt R) (hd : Dc bytes pc .laload 1 pc') (A : AJ K.Z h a xs) (n : Nat) (hj : j = Int32.ofNat n) (hv : xs[n]? = some v) (k : Run K Q T (mkF K.m pc' L (.long v :: S))) : Run K Q T (mkF K.m pc L (.int j :: .ref a :: S)) := by
  obtain ⟨locs, X0, N, hz, eT⟩ := X; obtain ⟨hx, hZ, hby, -, hown, -⟩ := cx; obtain ⟨dd, rfl⟩ := hd
  obtain ⟨c, Ar, hc, hlen⟩ := A
  have hs : c.slots.size = xs.length := by have := congrArg List.length hc; simpa using this
  have hl : n < xs.length := (List.getElem?_eq_some_iff.mp hv).1
  have hn : n < 2 ^ 31 := by simp at hlen; omega
  subst hj
  have e1 := ofNat_clamp hn
  have hat : c.slots[(Int32.ofNat n).toNatClampNeg]? = some (.long v) := by
    rw [e1, ← Array.getElem?_toList, hc, List.getElem?_map, hv]; rfl
  exact Run.st (X0.laload hx (cell := c) (by rw [eT]; exact Ar.1) (State.isArrayOf_alike hZ.alike Ar.2.1) Ar.2.2 (by rw [e1, hs]; intro q; rcases q with q | q; exact ofNat_neg hn q; omega) hat (g := mkF K.m pc L (.int (Int32.ofNat n) :: .ref a :: S)) rfl rfl (hb hby dd)) k
theorem r_iastore {xs : List Int32} {a : Addr} {j : Int32} {x : Int32} (X : Sd K T h cl sl) (cx : Cx K y bytes mx rt R) (hd : Dc bytes pc .iastore 1 pc') (A : AI .int K.Z h a xs) (n : Nat) (hj : j = Int32.ofNat n) (hl : n < xs.length) (ge : K.n0 ≤ a) (k : ∀ T' h', Sd K T' h' cl sl → Wr h h' a n (.int x) → AI .int K.Z h' a (xs.set n x) → Run K Q T' (mkF K.m pc' L S)) : Run K Q T (mkF K.m pc L (.int x :: .int j :: .ref a :: S)) := by
  obtain ⟨locs, X0, N, hz, eT⟩ := X; obtain ⟨hx, hZ, hby, -, hown, -⟩ := cx; obtain ⟨dd, rfl⟩ := hd
  have A0 := A
  obtain ⟨c, Ar, hc, hlen⟩ := A
  have hs : c.slots.size = xs.length := by have := congrArg List.length hc; simpa using this
  have hn : n < 2 ^ 31 := by simp at hlen; omega
  subst hj
  have e1 := ofNat_clamp hn
  obtain ⟨T1, h1, X1, eh1, W1, st1⟩ := stI X0 hx hZ eT Ar (j := Int32.ofNat n) (x := x) (by rw [e1, hs]; intro q; rcases q with q | q; exact ofNat_neg hn q; omega) (g := mkF K.m pc L (.int x :: .int (Int32.ofNat n) :: .ref a :: S)) rfl rfl (hb hby dd)
  have hz1 : K.n0 ≤ h1.size := by rw [W1.size]; exact hz
  have N1 := Fr.snoc X1 N ge
  rw [e1] at W1
  exact Run.st st1 (k T1 h1 ⟨_, X1, N1, hz1, eh1⟩ W1 (AI.set A0 W1))
theorem r_sastore {xs : List Int32} {a : Addr} {j : Int32} {x : Int32} (X : Sd K T h cl sl) (cx : Cx K y bytes mx rt R) (hd : Dc bytes pc .sastore 1 pc') (A : AI .short K.Z h a xs) (n : Nat) (hj : j = Int32.ofNat n) (hl : n < xs.length) (ge : K.n0 ≤ a) (k : ∀ T' h', Sd K T' h' cl sl → Wr h h' a n (.int (nar .short x)) → AI .short K.Z h' a (xs.set n (nar .short x)) → Run K Q T' (mkF K.m pc' L S)) : Run K Q T (mkF K.m pc L (.int x :: .int j :: .ref a :: S)) := by
  obtain ⟨locs, X0, N, hz, eT⟩ := X; obtain ⟨hx, hZ, hby, -, hown, -⟩ := cx; obtain ⟨dd, rfl⟩ := hd
  have A0 := A
  obtain ⟨c, Ar, hc, hlen⟩ := A
  have hs : c.slots.size = xs.length := by have := congrArg List.length hc; simpa using this
  have hn : n < 2 ^ 31 := by simp at hlen; omega
  subst hj
  have e1 := ofNat_clamp hn
  obtain ⟨T1, h1, X1, eh1, W1, st1⟩ := stS X0 hx hZ eT Ar (j := Int32.ofNat n) (x := x) (by rw [e1, hs]; intro q; rcases q with q | q; exact ofNat_neg hn q; omega) (g := mkF K.m pc L (.int x :: .int (Int32.ofNat n) :: .ref a :: S)) rfl rfl (hb hby dd)
  have hz1 : K.n0 ≤ h1.size := by rw [W1.size]; exact hz
  have N1 := Fr.snoc X1 N ge
  rw [e1] at W1
  exact Run.st st1 (k T1 h1 ⟨_, X1, N1, hz1, eh1⟩ W1 (AI.set A0 W1))
theorem r_bastore {xs : List Int32} {a : Addr} {j : Int32} {x : Int32} (X : Sd K T h cl sl) (cx : Cx K y bytes mx rt R) (hd : Dc bytes pc .bastore 1 pc') (A : AI .byte K.Z h a xs) (n : Nat) (hj : j = Int32.ofNat n) (hl : n < xs.length) (ge : K.n0 ≤ a) (k : ∀ T' h', Sd K T' h' cl sl → Wr h h' a n (.int (nar .byte x)) → AI .byte K.Z h' a (xs.set n (nar .byte x)) → Run K Q T' (mkF K.m pc' L S)) : Run K Q T (mkF K.m pc L (.int x :: .int j :: .ref a :: S)) := by
  obtain ⟨locs, X0, N, hz, eT⟩ := X; obtain ⟨hx, hZ, hby, -, hown, -⟩ := cx; obtain ⟨dd, rfl⟩ := hd
  have A0 := A
  obtain ⟨c, Ar, hc, hlen⟩ := A
  have hs : c.slots.size = xs.length := by have := congrArg List.length hc; simpa using this
  have hn : n < 2 ^ 31 := by simp at hlen; omega
  subst hj
  have e1 := ofNat_clamp hn
  obtain ⟨T1, h1, X1, eh1, W1, st1⟩ := stB X0 hx hZ eT Ar (j := Int32.ofNat n) (x := x) (by rw [e1, hs]; intro q; rcases q with q | q; exact ofNat_neg hn q; omega) (g := mkF K.m pc L (.int x :: .int (Int32.ofNat n) :: .ref a :: S)) rfl rfl (hb hby dd)
  have hz1 : K.n0 ≤ h1.size := by rw [W1.size]; exact hz
  have N1 := Fr.snoc X1 N ge
  rw [e1] at W1
  exact Run.st st1 (k T1 h1 ⟨_, X1, N1, hz1, eh1⟩ W1 (AI.set A0 W1))
theorem r_lastore {xs : List Int64} {a : Addr} {j : Int32} {x : Int64} (X : Sd K T h cl sl) (cx : Cx K y bytes mx rt R) (hd : Dc bytes pc .lastore 1 pc') (A : AJ K.Z h a xs) (n : Nat) (hj : j = Int32.ofNat n) (hl : n < xs.length) (ge : K.n0 ≤ a) (k : ∀ T' h', Sd K T' h' cl sl → Wr h h' a n (.long x) → AJ K.Z h' a (xs.set n x) → Run K Q T' (mkF K.m pc' L S)) : Run K Q T (mkF K.m pc L (.long x :: .int j :: .ref a :: S)) := by
  obtain ⟨locs, X0, N, hz, eT⟩ := X; obtain ⟨hx, hZ, hby, -, hown, -⟩ := cx; obtain ⟨dd, rfl⟩ := hd
  have A0 := A
  obtain ⟨c, Ar, hc, hlen⟩ := A
  have hs : c.slots.size = xs.length := by have := congrArg List.length hc; simpa using this
  have hn : n < 2 ^ 31 := by simp at hlen; omega
  subst hj
  have e1 := ofNat_clamp hn
  obtain ⟨T1, h1, X1, eh1, W1, st1⟩ := stJ X0 hx hZ eT Ar (j := Int32.ofNat n) (x := x) (by rw [e1, hs]; intro q; rcases q with q | q; exact ofNat_neg hn q; omega) (g := mkF K.m pc L (.long x :: .int (Int32.ofNat n) :: .ref a :: S)) rfl rfl (hb hby dd)
  have hz1 : K.n0 ≤ h1.size := by rw [W1.size]; exact hz
  have N1 := Fr.snoc X1 N ge
  rw [e1] at W1
  exact Run.st st1 (k T1 h1 ⟨_, X1, N1, hz1, eh1⟩ W1 (AJ.set A0 W1))
theorem r_newarray {aty : ArrayType} {a0 : Array Value} {z : Int32} (X : Sd K T h cl sl) (cx : Cx K y bytes mx rt R) (hd : Dc bytes pc (.newarray aty) 2 pc') (w : (Cond.arrayClass (newarray.typeOf aty)).before a0 K.Z = true) (n cap : Nat) (hj : z = Int32.ofNat n) (hcap : n ≤ cap) (hb8 : cap * 8 ≤ 536870912) (hc : cl + 1 ≤ R.cells) (hs : sl + cap ≤ R.slots)
    (k : ∀ T' h' a, a = h.size → K.n0 ≤ a → Sd K T' h' (cl + 1) (sl + cap) → Ext h h' → AV K.Z h' a (newarray.typeOf aty) (List.replicate n (defaultValue (newarray.typeOf aty))) → Run K Q T' (mkF K.m pc' L (.ref a :: S))) : Run K Q T (mkF K.m pc L (.int z :: S)) := by
  obtain ⟨locs, X0, N, hz, eT⟩ := X; obtain ⟨hx, hZ, hby, -, hown, -, -, hR, -⟩ := cx; obtain ⟨dd, rfl⟩ := hd
  have hn : n < 2 ^ 31 := by omega
  subst hj
  have e1 := ofNat_clamp hn
  obtain ⟨T1, h1, cA, X1, eh1, E1, A1, st1⟩ := newP X0 hx hZ w eT (g := mkF K.m pc L (.int (Int32.ofNat n) :: S)) rfl (hb hby dd) (n := Int32.ofNat n) rfl (ofNat_neg hn) (cap := cap) (by rw [e1]; exact hcap) hb8 (by rw [hR]; exact hc) (by rw [hR]; exact hs)
  refine Run.st st1 (k T1 h1 h.size rfl hz ⟨locs, X1, N, Nat.le_trans hz E1.1, eh1⟩ E1 ⟨_, A1, ?_, by simpa using hn⟩)
  simp [newA, e1]
theorem AI.new {ty : FieldType} {Z : State} {h : Heap} {a : Addr} {n : Nat} (A : AV Z h a ty (List.replicate n (.int 0))) : AI ty Z h a (List.replicate n 0) := by
  show AV Z h a ty _
  rw [List.map_replicate]; exact A
theorem AJ.new {Z : State} {h : Heap} {a : Addr} {n : Nat} (A : AV Z h a .long (List.replicate n (.long 0))) : AJ Z h a (List.replicate n 0) := by
  show AV Z h a .long _
  rw [List.map_replicate]; exact A
end Rules
/-! contracts and calls -/
def Con (l : Launch) (Z : State) (y : MethodName) (bytes : ByteArray) (mx : Nat) (rt : Option FieldType) (rm : Room) (as : Array Value) (h0 : Heap) (n0 : Nat) (Q : Option Value → Heap → Prop) : Prop :=
  ∀ ws, MetFree l y (head1 (Jvm.Cond.code y bytes mx rt :: ws) rm) (fun a U => a = as ∧ Z.Warmed39 U.vm ∧ U.heap = h0) (fun _ _ _ _ _ => True) (fun _ U o U' => ∃ v L, o = .returned v ∧ (Q v U'.heap ∧ Fr n0 L) ∧ FrameEnd U o U' L rm.cells rm.slots)
theorem Con.of {l : Launch} {Z : State} {y : MethodName} {bytes : ByteArray} {mx : Nat} {rt : Option FieldType} {rm : Room} {as : Array Value} {h0 : Heap} {n0 : Nat} {Q : Option Value → Heap → Prop} (hy : plainFor y = true) (Z0 : n0 ≤ h0.size)
    (body : ∀ K : KT, K.l = l → K.Z = Z → K.n0 = n0 → Cx K y bytes mx rt rm → ∀ T, Sd K T h0 0 0 → Run K Q T (entryFrame K.m as mx)) : Con l Z y bytes mx rt rm as h0 n0 Q := by
  intro ws
  refine MetFree.of_bodySF hy hisR ?_
  intro p e s m args below meth c s₁ Bd hml0 hP hK
  obtain ⟨rfl, hZ, hh⟩ := hP
  have hown : s.vm.findClass y.cls = some m.cls := findClass_of_methodNamed Bd.named
  have hnm := (name_of_methodNamed Bd.named Bd.method).1
  have X0 : Stand p l e rm s m args below meth c s₁ [] 0 0 := Stand.of_body Bd
  have e0 : s₁.heap = h0 := by rw [← hh, Bd.state]; rfl
  obtain ⟨s₂, v, L, h1, h2, h3, h4, h5, h6⟩ := body (p, l, e, rm, s, m, args, below, meth, c, Z, n0) rfl rfl rfl ⟨Bd.exec, hZ, Bd.bytes, hml0, hown, Bd.returns, Bd.notSynchronized, rfl, hnm⟩ s₁ ⟨[], X0, Fr.nil n0, Z0, e0⟩
  exact ⟨s₂, _, h1, h2, h3, v, L, rfl, ⟨h4, h5⟩, h6⟩
section Calls
variable {K : KT} {Q : Option Value → Heap → Prop} {T : State} {h : Heap} {cl sl : Nat} {y : MethodName} {bytes : ByteArray} {mx : Nat} {rt : Option FieldType} {R : Room} {pc pc' pt : Nat} {L : Array Slot}
theorem r_static {z : MethodName} {zb : ByteArray} {zm : Nat} {zr : Option FieldType} {rm : Room} {i : Nat} {a0 : Array Value} {Qz : Option Value → Heap → Prop} {St : List Value} (argsL rest : List Value) (X : Sd K T h cl sl) (cx : Cx K y bytes mx rt R) (hd : Dc bytes pc (.invokestatic i) 3 pc')
    (w1 : (Cond.methodLink y.cls i z).before a0 K.Z = true) (w2 : (Cond.static z).before a0 K.Z = true) (w3 : (Cond.initialized z.cls).before a0 K.Z = true) (w4 : (Cond.code z zb zm zr).before a0 K.Z = true) (hm : z.cls ≠ "java/lang/invoke/MethodHandle" ∧ z.cls ≠ "java/lang/invoke/VarHandle")
    (con : Con K.l K.Z z zb zm zr rm argsL.toArray h K.n0 Qz) (hpd : ∀ sig, parseMethodDescriptor z.desc = some sig → argsL.length = sig.parameters.length) (hSt : St = argsL.reverse ++ rest) (hsz : L.size = mx) (hf : rm.frames + 1 ≤ R.frames) (hl : (rest.map fun v => v.category).sum + (zm + 11) + rm.locals ≤ R.locals) (hc : cl + rm.cells ≤ R.cells) (hs : sl + rm.slots ≤ R.slots)
    (k : ∀ T' h' v, Sd K T' h' (cl + rm.cells) (sl + rm.slots) → Qz v h' → Run K Q T' (mkF K.m pc' L (v.toList ++ rest))) (hmono : ∀ v h', Qz v h' → h.size ≤ h'.size) : Run K Q T (mkF K.m pc L St) := by
  obtain ⟨locs, X0, N, hz, eT⟩ := X; obtain ⟨hx, hZ, hby, hml, hown, -, -, hR, -⟩ := cx; obtain ⟨dd, rfl⟩ := hd
  obtain ⟨v, _, ⟨T1, L1, k1, n1⟩, -, X1, ⟨Lc, ⟨hQ, hF⟩, l1, y1, z1⟩, st1⟩ := Jvm.LawKit.callS X0 hx (y := z) hown (mvT hZ w1) (mvT hZ w2) (mvT hZ w3) (mvT hZ w4) hm (backOf (W := (rest.map fun v => v.category).sum) (Q := fun v h L => Qz v h ∧ Fr K.n0 L) (con []) hZ w4 w3 (by rw [hR]; exact hf) (by rw [hR]; exact hl)) (g := mkF K.m pc L St) rfl (by rw [hml]; exact hsz) (argsL := argsL) (rest := rest) hpd hSt (by show 2 * 0 + _ ≤ _; omega) (hb hby dd) (fun _ _ => ⟨rfl, eT, by rw [hR]; exact hc, by rw [hR]; exact hs⟩)
  dsimp only [Pt.U, Pt.locs, Pt.cells, Pt.slots] at X1 l1 y1 z1 st1 hQ
  subst l1 y1 z1
  exact Run.st st1 (k T1 _ v ⟨_, X1, Fr.app N hF, Nat.le_trans hz (hmono _ _ hQ), rfl⟩ hQ)
theorem r_virtual {z : MethodName} {C : String} {zb : ByteArray} {zm : Nat} {zr : Option FieldType} {rm : Room} {i : Nat} {a : Addr} {a0 : Array Value} {Qz : Option Value → Heap → Prop} {St : List Value} (argsL rest : List Value) (X : Sd K T h cl sl) (cx : Cx K y bytes mx rt R) (hd : Dc bytes pc (.invokevirtual i) 3 pc') (E : Exa K.Z h a C)
    (w1 : (Cond.methodLink y.cls i z).before a0 K.Z = true) (w2 : (Cond.declares z).before a0 K.Z = true) (w3 : (Cond.selects C z z).before a0 K.Z = true) (w4 : (Cond.instanceMethod z).before a0 K.Z = true) (w5 : (Cond.initialized z.cls).before a0 K.Z = true) (w6 : (Cond.code z zb zm zr).before a0 K.Z = true) (hm : z.cls ≠ "java/lang/invoke/MethodHandle" ∧ z.cls ≠ "java/lang/invoke/VarHandle")
    (con : Con K.l K.Z z zb zm zr rm (.ref a :: argsL).toArray h K.n0 Qz) (hpd : ∀ sig, parseMethodDescriptor z.desc = some sig → argsL.length = sig.parameters.length) (hSt : St = argsL.reverse ++ .ref a :: rest) (hsz : L.size = mx) (hf : rm.frames + 1 ≤ R.frames) (hl : (rest.map fun v => v.category).sum + (zm + 11) + rm.locals ≤ R.locals) (hc : cl + rm.cells ≤ R.cells) (hs : sl + rm.slots ≤ R.slots)
    (k : ∀ T' h' v, Sd K T' h' (cl + rm.cells) (sl + rm.slots) → Qz v h' → Run K Q T' (mkF K.m pc' L (v.toList ++ rest))) (hmono : ∀ v h', Qz v h' → h.size ≤ h'.size) : Run K Q T (mkF K.m pc L St) := by
  obtain ⟨locs, X0, N, hz, eT⟩ := X; obtain ⟨hx, hZ, hby, hml, hown, -, -, hR, -⟩ := cx; obtain ⟨dd, rfl⟩ := hd
  obtain ⟨cq, kq, qa, qb, qc⟩ := isOf hZ eT E
  obtain ⟨v, _, ⟨T1, L1, k1, n1⟩, -, X1, ⟨Lc, ⟨hQ, hF⟩, l1, y1, z1⟩, st1⟩ := X0.virtualBack hx (y := z) (z := z) hown (mvT hZ w1) (mvT hZ w2) (notFace_of_selects (args := #[]) (mvT hZ w3)) (mvT hZ w3) (mvT hZ w4) hm (backOf (W := (rest.map fun v => v.category).sum) (Q := fun v h L => Qz v h ∧ Fr K.n0 L) (con []) hZ w6 w5 (by rw [hR]; exact hf) (by rw [hR]; exact hl)) qa qc (g := mkF K.m pc L St) rfl (by rw [hml]; exact hsz) (Steps.refl _) (argsL := argsL) (rest := rest) hpd hSt (by show 2 * 0 + _ ≤ _; omega) (hb hby dd) (fun _ _ => ⟨rfl, eT, by rw [hR]; exact hc, by rw [hR]; exact hs⟩)
  dsimp only [Pt.U, Pt.locs, Pt.cells, Pt.slots] at X1 l1 y1 z1 st1 hQ
  subst l1 y1 z1
  exact Run.st (fun t q => st1.trans q) (k T1 _ v ⟨_, X1, Fr.app N hF, Nat.le_trans hz (hmono _ _ hQ), rfl⟩ hQ)
theorem r_private {z z' : MethodName} {C C' : String} {zb : ByteArray} {zm : Nat} {zr : Option FieldType} {rm : Room} {i : Nat} {a : Addr} {a0 : Array Value} {Qz : Option Value → Heap → Prop} {St : List Value} (argsL rest : List Value) (X : Sd K T h cl sl) (cx : Cx K y bytes mx rt R) (hd : Dc bytes pc (.invokevirtual i) 3 pc') (E : Exa K.Z h a C)
    (w1 : (Cond.methodLink y.cls i z).before a0 K.Z = true) (w2 : (Cond.selects C' z' z').before a0 K.Z = true) (w3 : (Cond.instanceMethod z).before a0 K.Z = true) (w4 : (Cond.privateMethod z).before a0 K.Z = true) (w5 : (Cond.initialized z.cls).before a0 K.Z = true) (w6 : (Cond.code z zb zm zr).before a0 K.Z = true) (hzz : z'.cls = z.cls) (hm : z.cls ≠ "java/lang/invoke/MethodHandle" ∧ z.cls ≠ "java/lang/invoke/VarHandle")
    (con : Con K.l K.Z z zb zm zr rm (.ref a :: argsL).toArray h K.n0 Qz) (hpd : ∀ sig, parseMethodDescriptor z.desc = some sig → argsL.length = sig.parameters.length) (hSt : St = argsL.reverse ++ .ref a :: rest) (hsz : L.size = mx) (hf : rm.frames + 1 ≤ R.frames) (hl : (rest.map fun v => v.category).sum + (zm + 11) + rm.locals ≤ R.locals) (hc : cl + rm.cells ≤ R.cells) (hs : sl + rm.slots ≤ R.slots)
    (k : ∀ T' h' v, Sd K T' h' (cl + rm.cells) (sl + rm.slots) → Qz v h' → Run K Q T' (mkF K.m pc' L (v.toList ++ rest))) (hmono : ∀ v h', Qz v h' → h.size ≤ h'.size) : Run K Q T (mkF K.m pc L St) := by
  obtain ⟨locs, X0, N, hz, eT⟩ := X; obtain ⟨hx, hZ, hby, hml, hown, -, -, hR, -⟩ := cx; obtain ⟨dd, rfl⟩ := hd
  obtain ⟨cq, qa, qb⟩ := E.cell
  have u2 : (Cond.selects C' z' z').before K.args K.s = true := mvT hZ w2
  have u3 : (Cond.instanceMethod z).before K.args K.s = true := mvT hZ w3
  obtain ⟨c2, r2, m2, q1, q2, q3, q4, kP, hkP, hkPi⟩ := Cond.selects_spec u2
  have hc2 := findClass_of_methodNamed q3
  rw [hzz] at hc2
  have hpriv := Cond.privateMethod_at (mvP hZ w4 (args := K.args))
  have hsel := selects_self_of_private hc2 hkP hkPi hpriv u3 hm
  obtain ⟨v, _, ⟨T1, L1, k1, n1⟩, -, X1, ⟨Lc, ⟨hQ, hF⟩, l1, y1, z1⟩, st1⟩ := X0.privateBack hx (y := z) hown (mvT hZ w1) u3 hsel hpriv (mvT hZ w6) hm (backOf (W := (rest.map fun v => v.category).sum) (Q := fun v h L => Qz v h ∧ Fr K.n0 L) (con []) hZ w6 w5 (by rw [hR]; exact hf) (by rw [hR]; exact hl)) (g := mkF K.m pc L St) rfl (by rw [hml]; exact hsz) (Steps.refl _) (a := a) (by rw [eT]; exact qa) qb (argsL := argsL) (rest := rest) hpd hSt (by show 2 * 0 + _ ≤ _; omega) (hb hby dd) (fun _ _ => ⟨rfl, eT, by rw [hR]; exact hc, by rw [hR]; exact hs⟩)
  dsimp only [Pt.U, Pt.locs, Pt.cells, Pt.slots] at X1 l1 y1 z1 st1 hQ
  subst l1 y1 z1
  exact Run.st (fun t q => st1.trans q) (k T1 _ v ⟨_, X1, Fr.app N hF, Nat.le_trans hz (hmono _ _ hQ), rfl⟩ hQ)
theorem r_special {z : MethodName} {zb : ByteArray} {zm : Nat} {rm : Room} {i : Nat} {a : Addr} {a0 : Array Value} {Qz : Option Value → Heap → Prop} {St : List Value} (argsL rest : List Value) (X : Sd K T h cl sl) (cx : Cx K y bytes mx rt R) (hd : Dc bytes pc (.invokespecial i) 3 pc') (hzn : z.name = "<init>")
    (w1 : (Cond.methodLink y.cls i z).before a0 K.Z = true) (w2 : (Cond.instanceMethod z).before a0 K.Z = true) (w3 : (Cond.initialized z.cls).before a0 K.Z = true) (w4 : (Cond.code z zb zm none).before a0 K.Z = true) (hm : z.cls ≠ "java/lang/invoke/MethodHandle" ∧ z.cls ≠ "java/lang/invoke/VarHandle")
    (con : Con K.l K.Z z zb zm none rm (.ref a :: argsL).toArray h K.n0 Qz) (hpd : ∀ sig, parseMethodDescriptor z.desc = some sig → argsL.length = sig.parameters.length) (hSt : St = argsL.reverse ++ .ref a :: rest) (hsz : L.size = mx) (hf : rm.frames + 1 ≤ R.frames) (hl : (rest.map fun v => v.category).sum + (zm + 11) + rm.locals ≤ R.locals) (hc : cl + rm.cells ≤ R.cells) (hs : sl + rm.slots ≤ R.slots)
    (k : ∀ T' h' v, Sd K T' h' (cl + rm.cells) (sl + rm.slots) → Qz v h' → Run K Q T' (mkF K.m pc' L (v.toList ++ rest))) (hmono : ∀ v h', Qz v h' → h.size ≤ h'.size) : Run K Q T (mkF K.m pc L St) := by
  obtain ⟨locs, X0, N, hz, eT⟩ := X; obtain ⟨hx, hZ, hby, hml, hown, -, -, hR, -⟩ := cx; obtain ⟨dd, rfl⟩ := hd
  obtain ⟨v, _, ⟨T1, L1, k1, n1⟩, -, X1, ⟨Lc, ⟨hQ, hF⟩, l1, y1, z1⟩, st1⟩ := X0.specialBack hx (y := z) hzn hown (mvT hZ w1) (mvT hZ w2) (mvT hZ w4) hm (backOf (W := (rest.map fun v => v.category).sum) (Q := fun v h L => Qz v h ∧ Fr K.n0 L) (con []) hZ w4 w3 (by rw [hR]; exact hf) (by rw [hR]; exact hl)) (g := mkF K.m pc L St) rfl (by rw [hml]; exact hsz) (Steps.refl _) (a := a) (argsL := argsL) (rest := rest) hpd hSt (by show 2 * 0 + _ ≤ _; omega) (hb hby dd) (fun _ _ => ⟨rfl, eT, by rw [hR]; exact hc, by rw [hR]; exact hs⟩)
  dsimp only [Pt.U, Pt.locs, Pt.cells, Pt.slots] at X1 l1 y1 z1 st1 hQ
  subst l1 y1 z1
  exact Run.st (fun t q => st1.trans q) (k T1 _ v ⟨_, X1, Fr.app N hF, Nat.le_trans hz (hmono _ _ hQ), rfl⟩ hQ)
end Calls
end Jvm.Own
namespace Jvm.Pilot.@@N@@
open Jvm Jvm.ClassFile Sem Op Lib Jvm.Free Jvm.Stand Jvm.LawKit Jvm.RoadKit Bundle Jvm.Own Jvm.Pilot.@@N@@.Jvm.D
theorem pd_0 : parseMethodDescriptor "(IJ[J)V" = some ⟨[.int, .long, .array .long], none⟩ := by decide +kernel
theorem pd_1 : parseMethodDescriptor "(JJ)V" = some ⟨[.long, .long], none⟩ := by decide +kernel
theorem pd_2 : parseMethodDescriptor "()[J" = some ⟨[], some (.array .long)⟩ := by decide +kernel
theorem pd_3 : parseMethodDescriptor "([JI)Z" = some ⟨[.array .long, .int], some (.boolean)⟩ := by decide +kernel
def PA (Z : State) (h : Heap) (o ws : Addr) (f : Int32) (mask n : Int64) (xs : List Int64) : Prop :=
  Exa Z h o "com/example/epsilon_filter/epsilonfilter/filters/PackedArray" ∧ Fld Z h o "com/example/epsilon_filter/epsilonfilter/filters/PackedArray" "valueBits" "I" (.int f) ∧ Fld Z h o "com/example/epsilon_filter/epsilonfilter/filters/PackedArray" "valueMask" "J" (.long mask) ∧ Fld Z h o "com/example/epsilon_filter/epsilonfilter/filters/PackedArray" "length" "J" (.long n) ∧ Fld Z h o "com/example/epsilon_filter/epsilonfilter/filters/PackedArray" "words" "[J" (.ref ws) ∧ AJ Z h ws xs ∧ o ≠ ws
def own_mask (f : Int32) : Int64 := (1 : Int64) <<< (Int32.toInt64 f &&& 63) - 1
def own_x1 (xs : List Int64) (p f : Nat) (v : Int64) : List Int64 := xs.set (p / 64) ((xs[p / 64]?.getD 0 &&& (own_mask (Int32.ofNat f) <<< (Int32.toInt64 (Int32.ofNat (p % 64)) &&& 63) ^^^ -1)) ||| v <<< (Int32.toInt64 (Int32.ofNat (p % 64)) &&& 63))
def own_x2 (xs : List Int64) (p f : Nat) (v : Int64) : List Int64 := if 64 < p % 64 + f then (own_x1 xs p f v).set (p / 64 + 1) (((own_x1 xs p f v)[p / 64 + 1]?.getD 0 &&& (XT.ushrL (own_mask (Int32.ofNat f)) (Int32.ofNat (64 - p % 64)) ^^^ -1)) ||| XT.ushrL v (Int32.ofNat (64 - p % 64))) else own_x1 xs p f v
def own_at (xs : List Int64) (q : Nat) : Bool := (xs[q / 64]?.getD 0).toBitVec.getLsbD (q % 64)
theorem own_p : ∀ p : Fin 192, (XT.ushrL (Int64.ofNat p.val) 6).toInt32 = Int32.ofNat (p.val / 64) ∧ (Int64.ofNat p.val).toInt32 &&& 63 = Int32.ofNat (p.val % 64) ∧ Int32.ofNat p.val / 64 = Int32.ofNat (p.val / 64) ∧ Int32.ofNat p.val - Int32.ofNat p.val / 64 * 64 = Int32.ofNat (p.val % 64) ∧ Int32.toInt64 (Int32.ofNat p.val) = Int64.ofNat p.val ∧ Int64.toInt32 (Int64.ofNat p.val) = Int32.ofNat p.val := by decide +kernel
theorem own_nd : ∀ f : Fin 64, 1 ≤ f.val → (192 : Int32) / Int32.ofNat f.val = Int32.ofNat (192 / f.val) ∧ Int32.toInt64 (Int32.ofNat f.val) = Int64.ofNat f.val ∧ ¬ Int32.ofNat f.val = 0 ∧ 1 ≤ 192 / f.val ∧ 192 / f.val ≤ 192 ∧ Int32.toInt64 (Int32.ofNat (192 / f.val)) = Int64.ofNat (192 / f.val) := by decide +kernel
theorem own_shc : ∀ k : Fin 64, ((Int32.toInt64 (Int32.ofNat k.val) &&& 63).toBitVec.smod 64).toNat = k.val ∧ ((Int32.ofNat k.val).toInt64.toUInt64 &&& Int64.toUInt64 63).toBitVec.toNat % 64 = k.val := by decide +kernel
theorem own_shl (x : Int64) {k : Nat} (hk : k < 64) : (x <<< (Int32.toInt64 (Int32.ofNat k) &&& 63)).toBitVec = x.toBitVec <<< k := by
  rw [Int64.toBitVec_shiftLeft, BitVec.shiftLeft_eq', (own_shc ⟨k, hk⟩).1]
theorem own_us (x : Int64) (y : Int32) (n : Nat) (h : (y.toInt64.toUInt64 &&& Int64.toUInt64 63).toBitVec.toNat % 64 = n) : (XT.ushrL x y).toBitVec = x.toBitVec >>> n := by
  subst h
  show (x.toUInt64 >>> (y.toInt64.toUInt64 &&& Int64.toUInt64 63)).toBitVec = _
  rw [UInt64.toBitVec_shiftRight]
  simp [BitVec.ushiftRight_eq']
theorem own_shr (x : Int64) {k : Nat} (hk : k < 64) : (XT.ushrL x (Int32.ofNat k)).toBitVec = x.toBitVec >>> k := own_us x _ k (own_shc ⟨k, hk⟩).2
theorem own_mb : ∀ f i : Fin 64, ((1#64 <<< f.val) - 1#64).getLsbD i.val = decide (i.val < f.val) := by decide +kernel
theorem own_mbit {f : Nat} (hf : f < 64) (i : Nat) : (own_mask (Int32.ofNat f)).toBitVec.getLsbD i = decide (i < f) := by
  unfold own_mask
  rw [Int64.toBitVec_sub, own_shl _ hf]
  show ((1#64 <<< f) - 1#64).getLsbD i = _
  by_cases hi : i < 64
  · exact own_mb ⟨f, hf⟩ ⟨i, hi⟩
  · rw [BitVec.getLsbD_of_ge _ _ (by omega)]
    simp; omega
theorem own_not (x : Int64) {i : Nat} (hi : i < 64) : (x ^^^ -1).toBitVec.getLsbD i = !(x.toBitVec.getLsbD i) := by
  rw [Int64.toBitVec_xor, BitVec.getLsbD_xor]
  have : (-1 : Int64).toBitVec = BitVec.allOnes 64 := by decide
  rw [this, BitVec.getLsbD_allOnes]
  simp [hi]
theorem own_b1 (W : Int64) {k : Nat} (hk : k < 64) : (XT.ushrL W (Int32.ofNat k) &&& 1 = 0) ↔ W.toBitVec.getLsbD k = false := by
  rw [← Int64.toBitVec_inj, Int64.toBitVec_and, own_shr W hk]
  show (W.toBitVec >>> k &&& 1#64 = 0#64) ↔ _
  constructor
  · intro h
    have := congrArg (fun b => b.getLsbD 0) h
    simpa using this
  · intro h
    apply BitVec.eq_of_getLsbD_eq
    intro i hi
    rw [BitVec.getLsbD_and, BitVec.getLsbD_ushiftRight]
    by_cases q : i = 0
    · subst q; simp [h]
    · simp [q]
theorem own_sub : ∀ s : Fin 64, (64 : Int32) - Int32.ofNat s.val = Int32.ofNat (64 - s.val) := by decide +kernel
theorem own_lt64 {s f : Nat} (hs : s < 64) (hf : f < 64) : (64 : Int32) < Int32.ofNat s + Int32.ofNat f ↔ 64 < s + f := by
  rw [← Int32.ofNat_add, Int32.lt_iff_toInt_lt, Int32.toInt_ofNat_of_lt (by omega)]
  show (64 : Int) < _ ↔ _
  omega
theorem own_gdL {xs : List Int64} {n : Nat} (h : n < xs.length) : xs[n]? = some (xs[n]?.getD 0) := by
  rw [List.getElem?_eq_getElem h]; rfl
theorem own_law (xs : List Int64) {p f q : Nat} (v : Int64) (hx : xs.length = 3) (hf1 : 1 ≤ f) (hf : f < 64) (hp : p + f ≤ 192) (hq : q < 192) (hv : ∀ k, f ≤ k → v.toBitVec.getLsbD k = false) :
    own_at (own_x2 xs p f v) q = if p ≤ q ∧ q < p + f then v.toBitVec.getLsbD (q - p) else own_at xs q := by
  have hs : p % 64 < 64 := Nat.mod_lt _ (by decide)
  have hj : q % 64 < 64 := Nat.mod_lt _ (by decide)
  have a1 : own_at (own_x1 xs p f v) q = if q / 64 = p / 64 then (if p ≤ q ∧ q < p + f then v.toBitVec.getLsbD (q - p) else own_at xs q) else own_at xs q := by
    unfold own_at own_x1
    by_cases h : q / 64 = p / 64
    · rw [if_pos h, h, List.getElem?_set_self (by omega), Option.getD_some, Int64.toBitVec_or, Int64.toBitVec_and, BitVec.getLsbD_or, BitVec.getLsbD_and, own_not _ hj, own_shl _ hs, own_shl _ hs, BitVec.getLsbD_shiftLeft, BitVec.getLsbD_shiftLeft, own_mbit hf]
      by_cases h2 : q % 64 < p % 64
      · rw [if_neg (by omega)]
        simp [hj, h2]
      · have e : q - p = q % 64 - p % 64 := by omega
        by_cases h3 : q % 64 - p % 64 < f
        · rw [if_pos (by omega), e]
          simp [hj, h2, h3]
        · rw [if_neg (by omega), hv _ (by omega)]
          simp [hj, h2, h3]
    · rw [if_neg h, List.getElem?_set_ne (Ne.symm h)]
  unfold own_x2
  by_cases c : 64 < p % 64 + f
  · rw [if_pos c]
    by_cases h : q / 64 = p / 64 + 1
    · unfold own_at
      rw [h, List.getElem?_set_self (by simp [own_x1]; omega), Option.getD_some]
      have hk : 64 - p % 64 < 64 := by omega
      have e0 : (own_x1 xs p f v)[p / 64 + 1]? = xs[p / 64 + 1]? := by unfold own_x1; rw [List.getElem?_set_ne (by omega)]
      rw [e0, Int64.toBitVec_or, Int64.toBitVec_and, BitVec.getLsbD_or, BitVec.getLsbD_and, own_not _ hj, own_shr _ hk, own_shr _ hk, BitVec.getLsbD_ushiftRight, BitVec.getLsbD_ushiftRight, own_mbit hf]
      have e : q - p = 64 - p % 64 + q % 64 := by omega
      by_cases h3 : 64 - p % 64 + q % 64 < f
      · rw [if_pos (by omega), e]
        simp [h3]
      · rw [if_neg (by omega), hv _ (by omega)]
        simp [h3]
    · have : own_at ((own_x1 xs p f v).set (p / 64 + 1) (((own_x1 xs p f v)[p / 64 + 1]?.getD 0 &&& (XT.ushrL (own_mask (Int32.ofNat f)) (Int32.ofNat (64 - p % 64)) ^^^ -1)) ||| XT.ushrL v (Int32.ofNat (64 - p % 64)))) q = own_at (own_x1 xs p f v) q := by
        unfold own_at
        rw [List.getElem?_set_ne (Ne.symm h)]
      rw [this, a1]
      by_cases h4 : q / 64 = p / 64
      · rw [if_pos h4]
      · rw [if_neg h4, if_neg (by omega)]
  · rw [if_neg c, a1]
    by_cases h4 : q / 64 = p / 64
    · rw [if_pos h4]
    · rw [if_neg h4, if_neg (by omega)]
theorem own_irem (x y : Int32) (hx : 0 ≤ x.toInt) (hy : 0 < y.toInt) : (x - x / y * y).toInt = x.toInt % y.toInt := by
  have h1 : (x / y).toInt = x.toInt / y.toInt := by
    rw [Int32.toInt_div, Int.tdiv_eq_ediv_of_nonneg hx]
    have h2 := Int.ediv_nonneg hx (Int.le_of_lt hy)
    have h3 := Int.ediv_le_self y.toInt hx
    have := x.toInt_lt
    exact Int.bmod_eq_of_le (by omega) (by omega)
  have h2 : x.toInt / y.toInt * y.toInt = x.toInt - x.toInt % y.toInt := by
    have := Int.mul_ediv_add_emod x.toInt y.toInt
    rw [Int.mul_comm] at this; omega
  have h3 := Int.emod_nonneg x.toInt (Int.ne_of_gt hy)
  have h4 := Int.emod_lt_of_pos x.toInt hy
  have h5 : x.toInt % y.toInt ≤ x.toInt := by
    have := Int.ediv_nonneg hx (Int.le_of_lt hy)
    have := Int.mul_nonneg this (Int.le_of_lt hy)
    omega
  have := x.toInt_lt
  have hm : (x / y * y).toInt = x.toInt - x.toInt % y.toInt := by
    rw [Int32.toInt_mul, h1, h2]
    exact Int.bmod_eq_of_le (by omega) (by omega)
  rw [Int32.toInt_sub, hm]
  have : x.toInt - (x.toInt - x.toInt % y.toInt) = x.toInt % y.toInt := by omega
  rw [this]
  exact Int.bmod_eq_of_le (by omega) (by omega)
theorem own_lrem (x y : Int64) (hx : 0 ≤ x.toInt) (hy : 0 < y.toInt) : (x - x / y * y).toInt = x.toInt % y.toInt := by
  have h1 : (x / y).toInt = x.toInt / y.toInt := by
    rw [Int64.toInt_div, Int.tdiv_eq_ediv_of_nonneg hx]
    have h2 := Int.ediv_nonneg hx (Int.le_of_lt hy)
    have h3 := Int.ediv_le_self y.toInt hx
    have := x.toInt_lt
    exact Int.bmod_eq_of_le (by omega) (by omega)
  have h2 : x.toInt / y.toInt * y.toInt = x.toInt - x.toInt % y.toInt := by
    have := Int.mul_ediv_add_emod x.toInt y.toInt
    rw [Int.mul_comm] at this; omega
  have h3 := Int.emod_nonneg x.toInt (Int.ne_of_gt hy)
  have h4 := Int.emod_lt_of_pos x.toInt hy
  have h5 : x.toInt % y.toInt ≤ x.toInt := by
    have := Int.ediv_nonneg hx (Int.le_of_lt hy)
    have := Int.mul_nonneg this (Int.le_of_lt hy)
    omega
  have := x.toInt_lt
  have hm : (x / y * y).toInt = x.toInt - x.toInt % y.toInt := by
    rw [Int64.toInt_mul, h1, h2]
    exact Int.bmod_eq_of_le (by omega) (by omega)
  rw [Int64.toInt_sub, hm]
  have : x.toInt - (x.toInt - x.toInt % y.toInt) = x.toInt % y.toInt := by omega
  rw [this]
  exact Int.bmod_eq_of_le (by omega) (by omega)
theorem own_and31 (x : Int32) : 0 ≤ (x &&& 2147483647).toInt := by
  have hle : (x &&& 2147483647).toBitVec.toNat ≤ 2147483647 := by
    rw [Int32.toBitVec_and, BitVec.toNat_and]; exact Nat.and_le_right
  show 0 ≤ (x &&& 2147483647).toBitVec.toInt
  rw [BitVec.toInt_eq_toNat_of_lt (by omega)]
  omega
theorem own_and63 (x : Int64) : 0 ≤ (x &&& 9223372036854775807).toInt := by
  have hle : (x &&& 9223372036854775807).toBitVec.toNat ≤ 9223372036854775807 := by
    rw [Int64.toBitVec_and, BitVec.toNat_and]; exact Nat.and_le_right
  show 0 ≤ (x &&& 9223372036854775807).toBitVec.toInt
  rw [BitVec.toInt_eq_toNat_of_lt (by omega)]
  omega
theorem own_nn (x : Int32) (h : x.toBitVec.toNat < 2 ^ 31) : 0 ≤ x.toInt := by
  show 0 ≤ x.toBitVec.toInt
  rw [BitVec.toInt_eq_toNat_of_lt (by omega)]
  omega
theorem own_ir (x : Int32) {n : Nat} (hx : 0 ≤ x.toInt) (h1 : 1 ≤ n) (h2 : n ≤ 192) : ∃ r : Nat, r < n ∧ x - x / Int32.ofNat n * Int32.ofNat n = Int32.ofNat r := by
  have hn : (Int32.ofNat n).toInt = n := Int32.toInt_ofNat_of_lt (by omega)
  have h := own_irem x (Int32.ofNat n) hx (by omega)
  rw [hn] at h
  have h3 := Int.emod_nonneg x.toInt (show (n : Int) ≠ 0 by omega)
  have h4 := Int.emod_lt_of_pos x.toInt (show (0 : Int) < n by omega)
  generalize x - x / Int32.ofNat n * Int32.ofNat n = r at h
  refine ⟨r.toInt.toNat, by omega, ?_⟩
  apply Int32.toInt_inj.mp
  rw [Int32.toInt_ofNat_of_lt (by omega)]
  omega
theorem own_f (x : Int32) : ∃ f : Nat, 1 ≤ f ∧ f ≤ 63 ∧ (1 : Int32) + ((x &&& 63) - (x &&& 63) / 63 * 63) = Int32.ofNat f := by
  obtain ⟨r, h1, h2⟩ := own_ir (x &&& 63) (n := 63) (own_nn _ (by rw [Int32.toBitVec_and, BitVec.toNat_and]; exact Nat.lt_of_le_of_lt Nat.and_le_right (by decide))) (by decide) (by decide)
  refine ⟨r + 1, by omega, by omega, ?_⟩
  rw [Int32.ofNat_add, ← h2, Int32.add_comm]; rfl
theorem own_q (x : Int32) : ∃ q : Nat, q < 192 ∧ XT.ushr x 6 - XT.ushr x 6 / 192 * 192 = Int32.ofNat q := by
  refine own_ir (XT.ushr x 6) (n := 192) (own_nn _ ?_) (by decide) (by decide)
  show (x.toUInt32 >>> ((6 : Int32) &&& 31).toUInt32).toBitVec.toNat < _
  rw [UInt32.toBitVec_shiftRight, BitVec.ushiftRight_eq', BitVec.toNat_ushiftRight]
  show x.toUInt32.toBitVec.toNat >>> 6 < _
  have := x.toUInt32.toBitVec.isLt
  rw [Nat.shiftRight_eq_div_pow]; omega
theorem own_i (x : Int64) {n : Nat} (h1 : 1 ≤ n) (h2 : n ≤ 192) : ∃ i : Nat, i < n ∧ (x &&& 9223372036854775807) - (x &&& 9223372036854775807) / Int64.ofNat n * Int64.ofNat n = Int64.ofNat i := by
  have hn : (Int64.ofNat n).toInt = n := Int64.toInt_ofNat_of_lt (by omega)
  have h := own_lrem (x &&& 9223372036854775807) (Int64.ofNat n) (own_and63 x) (by omega)
  rw [hn] at h
  have h3 := Int.emod_nonneg (x &&& 9223372036854775807).toInt (show (n : Int) ≠ 0 by omega)
  have h4 := Int.emod_lt_of_pos (x &&& 9223372036854775807).toInt (show (0 : Int) < n by omega)
  generalize (x &&& 9223372036854775807) - (x &&& 9223372036854775807) / Int64.ofNat n * Int64.ofNat n = r at h
  refine ⟨r.toInt.toNat, by omega, ?_⟩
  apply Int64.toInt_inj.mp
  rw [Int64.toInt_ofNat_of_lt (by omega)]
  omega
theorem own_if {i f : Nat} (hi : i < 192 / f) : i * f + f ≤ 192 := by
  have h := Nat.div_mul_le_self 192 f
  have h2 : (i + 1) * f ≤ 192 / f * f := Nat.mul_le_mul_right f hi
  rw [Nat.add_mul] at h2; omega
theorem own_ltn {a b : Nat} (ha : a < 1000) (hb : b < 1000) : Int64.ofNat a < Int64.ofNat b ↔ a < b := by
  rw [Int64.lt_iff_toInt_lt, Int64.toInt_ofNat_of_lt (by omega), Int64.toInt_ofNat_of_lt (by omega)]; omega
theorem own_subn {a b : Nat} (h : b ≤ a) : Int64.ofNat a - Int64.ofNat b = Int64.ofNat (a - b) := by
  have : Int64.ofNat a = Int64.ofNat (a - b) + Int64.ofNat b := by rw [← Int64.ofNat_add, Nat.sub_add_cancel h]
  rw [this, Int64.add_sub_cancel]
theorem own_vm (x : Int64) {f : Nat} (hf : f < 64) : ∀ k, f ≤ k → (x &&& own_mask (Int32.ofNat f)).toBitVec.getLsbD k = false := by
  intro k hk
  rw [Int64.toBitVec_and, BitVec.getLsbD_and, own_mbit hf]
  simp; omega
theorem P59m2_0 : Dc prog_59_method_2_code 0 (.aload_n 0) 1 1 := ⟨(by decide +kernel), rfl⟩
theorem P59m2_1 : Dc prog_59_method_2_code 1 (.invokespecial 11) 3 4 := ⟨(by decide +kernel), rfl⟩
theorem P59m2_4 : Dc prog_59_method_2_code 4 (.aload_n 0) 1 5 := ⟨(by decide +kernel), rfl⟩
theorem P59m2_5 : Dc prog_59_method_2_code 5 (.iload_n 1) 1 6 := ⟨(by decide +kernel), rfl⟩
theorem P59m2_6 : Dc prog_59_method_2_code 6 (.putfield 16) 3 9 := ⟨(by decide +kernel), rfl⟩
theorem P59m2_9 : Dc prog_59_method_2_code 9 (.aload_n 0) 1 10 := ⟨(by decide +kernel), rfl⟩
theorem P59m2_10 : Dc prog_59_method_2_code 10 (.lconst 1) 1 11 := ⟨(by decide +kernel), rfl⟩
theorem P59m2_11 : Dc prog_59_method_2_code 11 (.iload_n 1) 1 12 := ⟨(by decide +kernel), rfl⟩
theorem P59m2_12 : Dc prog_59_method_2_code 12 (.lshl) 1 13 := ⟨(by decide +kernel), rfl⟩
theorem P59m2_13 : Dc prog_59_method_2_code 13 (.lconst 1) 1 14 := ⟨(by decide +kernel), rfl⟩
theorem P59m2_14 : Dc prog_59_method_2_code 14 (.lsub) 1 15 := ⟨(by decide +kernel), rfl⟩
theorem P59m2_15 : Dc prog_59_method_2_code 15 (.putfield 20) 3 18 := ⟨(by decide +kernel), rfl⟩
theorem P59m2_18 : Dc prog_59_method_2_code 18 (.aload_n 0) 1 19 := ⟨(by decide +kernel), rfl⟩
theorem P59m2_19 : Dc prog_59_method_2_code 19 (.lload_n 2) 1 20 := ⟨(by decide +kernel), rfl⟩
theorem P59m2_20 : Dc prog_59_method_2_code 20 (.putfield 24) 3 23 := ⟨(by decide +kernel), rfl⟩
theorem P59m2_23 : Dc prog_59_method_2_code 23 (.aload_n 0) 1 24 := ⟨(by decide +kernel), rfl⟩
theorem P59m2_24 : Dc prog_59_method_2_code 24 (.aload 4) 2 26 := ⟨(by decide +kernel), rfl⟩
theorem P59m2_26 : Dc prog_59_method_2_code 26 (.putfield 27) 3 29 := ⟨(by decide +kernel), rfl⟩
theorem P59m2_29 : Dc prog_59_method_2_code 29 (.return_) 1 30 := ⟨(by decide +kernel), rfl⟩
theorem ef_P59m2 (m : MethodId) (o : Addr) (f : Int32) (n : Int64) (ws : Addr) : entryFrame m #[(.ref o), (.int f), (.long n), (.ref ws)] 5 = mkF m 0 #[.val (.ref o), .val (.int f), .val (.long n), .second, .val (.ref ws)] [] := by first | (simp [entryFrame, mkF, argsToLocals, Value.category]; done) | rfl
set_option maxRecDepth 65536 in
set_option maxHeartbeats 40000000 in
theorem con_P59m2 (l : Launch) (Z : State) (a0 : Array Value) (hw : Tb tables_1 a0 Z) (o : Addr) (f : Int32) (n : Int64) (ws : Addr) (h0 : Heap) (n0 : Nat) (Z0 : n0 ≤ h0.size) (xs : List Int64) (E_o : Exa Z h0 o "com/example/epsilon_filter/epsilonfilter/filters/PackedArray") (F_vb : Fld Z h0 o "com/example/epsilon_filter/epsilonfilter/filters/PackedArray" "valueBits" "I" (.int 0)) (F_vm : Fld Z h0 o "com/example/epsilon_filter/epsilonfilter/filters/PackedArray" "valueMask" "J" (.long 0)) (F_ln : Fld Z h0 o "com/example/epsilon_filter/epsilonfilter/filters/PackedArray" "length" "J" (.long 0)) (F_ws : Fld Z h0 o "com/example/epsilon_filter/epsilonfilter/filters/PackedArray" "words" "[J" .null) (A_ws : AJ Z h0 ws xs) (ne_o_ws : o ≠ ws) (g_o : n0 ≤ o) :
    Con l Z (⟨"com/example/epsilon_filter/epsilonfilter/filters/PackedArray", "<init>", "(IJ[J)V"⟩ : MethodName) prog_59_method_2_code 5 (none) ({ frames := 1, cells := 0, slots := 0, locals := 12 } : Room) #[(.ref o), (.int f), (.long n), (.ref ws)] h0 n0 (fun v h => h0.size ≤ h.size ∧ v = none ∧ PA Z h o ws f (own_mask f) n xs ∧ Keep h0 h [o]) := by
  refine Con.of (plainFor_of_name (by decide +kernel)) Z0 ?_
  intro K hl hZ hn cx T0 X0
  subst hl hZ hn
  refine Run.cast (ef_P59m2 K.m o f n ws) ?_
  have Kp : Keep h0 h0 [o] := Keep.refl _ _
  refine r_aloadN X0 cx P59m2_0 rfl ?_
  refine r_initO X0 cx P59m2_1 (hw.get 8 rfl) (hw.get 9 rfl) (hw.get 10 rfl) rfl (by decide) (leb rfl) (fun T1 X1 => ?_)
  refine r_aloadN X1 cx P59m2_4 rfl ?_
  refine r_iloadN X1 cx P59m2_5 rfl ?_
  refine r_putfield X1 cx P59m2_6 (hw.get 11 rfl) F_vb E_o (Or.inr ⟨(hw.get 12 rfl), rfl, rfl⟩) (hw.get 3 rfl) (ty := .int) (by decide) rfl rfl g_o (fun T2 h2 X2 W2 N2 => ?_)
  replace Kp := Kp.wr W2 (Or.inl (by simp))
  replace F_vm := F_vm.other W2 (Or.inr (slot_ne (Or.inr (hw.get 14 rfl)) (Or.inr (hw.get 12 rfl)) (by decide) (t := .long) (t' := .int) (by decide) (by decide)))
  replace F_ln := F_ln.other W2 (Or.inr (slot_ne (Or.inr (hw.get 16 rfl)) (Or.inr (hw.get 12 rfl)) (by decide) (t := .long) (t' := .int) (by decide) (by decide)))
  replace F_ws := F_ws.other W2 (Or.inr (slot_ne (Or.inr (hw.get 18 rfl)) (Or.inr (hw.get 12 rfl)) (by decide) (t := .array .long) (t' := .int) (by decide) (by decide)))
  replace E_o := E_o.wr W2
  replace A_ws := A_ws.other W2 ne_o_ws.symm
  have F_vb := N2
  refine r_aloadN X2 cx P59m2_9 rfl ?_
  refine r_lconst (1) X2 cx P59m2_10 rfl ?_
  refine r_iloadN X2 cx P59m2_11 rfl ?_
  refine r_lshl X2 cx P59m2_12 ?_
  refine r_lconst (1) X2 cx P59m2_13 rfl ?_
  refine r_lsub X2 cx P59m2_14 ?_
  refine r_putfield X2 cx P59m2_15 (hw.get 13 rfl) F_vm E_o (Or.inr ⟨(hw.get 14 rfl), rfl, rfl⟩) (hw.get 3 rfl) (ty := .long) (by decide) rfl rfl g_o (fun T3 h3 X3 W3 N3 => ?_)
  replace Kp := Kp.wr W3 (Or.inl (by simp))
  replace F_vb := F_vb.other W3 (Or.inr (slot_ne (Or.inr (hw.get 12 rfl)) (Or.inr (hw.get 14 rfl)) (by decide) (t := .int) (t' := .long) (by decide) (by decide)))
  replace F_ln := F_ln.other W3 (Or.inr (slot_ne (Or.inr (hw.get 16 rfl)) (Or.inr (hw.get 14 rfl)) (by decide) (t := .long) (t' := .long) (by decide) (by decide)))
  replace F_ws := F_ws.other W3 (Or.inr (slot_ne (Or.inr (hw.get 18 rfl)) (Or.inr (hw.get 14 rfl)) (by decide) (t := .array .long) (t' := .long) (by decide) (by decide)))
  replace E_o := E_o.wr W3
  replace A_ws := A_ws.other W3 ne_o_ws.symm
  have F_vm := N3
  refine r_aloadN X3 cx P59m2_18 rfl ?_
  refine r_lloadN X3 cx P59m2_19 rfl ?_
  refine r_putfield X3 cx P59m2_20 (hw.get 15 rfl) F_ln E_o (Or.inr ⟨(hw.get 16 rfl), rfl, rfl⟩) (hw.get 3 rfl) (ty := .long) (by decide) rfl rfl g_o (fun T4 h4 X4 W4 N4 => ?_)
  replace Kp := Kp.wr W4 (Or.inl (by simp))
  replace F_vb := F_vb.other W4 (Or.inr (slot_ne (Or.inr (hw.get 12 rfl)) (Or.inr (hw.get 16 rfl)) (by decide) (t := .int) (t' := .long) (by decide) (by decide)))
  replace F_vm := F_vm.other W4 (Or.inr (slot_ne (Or.inr (hw.get 14 rfl)) (Or.inr (hw.get 16 rfl)) (by decide) (t := .long) (t' := .long) (by decide) (by decide)))
  replace F_ws := F_ws.other W4 (Or.inr (slot_ne (Or.inr (hw.get 18 rfl)) (Or.inr (hw.get 16 rfl)) (by decide) (t := .array .long) (t' := .long) (by decide) (by decide)))
  replace E_o := E_o.wr W4
  replace A_ws := A_ws.other W4 ne_o_ws.symm
  have F_ln := N4
  refine r_aloadN X4 cx P59m2_23 rfl ?_
  refine r_aload X4 cx P59m2_24 rfl ?_
  refine r_putfield X4 cx P59m2_26 (hw.get 17 rfl) F_ws E_o (Or.inr ⟨(hw.get 18 rfl), rfl, rfl⟩) (hw.get 3 rfl) (ty := .array .long) (by decide) rfl rfl g_o (fun T5 h5 X5 W5 N5 => ?_)
  replace Kp := Kp.wr W5 (Or.inl (by simp))
  replace F_vb := F_vb.other W5 (Or.inr (slot_ne (Or.inr (hw.get 12 rfl)) (Or.inr (hw.get 18 rfl)) (by decide) (t := .int) (t' := .array .long) (by decide) (by decide)))
  replace F_vm := F_vm.other W5 (Or.inr (slot_ne (Or.inr (hw.get 14 rfl)) (Or.inr (hw.get 18 rfl)) (by decide) (t := .long) (t' := .array .long) (by decide) (by decide)))
  replace F_ln := F_ln.other W5 (Or.inr (slot_ne (Or.inr (hw.get 16 rfl)) (Or.inr (hw.get 18 rfl)) (by decide) (t := .long) (t' := .array .long) (by decide) (by decide)))
  replace E_o := E_o.wr W5
  replace A_ws := A_ws.other W5 ne_o_ws.symm
  have F_ws := N5
  refine r_return X5 cx P59m2_29 (by decide) (by decide) ?_
  exact ⟨Kp.1, rfl, ⟨E_o, F_vb, F_vm, F_ln, F_ws, A_ws, ne_o_ws⟩, Kp⟩
theorem P59m10_0 : Dc prog_59_method_10_code 0 (.lload_n 1) 1 1 := ⟨(by decide +kernel), rfl⟩
theorem P59m10_1 : Dc prog_59_method_10_code 1 (.aload_n 0) 1 2 := ⟨(by decide +kernel), rfl⟩
theorem P59m10_2 : Dc prog_59_method_10_code 2 (.getfield 16) 3 5 := ⟨(by decide +kernel), rfl⟩
theorem P59m10_5 : Dc prog_59_method_10_code 5 (.i2l) 1 6 := ⟨(by decide +kernel), rfl⟩
theorem P59m10_6 : Dc prog_59_method_10_code 6 (.lmul) 1 7 := ⟨(by decide +kernel), rfl⟩
theorem P59m10_7 : Dc prog_59_method_10_code 7 (.lstore 5) 2 9 := ⟨(by decide +kernel), rfl⟩
theorem P59m10_9 : Dc prog_59_method_10_code 9 (.lload 5) 2 11 := ⟨(by decide +kernel), rfl⟩
theorem P59m10_11 : Dc prog_59_method_10_code 11 (.bipush 6) 2 13 := ⟨(by decide +kernel), rfl⟩
theorem P59m10_13 : Dc prog_59_method_10_code 13 (.lushr) 1 14 := ⟨(by decide +kernel), rfl⟩
theorem P59m10_14 : Dc prog_59_method_10_code 14 (.l2i) 1 15 := ⟨(by decide +kernel), rfl⟩
theorem P59m10_15 : Dc prog_59_method_10_code 15 (.istore 7) 2 17 := ⟨(by decide +kernel), rfl⟩
theorem P59m10_17 : Dc prog_59_method_10_code 17 (.lload 5) 2 19 := ⟨(by decide +kernel), rfl⟩
theorem P59m10_19 : Dc prog_59_method_10_code 19 (.l2i) 1 20 := ⟨(by decide +kernel), rfl⟩
theorem P59m10_20 : Dc prog_59_method_10_code 20 (.bipush 63) 2 22 := ⟨(by decide +kernel), rfl⟩
theorem P59m10_22 : Dc prog_59_method_10_code 22 (.iand) 1 23 := ⟨(by decide +kernel), rfl⟩
theorem P59m10_23 : Dc prog_59_method_10_code 23 (.istore 8) 2 25 := ⟨(by decide +kernel), rfl⟩
theorem P59m10_25 : Dc prog_59_method_10_code 25 (.aload_n 0) 1 26 := ⟨(by decide +kernel), rfl⟩
theorem P59m10_26 : Dc prog_59_method_10_code 26 (.getfield 27) 3 29 := ⟨(by decide +kernel), rfl⟩
theorem P59m10_29 : Dc prog_59_method_10_code 29 (.iload 7) 2 31 := ⟨(by decide +kernel), rfl⟩
theorem P59m10_31 : Dc prog_59_method_10_code 31 (.aload_n 0) 1 32 := ⟨(by decide +kernel), rfl⟩
theorem P59m10_32 : Dc prog_59_method_10_code 32 (.getfield 27) 3 35 := ⟨(by decide +kernel), rfl⟩
theorem P59m10_35 : Dc prog_59_method_10_code 35 (.iload 7) 2 37 := ⟨(by decide +kernel), rfl⟩
theorem P59m10_37 : Dc prog_59_method_10_code 37 (.laload) 1 38 := ⟨(by decide +kernel), rfl⟩
theorem P59m10_38 : Dc prog_59_method_10_code 38 (.aload_n 0) 1 39 := ⟨(by decide +kernel), rfl⟩
theorem P59m10_39 : Dc prog_59_method_10_code 39 (.getfield 20) 3 42 := ⟨(by decide +kernel), rfl⟩
theorem P59m10_42 : Dc prog_59_method_10_code 42 (.iload 8) 2 44 := ⟨(by decide +kernel), rfl⟩
theorem P59m10_44 : Dc prog_59_method_10_code 44 (.lshl) 1 45 := ⟨(by decide +kernel), rfl⟩
theorem P59m10_45 : Dc prog_59_method_10_code 45 (.ldc2_w 47) 3 48 := ⟨(by decide +kernel), rfl⟩
theorem P59m10_48 : Dc prog_59_method_10_code 48 (.lxor) 1 49 := ⟨(by decide +kernel), rfl⟩
theorem P59m10_49 : Dc prog_59_method_10_code 49 (.land) 1 50 := ⟨(by decide +kernel), rfl⟩
theorem P59m10_50 : Dc prog_59_method_10_code 50 (.lload_n 3) 1 51 := ⟨(by decide +kernel), rfl⟩
theorem P59m10_51 : Dc prog_59_method_10_code 51 (.iload 8) 2 53 := ⟨(by decide +kernel), rfl⟩
theorem P59m10_53 : Dc prog_59_method_10_code 53 (.lshl) 1 54 := ⟨(by decide +kernel), rfl⟩
theorem P59m10_54 : Dc prog_59_method_10_code 54 (.lor) 1 55 := ⟨(by decide +kernel), rfl⟩
theorem P59m10_55 : Dc prog_59_method_10_code 55 (.lastore) 1 56 := ⟨(by decide +kernel), rfl⟩
theorem P59m10_56 : Dc prog_59_method_10_code 56 (.iload 8) 2 58 := ⟨(by decide +kernel), rfl⟩
theorem P59m10_58 : Dc prog_59_method_10_code 58 (.aload_n 0) 1 59 := ⟨(by decide +kernel), rfl⟩
theorem P59m10_59 : Dc prog_59_method_10_code 59 (.getfield 16) 3 62 := ⟨(by decide +kernel), rfl⟩
theorem P59m10_62 : Dc prog_59_method_10_code 62 (.iadd) 1 63 := ⟨(by decide +kernel), rfl⟩
theorem P59m10_63 : Dc prog_59_method_10_code 63 (.bipush 64) 2 65 := ⟨(by decide +kernel), rfl⟩
theorem P59m10_65 : Db prog_59_method_10_code 65 (.if_icmp .le 45) (45) 68 110 := ⟨(by decide +kernel), rfl, by decide, by decide⟩
theorem P59m10_68 : Dc prog_59_method_10_code 68 (.bipush 64) 2 70 := ⟨(by decide +kernel), rfl⟩
theorem P59m10_70 : Dc prog_59_method_10_code 70 (.iload 8) 2 72 := ⟨(by decide +kernel), rfl⟩
theorem P59m10_72 : Dc prog_59_method_10_code 72 (.isub) 1 73 := ⟨(by decide +kernel), rfl⟩
theorem P59m10_73 : Dc prog_59_method_10_code 73 (.istore 9) 2 75 := ⟨(by decide +kernel), rfl⟩
theorem P59m10_75 : Dc prog_59_method_10_code 75 (.aload_n 0) 1 76 := ⟨(by decide +kernel), rfl⟩
theorem P59m10_76 : Dc prog_59_method_10_code 76 (.getfield 27) 3 79 := ⟨(by decide +kernel), rfl⟩
theorem P59m10_79 : Dc prog_59_method_10_code 79 (.iload 7) 2 81 := ⟨(by decide +kernel), rfl⟩
theorem P59m10_81 : Dc prog_59_method_10_code 81 (.iconst 1) 1 82 := ⟨(by decide +kernel), rfl⟩
theorem P59m10_82 : Dc prog_59_method_10_code 82 (.iadd) 1 83 := ⟨(by decide +kernel), rfl⟩
theorem P59m10_83 : Dc prog_59_method_10_code 83 (.aload_n 0) 1 84 := ⟨(by decide +kernel), rfl⟩
theorem P59m10_84 : Dc prog_59_method_10_code 84 (.getfield 27) 3 87 := ⟨(by decide +kernel), rfl⟩
theorem P59m10_87 : Dc prog_59_method_10_code 87 (.iload 7) 2 89 := ⟨(by decide +kernel), rfl⟩
theorem P59m10_89 : Dc prog_59_method_10_code 89 (.iconst 1) 1 90 := ⟨(by decide +kernel), rfl⟩
theorem P59m10_90 : Dc prog_59_method_10_code 90 (.iadd) 1 91 := ⟨(by decide +kernel), rfl⟩
theorem P59m10_91 : Dc prog_59_method_10_code 91 (.laload) 1 92 := ⟨(by decide +kernel), rfl⟩
theorem P59m10_92 : Dc prog_59_method_10_code 92 (.aload_n 0) 1 93 := ⟨(by decide +kernel), rfl⟩
theorem P59m10_93 : Dc prog_59_method_10_code 93 (.getfield 20) 3 96 := ⟨(by decide +kernel), rfl⟩
theorem P59m10_96 : Dc prog_59_method_10_code 96 (.iload 9) 2 98 := ⟨(by decide +kernel), rfl⟩
theorem P59m10_98 : Dc prog_59_method_10_code 98 (.lushr) 1 99 := ⟨(by decide +kernel), rfl⟩
theorem P59m10_99 : Dc prog_59_method_10_code 99 (.ldc2_w 47) 3 102 := ⟨(by decide +kernel), rfl⟩
theorem P59m10_102 : Dc prog_59_method_10_code 102 (.lxor) 1 103 := ⟨(by decide +kernel), rfl⟩
theorem P59m10_103 : Dc prog_59_method_10_code 103 (.land) 1 104 := ⟨(by decide +kernel), rfl⟩
theorem P59m10_104 : Dc prog_59_method_10_code 104 (.lload_n 3) 1 105 := ⟨(by decide +kernel), rfl⟩
theorem P59m10_105 : Dc prog_59_method_10_code 105 (.iload 9) 2 107 := ⟨(by decide +kernel), rfl⟩
theorem P59m10_107 : Dc prog_59_method_10_code 107 (.lushr) 1 108 := ⟨(by decide +kernel), rfl⟩
theorem P59m10_108 : Dc prog_59_method_10_code 108 (.lor) 1 109 := ⟨(by decide +kernel), rfl⟩
theorem P59m10_109 : Dc prog_59_method_10_code 109 (.lastore) 1 110 := ⟨(by decide +kernel), rfl⟩
theorem P59m10_110 : Dc prog_59_method_10_code 110 (.return_) 1 111 := ⟨(by decide +kernel), rfl⟩
theorem ef_P59m10 (m : MethodId) (o : Addr) (ix : Int64) (va : Int64) : entryFrame m #[(.ref o), (.long ix), (.long va)] 10 = mkF m 0 #[.val (.ref o), .val (.long ix), .second, .val (.long va), .second, .unset, .unset, .unset, .unset, .unset] [] := by first | (simp [entryFrame, mkF, argsToLocals, Value.category]; done) | rfl
set_option maxRecDepth 65536 in
set_option maxHeartbeats 40000000 in
theorem con_P59m10 (l : Launch) (Z : State) (a0 : Array Value) (hw : Tb tables_1 a0 Z) (o : Addr) (ix : Int64) (va : Int64) (h0 : Heap) (n0 : Nat) (Z0 : n0 ≤ h0.size) (ws : Addr) (n : Int64) (xs : List Int64) (i nf : Nat) (B : PA Z h0 o ws (Int32.ofNat nf) (own_mask (Int32.ofNat nf)) n xs) (eix : ix = Int64.ofNat i) (hf1 : 1 ≤ nf) (hf : nf ≤ 63) (hif : i * nf + nf ≤ 192) (hxl : xs.length = 3) (g_ws : n0 ≤ ws) :
    Con l Z (⟨"com/example/epsilon_filter/epsilonfilter/filters/PackedArray", "setLong", "(JJ)V"⟩ : MethodName) prog_59_method_10_code 10 (none) ({ frames := 0, cells := 0, slots := 0, locals := 0 } : Room) #[(.ref o), (.long ix), (.long va)] h0 n0 (fun v h => h0.size ≤ h.size ∧ v = none ∧ PA Z h o ws (Int32.ofNat nf) (own_mask (Int32.ofNat nf)) n (own_x2 xs (i * nf) nf va) ∧ Keep h0 h [ws]) := by
  refine Con.of (plainFor_of_name (by decide +kernel)) Z0 ?_
  intro K hl hZ hn cx T0 X0
  subst hl hZ hn
  refine Run.cast (ef_P59m10 K.m o ix va) ?_
  obtain ⟨E_o, F_vb, F_vm, F_ln, F_ws, A_ws, ne_o_ws⟩ := B
  have Kp : Keep h0 h0 [ws] := Keep.refl _ _
  refine r_lloadN X0 cx P59m10_0 rfl ?_
  refine r_aloadN X0 cx P59m10_1 rfl ?_
  refine r_getfield X0 cx P59m10_2 (hw.get 11 rfl) F_vb (fun T1 X1 => ?_)
  refine r_i2l X1 cx P59m10_5 ?_
  refine r_lmul X1 cx P59m10_6 ?_
  refine r_lstore (fun zz => #[.val (.ref o), .val (.long ix), .second, .val (.long va), .second, .val (.long zz), .second, .unset, .unset, .unset]) X1 cx P59m10_7 (fun _ => rfl) (fun bit e_bit => ?_)
  obtain ⟨p, hp⟩ : ∃ p : Nat, p = i * nf := ⟨_, rfl⟩
  have ebit : bit = Int64.ofNat p := by rw [e_bit, eix, (own_nd ⟨nf, by omega⟩ hf1).2.1, hp, Int64.ofNat_mul]
  rw [← hp] at hif ⊢
  have hpp := own_p ⟨p, by omega⟩
  simp only at hpp
  clear e_bit
  refine r_lload X1 cx P59m10_9 rfl ?_
  refine r_bipush (6) X1 cx P59m10_11 rfl ?_
  refine r_lushr X1 cx P59m10_13 ?_
  refine r_l2i X1 cx P59m10_14 ?_
  refine r_istore (fun zz => #[.val (.ref o), .val (.long ix), .second, .val (.long va), .second, .val (.long bit), .second, .val (.int zz), .unset, .unset]) X1 cx P59m10_15 (fun _ => rfl) (fun wd e_wd => ?_)
  have ewd : wd = Int32.ofNat (p / 64) := by rw [e_wd, ebit]; exact hpp.1
  refine r_lload X1 cx P59m10_17 rfl ?_
  refine r_l2i X1 cx P59m10_19 ?_
  refine r_bipush (63) X1 cx P59m10_20 rfl ?_
  refine r_iand X1 cx P59m10_22 ?_
  refine r_istore (fun zz => #[.val (.ref o), .val (.long ix), .second, .val (.long va), .second, .val (.long bit), .second, .val (.int wd), .val (.int zz), .unset]) X1 cx P59m10_23 (fun _ => rfl) (fun sh e_sh => ?_)
  have esh : sh = Int32.ofNat (p % 64) := by rw [e_sh, ebit]; exact hpp.2.1
  have hm64 : p % 64 < 64 := Nat.mod_lt _ (by decide)
  clear e_wd e_sh
  subst esh
  refine r_aloadN X1 cx P59m10_25 rfl ?_
  refine r_getfield X1 cx P59m10_26 (hw.get 17 rfl) F_ws (fun T2 X2 => ?_)
  refine r_iload X2 cx P59m10_29 rfl ?_
  refine r_aloadN X2 cx P59m10_31 rfl ?_
  refine r_getfield X2 cx P59m10_32 (hw.get 17 rfl) F_ws (fun T3 X3 => ?_)
  refine r_iload X3 cx P59m10_35 rfl ?_
  refine r_laload X3 cx P59m10_37 A_ws (p / 64) ewd (v := (xs[p / 64]?.getD 0)) (own_gdL (by omega)) ?_
  refine r_aloadN X3 cx P59m10_38 rfl ?_
  refine r_getfield X3 cx P59m10_39 (hw.get 13 rfl) F_vm (fun T4 X4 => ?_)
  refine r_iload X4 cx P59m10_42 rfl ?_
  refine r_lshl X4 cx P59m10_44 ?_
  refine r_ldc2 X4 cx P59m10_45 (hw.get 24 rfl) ?_
  refine r_lxor X4 cx P59m10_48 ?_
  refine r_land X4 cx P59m10_49 ?_
  refine r_lloadN X4 cx P59m10_50 rfl ?_
  refine r_iload X4 cx P59m10_51 rfl ?_
  refine r_lshl X4 cx P59m10_53 ?_
  refine r_lor X4 cx P59m10_54 ?_
  refine r_lastore X4 cx P59m10_55 A_ws (p / 64) ewd (by omega) g_ws (fun T5 h5 X5 W5 N5 => ?_)
  replace Kp := Kp.wr W5 (Or.inl (by simp))
  replace F_vb := F_vb.other W5 (Or.inl ne_o_ws)
  replace F_vm := F_vm.other W5 (Or.inl ne_o_ws)
  replace F_ln := F_ln.other W5 (Or.inl ne_o_ws)
  replace F_ws := F_ws.other W5 (Or.inl ne_o_ws)
  replace E_o := E_o.wr W5
  have A_ws : AJ K.Z h5 ws (own_x1 xs p nf va) := N5
  refine r_iload X5 cx P59m10_56 rfl ?_
  refine r_aloadN X5 cx P59m10_58 rfl ?_
  refine r_getfield X5 cx P59m10_59 (hw.get 11 rfl) F_vb (fun T6 X6 => ?_)
  refine r_iadd X6 cx P59m10_62 ?_
  refine r_bipush (64) X6 cx P59m10_63 rfl ?_
  refine r_icmple X6 cx P59m10_65 (fun c65 => ?_) (fun c65 => ?_)
  · refine r_return X6 cx P59m10_110 (by decide) (by decide) ?_
    exact ⟨Kp.1, rfl, ⟨E_o, F_vb, F_vm, F_ln, F_ws, (by unfold own_x2; rw [if_neg (fun q => c65 ((own_lt64 hm64 (by omega)).mpr q))]; exact A_ws), ne_o_ws⟩, Kp⟩
  · refine r_bipush (64) X6 cx P59m10_68 rfl ?_
    refine r_iload X6 cx P59m10_70 rfl ?_
    refine r_isub X6 cx P59m10_72 ?_
    refine r_istore (fun zz => #[.val (.ref o), .val (.long ix), .second, .val (.long va), .second, .val (.long bit), .second, .val (.int wd), .val (.int (Int32.ofNat (p % 64))), .val (.int zz)]) X6 cx P59m10_73 (fun _ => rfl) (fun lb e_lb => ?_)
    have c65b : 64 < p % 64 + nf := (own_lt64 hm64 (by omega)).mp c65
    have elb : lb = Int32.ofNat (64 - p % 64) := by rw [e_lb]; exact own_sub ⟨p % 64, hm64⟩
    clear e_lb
    subst elb
    refine r_aloadN X6 cx P59m10_75 rfl ?_
    refine r_getfield X6 cx P59m10_76 (hw.get 17 rfl) F_ws (fun T7 X7 => ?_)
    refine r_iload X7 cx P59m10_79 rfl ?_
    refine r_iconst (1) X7 cx P59m10_81 rfl ?_
    refine r_iadd X7 cx P59m10_82 ?_
    refine r_aloadN X7 cx P59m10_83 rfl ?_
    refine r_getfield X7 cx P59m10_84 (hw.get 17 rfl) F_ws (fun T8 X8 => ?_)
    refine r_iload X8 cx P59m10_87 rfl ?_
    refine r_iconst (1) X8 cx P59m10_89 rfl ?_
    refine r_iadd X8 cx P59m10_90 ?_
    refine r_laload X8 cx P59m10_91 A_ws (p / 64 + 1) (by rw [ewd]; exact (Int32.ofNat_add _ 1).symm) (v := ((own_x1 xs p nf va)[p / 64 + 1]?.getD 0)) (own_gdL (by simp only [own_x1, List.length_set]; omega)) ?_
    refine r_aloadN X8 cx P59m10_92 rfl ?_
    refine r_getfield X8 cx P59m10_93 (hw.get 13 rfl) F_vm (fun T9 X9 => ?_)
    refine r_iload X9 cx P59m10_96 rfl ?_
    refine r_lushr X9 cx P59m10_98 ?_
    refine r_ldc2 X9 cx P59m10_99 (hw.get 24 rfl) ?_
    refine r_lxor X9 cx P59m10_102 ?_
    refine r_land X9 cx P59m10_103 ?_
    refine r_lloadN X9 cx P59m10_104 rfl ?_
    refine r_iload X9 cx P59m10_105 rfl ?_
    refine r_lushr X9 cx P59m10_107 ?_
    refine r_lor X9 cx P59m10_108 ?_
    refine r_lastore X9 cx P59m10_109 A_ws (p / 64 + 1) (by rw [ewd]; exact (Int32.ofNat_add _ 1).symm) (by simp only [own_x1, List.length_set]; omega) g_ws (fun T10 h10 X10 W10 N10 => ?_)
    replace Kp := Kp.wr W10 (Or.inl (by simp))
    replace F_vb := F_vb.other W10 (Or.inl ne_o_ws)
    replace F_vm := F_vm.other W10 (Or.inl ne_o_ws)
    replace F_ln := F_ln.other W10 (Or.inl ne_o_ws)
    replace F_ws := F_ws.other W10 (Or.inl ne_o_ws)
    replace E_o := E_o.wr W10
    have A_ws : AJ K.Z h10 ws (own_x2 xs p nf va) := by unfold own_x2; rw [if_pos c65b]; exact N10
    refine r_return X10 cx P59m10_110 (by decide) (by decide) ?_
    exact ⟨Kp.1, rfl, ⟨E_o, F_vb, F_vm, F_ln, F_ws, A_ws, ne_o_ws⟩, Kp⟩
theorem P59m6_0 : Dc prog_59_method_6_code 0 (.aload_n 0) 1 1 := ⟨(by decide +kernel), rfl⟩
theorem P59m6_1 : Dc prog_59_method_6_code 1 (.getfield 27) 3 4 := ⟨(by decide +kernel), rfl⟩
theorem P59m6_4 : Dc prog_59_method_6_code 4 (.areturn) 1 5 := ⟨(by decide +kernel), rfl⟩
theorem ef_P59m6 (m : MethodId) (o : Addr) : entryFrame m #[(.ref o)] 1 = mkF m 0 #[.val (.ref o)] [] := by first | (simp [entryFrame, mkF, argsToLocals, Value.category]; done) | rfl
set_option maxRecDepth 65536 in
set_option maxHeartbeats 40000000 in
theorem con_P59m6 (l : Launch) (Z : State) (a0 : Array Value) (hw : Tb tables_1 a0 Z) (o : Addr) (h0 : Heap) (n0 : Nat) (Z0 : n0 ≤ h0.size) (ws : Addr) (f : Int32) (mask n : Int64) (xs : List Int64) (B : PA Z h0 o ws f mask n xs) :
    Con l Z (⟨"com/example/epsilon_filter/epsilonfilter/filters/PackedArray", "getWords", "()[J"⟩ : MethodName) prog_59_method_6_code 1 (some (.array .long)) ({ frames := 0, cells := 0, slots := 0, locals := 0 } : Room) #[(.ref o)] h0 n0 (fun v h => h0 = h ∧ v = some (.ref ws)) := by
  refine Con.of (plainFor_of_name (by decide +kernel)) Z0 ?_
  intro K hl hZ hn cx T0 X0
  subst hl hZ hn
  refine Run.cast (ef_P59m6 K.m o) ?_
  obtain ⟨E_o, F_vb, F_vm, F_ln, F_ws, A_ws, ne_o_ws⟩ := B
  refine r_aloadN X0 cx P59m6_0 rfl ?_
  refine r_getfield X0 cx P59m6_1 (hw.get 17 rfl) F_ws (fun T1 X1 => ?_)
  refine r_areturn X1 cx rfl P59m6_4 (by decide) (by decide) ?_
  exact ⟨rfl, rfl⟩
theorem H2_0 : Dc method_2_code 0 (.aload_n 0) 1 1 := ⟨(by decide +kernel), rfl⟩
theorem H2_1 : Dc method_2_code 1 (.iload_n 1) 1 2 := ⟨(by decide +kernel), rfl⟩
theorem H2_2 : Dc method_2_code 2 (.bipush 64) 2 4 := ⟨(by decide +kernel), rfl⟩
theorem H2_4 : Dc method_2_code 4 (.idiv) 1 5 := ⟨(by decide +kernel), rfl⟩
theorem H2_5 : Dc method_2_code 5 (.laload) 1 6 := ⟨(by decide +kernel), rfl⟩
theorem H2_6 : Dc method_2_code 6 (.iload_n 1) 1 7 := ⟨(by decide +kernel), rfl⟩
theorem H2_7 : Dc method_2_code 7 (.bipush 64) 2 9 := ⟨(by decide +kernel), rfl⟩
theorem H2_9 : Dc method_2_code 9 (.irem) 1 10 := ⟨(by decide +kernel), rfl⟩
theorem H2_10 : Dc method_2_code 10 (.lushr) 1 11 := ⟨(by decide +kernel), rfl⟩
theorem H2_11 : Dc method_2_code 11 (.lconst 1) 1 12 := ⟨(by decide +kernel), rfl⟩
theorem H2_12 : Dc method_2_code 12 (.land) 1 13 := ⟨(by decide +kernel), rfl⟩
theorem H2_13 : Dc method_2_code 13 (.lconst 0) 1 14 := ⟨(by decide +kernel), rfl⟩
theorem H2_14 : Dc method_2_code 14 (.lcmp) 1 15 := ⟨(by decide +kernel), rfl⟩
theorem H2_15 : Db method_2_code 15 (.ifCond .eq 7) (7) 18 22 := ⟨(by decide +kernel), rfl, by decide, by decide⟩
theorem H2_18 : Dc method_2_code 18 (.iconst 1) 1 19 := ⟨(by decide +kernel), rfl⟩
theorem H2_19 : Db method_2_code 19 (.goto 4) (4) 22 23 := ⟨(by decide +kernel), rfl, by decide, by decide⟩
theorem H2_22 : Dc method_2_code 22 (.iconst 0) 1 23 := ⟨(by decide +kernel), rfl⟩
theorem H2_23 : Dc method_2_code 23 (.ireturn) 1 24 := ⟨(by decide +kernel), rfl⟩
theorem ef_H2 (m : MethodId) (r : Addr) (p : Int32) : entryFrame m #[(.ref r), (.int p)] 2 = mkF m 0 #[.val (.ref r), .val (.int p)] [] := by first | (simp [entryFrame, mkF, argsToLocals, Value.category]; done) | rfl
set_option maxRecDepth 65536 in
set_option maxHeartbeats 40000000 in
theorem con_H2 (l : Launch) (Z : State) (a0 : Array Value) (hw : Tb tables_1 a0 Z) (r : Addr) (p : Int32) (h0 : Heap) (n0 : Nat) (Z0 : n0 ≤ h0.size) (xs : List Int64) (q : Nat) (A_r : AJ Z h0 r xs) (hxl : xs.length = 3) (eq : p = Int32.ofNat q) (hq : q < 192) :
    Con l Z (⟨"com/example/epsilon_filter/epsilonfilter/filters/PackedArraySetLongPinLaw", "bitOf", "([JI)Z"⟩ : MethodName) method_2_code 2 (some (.boolean)) ({ frames := 0, cells := 0, slots := 0, locals := 0 } : Room) #[(.ref r), (.int p)] h0 n0 (fun v h => h0 = h ∧ v = some (.int (if own_at xs q then 1 else 0))) := by
  refine Con.of (plainFor_of_name (by decide +kernel)) Z0 ?_
  intro K hl hZ hn cx T0 X0
  subst hl hZ hn
  refine Run.cast (ef_H2 K.m r p) ?_
  have hpp := own_p ⟨q, hq⟩
  simp only at hpp
  subst eq
  refine r_aloadN X0 cx H2_0 rfl ?_
  refine r_iloadN X0 cx H2_1 rfl ?_
  refine r_bipush (64) X0 cx H2_2 rfl ?_
  refine r_idiv X0 cx H2_4 (by decide) ?_
  refine r_laload X0 cx H2_5 A_r (q / 64) hpp.2.2.1 (v := (xs[q / 64]?.getD 0)) (own_gdL (by omega)) ?_
  refine r_iloadN X0 cx H2_6 rfl ?_
  refine r_bipush (64) X0 cx H2_7 rfl ?_
  refine r_irem X0 cx H2_9 (by decide) ?_
  refine r_lushr X0 cx H2_10 ?_
  refine r_lconst (1) X0 cx H2_11 rfl ?_
  refine r_land X0 cx H2_12 ?_
  refine r_lconst (0) X0 cx H2_13 rfl ?_
  refine r_lcmp X0 cx H2_14 ?_
  refine r_lcmpeq X0 cx H2_15 (fun c15 => ?_) (fun c15 => ?_)
  · refine r_iconst (0) X0 cx H2_22 rfl ?_
    refine r_zreturn X0 cx H2_23 (by decide) (by decide) ?_
    rw [hpp.2.2.2.1, own_b1 _ (Nat.mod_lt _ (by decide))] at c15
    refine ⟨rfl, ?_⟩
    unfold own_at
    first | (rw [if_pos (by simpa using c15)]; rfl) | (rw [if_neg (by simp [c15])]; rfl)
  · refine r_iconst (1) X0 cx H2_18 rfl ?_
    refine r_goto X0 cx H2_19 ?_
    refine r_zreturn X0 cx H2_23 (by decide) (by decide) ?_
    rw [hpp.2.2.2.1, own_b1 _ (Nat.mod_lt _ (by decide))] at c15
    refine ⟨rfl, ?_⟩
    unfold own_at
    first | (rw [if_pos (by simpa using c15)]; rfl) | (rw [if_neg (by simp [c15])]; rfl)
theorem L_0 : Dc code 0 (.iconst 1) 1 1 := ⟨at_0, rfl⟩
theorem L_1 : Dc code 1 (.iload_n 0) 1 2 := ⟨at_1, rfl⟩
theorem L_2 : Dc code 2 (.bipush 63) 2 4 := ⟨at_2, rfl⟩
theorem L_4 : Dc code 4 (.iand) 1 5 := ⟨at_4, rfl⟩
theorem L_5 : Dc code 5 (.bipush 63) 2 7 := ⟨at_5, rfl⟩
theorem L_7 : Dc code 7 (.irem) 1 8 := ⟨at_7, rfl⟩
theorem L_8 : Dc code 8 (.iadd) 1 9 := ⟨at_8, rfl⟩
theorem L_9 : Dc code 9 (.istore 11) 2 11 := ⟨at_9, rfl⟩
theorem L_11 : Dc code 11 (.iload_n 0) 1 12 := ⟨at_11, rfl⟩
theorem L_12 : Dc code 12 (.bipush 6) 2 14 := ⟨at_12, rfl⟩
theorem L_14 : Dc code 14 (.iushr) 1 15 := ⟨at_14, rfl⟩
theorem L_15 : Dc code 15 (.sipush 192) 3 18 := ⟨at_15, rfl⟩
theorem L_18 : Dc code 18 (.irem) 1 19 := ⟨at_18, rfl⟩
theorem L_19 : Dc code 19 (.istore 12) 2 21 := ⟨at_19, rfl⟩
theorem L_21 : Dc code 21 (.sipush 192) 3 24 := ⟨at_21, rfl⟩
theorem L_24 : Dc code 24 (.iload 11) 2 26 := ⟨at_24, rfl⟩
theorem L_26 : Dc code 26 (.idiv) 1 27 := ⟨at_26, rfl⟩
theorem L_27 : Dc code 27 (.istore 13) 2 29 := ⟨at_27, rfl⟩
theorem L_29 : Dc code 29 (.lload_n 1) 1 30 := ⟨at_29, rfl⟩
theorem L_30 : Dc code 30 (.ldc2_w 9) 3 33 := ⟨at_30, rfl⟩
theorem L_33 : Dc code 33 (.land) 1 34 := ⟨at_33, rfl⟩
theorem L_34 : Dc code 34 (.iload 13) 2 36 := ⟨at_34, rfl⟩
theorem L_36 : Dc code 36 (.i2l) 1 37 := ⟨at_36, rfl⟩
theorem L_37 : Dc code 37 (.lrem) 1 38 := ⟨at_37, rfl⟩
theorem L_38 : Dc code 38 (.lstore 14) 2 40 := ⟨at_38, rfl⟩
theorem L_40 : Dc code 40 (.lconst 1) 1 41 := ⟨at_40, rfl⟩
theorem L_41 : Dc code 41 (.iload 11) 2 43 := ⟨at_41, rfl⟩
theorem L_43 : Dc code 43 (.lshl) 1 44 := ⟨at_43, rfl⟩
theorem L_44 : Dc code 44 (.lconst 1) 1 45 := ⟨at_44, rfl⟩
theorem L_45 : Dc code 45 (.lsub) 1 46 := ⟨at_45, rfl⟩
theorem L_46 : Dc code 46 (.lstore 16) 2 48 := ⟨at_46, rfl⟩
theorem L_48 : Dc code 48 (.lload_n 3) 1 49 := ⟨at_48, rfl⟩
theorem L_49 : Dc code 49 (.lload 16) 2 51 := ⟨at_49, rfl⟩
theorem L_51 : Dc code 51 (.land) 1 52 := ⟨at_51, rfl⟩
theorem L_52 : Dc code 52 (.lstore 18) 2 54 := ⟨at_52, rfl⟩
theorem L_54 : Dc code 54 (.iconst 3) 1 55 := ⟨at_54, rfl⟩
theorem L_55 : Dc code 55 (.newarray .long) 2 57 := ⟨at_55, rfl⟩
theorem L_57 : Dc code 57 (.dup) 1 58 := ⟨at_57, rfl⟩
theorem L_58 : Dc code 58 (.iconst 0) 1 59 := ⟨at_58, rfl⟩
theorem L_59 : Dc code 59 (.lload 5) 2 61 := ⟨at_59, rfl⟩
theorem L_61 : Dc code 61 (.lastore) 1 62 := ⟨at_61, rfl⟩
theorem L_62 : Dc code 62 (.dup) 1 63 := ⟨at_62, rfl⟩
theorem L_63 : Dc code 63 (.iconst 1) 1 64 := ⟨at_63, rfl⟩
theorem L_64 : Dc code 64 (.lload 7) 2 66 := ⟨at_64, rfl⟩
theorem L_66 : Dc code 66 (.lastore) 1 67 := ⟨at_66, rfl⟩
theorem L_67 : Dc code 67 (.dup) 1 68 := ⟨at_67, rfl⟩
theorem L_68 : Dc code 68 (.iconst 2) 1 69 := ⟨at_68, rfl⟩
theorem L_69 : Dc code 69 (.lload 9) 2 71 := ⟨at_69, rfl⟩
theorem L_71 : Dc code 71 (.lastore) 1 72 := ⟨at_71, rfl⟩
theorem L_72 : Dc code 72 (.astore 20) 2 74 := ⟨at_72, rfl⟩
theorem L_74 : Dc code 74 (.iconst 3) 1 75 := ⟨at_74, rfl⟩
theorem L_75 : Dc code 75 (.newarray .long) 2 77 := ⟨at_75, rfl⟩
theorem L_77 : Dc code 77 (.dup) 1 78 := ⟨at_77, rfl⟩
theorem L_78 : Dc code 78 (.iconst 0) 1 79 := ⟨at_78, rfl⟩
theorem L_79 : Dc code 79 (.lload 5) 2 81 := ⟨at_79, rfl⟩
theorem L_81 : Dc code 81 (.lastore) 1 82 := ⟨at_81, rfl⟩
theorem L_82 : Dc code 82 (.dup) 1 83 := ⟨at_82, rfl⟩
theorem L_83 : Dc code 83 (.iconst 1) 1 84 := ⟨at_83, rfl⟩
theorem L_84 : Dc code 84 (.lload 7) 2 86 := ⟨at_84, rfl⟩
theorem L_86 : Dc code 86 (.lastore) 1 87 := ⟨at_86, rfl⟩
theorem L_87 : Dc code 87 (.dup) 1 88 := ⟨at_87, rfl⟩
theorem L_88 : Dc code 88 (.iconst 2) 1 89 := ⟨at_88, rfl⟩
theorem L_89 : Dc code 89 (.lload 9) 2 91 := ⟨at_89, rfl⟩
theorem L_91 : Dc code 91 (.lastore) 1 92 := ⟨at_91, rfl⟩
theorem L_92 : Dc code 92 (.astore 21) 2 94 := ⟨at_92, rfl⟩
theorem L_94 : Dc code 94 (.new 11) 3 97 := ⟨at_94, rfl⟩
theorem L_97 : Dc code 97 (.dup) 1 98 := ⟨at_97, rfl⟩
theorem L_98 : Dc code 98 (.iload 11) 2 100 := ⟨at_98, rfl⟩
theorem L_100 : Dc code 100 (.iload 13) 2 102 := ⟨at_100, rfl⟩
theorem L_102 : Dc code 102 (.i2l) 1 103 := ⟨at_102, rfl⟩
theorem L_103 : Dc code 103 (.aload 21) 2 105 := ⟨at_103, rfl⟩
theorem L_105 : Dc code 105 (.invokespecial 13) 3 108 := ⟨at_105, rfl⟩
theorem L_108 : Dc code 108 (.astore 22) 2 110 := ⟨at_108, rfl⟩
theorem L_110 : Dc code 110 (.aload 22) 2 112 := ⟨at_110, rfl⟩
theorem L_112 : Dc code 112 (.lload 14) 2 114 := ⟨at_112, rfl⟩
theorem L_114 : Dc code 114 (.lload 18) 2 116 := ⟨at_114, rfl⟩
theorem L_116 : Dc code 116 (.invokevirtual 16) 3 119 := ⟨at_116, rfl⟩
theorem L_119 : Dc code 119 (.aload 22) 2 121 := ⟨at_119, rfl⟩
theorem L_121 : Dc code 121 (.invokevirtual 20) 3 124 := ⟨at_121, rfl⟩
theorem L_124 : Dc code 124 (.astore 23) 2 126 := ⟨at_124, rfl⟩
theorem L_126 : Dc code 126 (.lload 14) 2 128 := ⟨at_126, rfl⟩
theorem L_128 : Dc code 128 (.iload 11) 2 130 := ⟨at_128, rfl⟩
theorem L_130 : Dc code 130 (.i2l) 1 131 := ⟨at_130, rfl⟩
theorem L_131 : Dc code 131 (.lmul) 1 132 := ⟨at_131, rfl⟩
theorem L_132 : Dc code 132 (.lstore 24) 2 134 := ⟨at_132, rfl⟩
theorem L_134 : Dc code 134 (.iload 12) 2 136 := ⟨at_134, rfl⟩
theorem L_136 : Dc code 136 (.i2l) 1 137 := ⟨at_136, rfl⟩
theorem L_137 : Dc code 137 (.lload 24) 2 139 := ⟨at_137, rfl⟩
theorem L_139 : Dc code 139 (.lcmp) 1 140 := ⟨at_139, rfl⟩
theorem L_140 : Db code 140 (.ifCond .lt 20) (20) 143 160 := ⟨at_140, rfl, by decide, by decide⟩
theorem L_143 : Dc code 143 (.iload 12) 2 145 := ⟨at_143, rfl⟩
theorem L_145 : Dc code 145 (.i2l) 1 146 := ⟨at_145, rfl⟩
theorem L_146 : Dc code 146 (.lload 24) 2 148 := ⟨at_146, rfl⟩
theorem L_148 : Dc code 148 (.iload 11) 2 150 := ⟨at_148, rfl⟩
theorem L_150 : Dc code 150 (.i2l) 1 151 := ⟨at_150, rfl⟩
theorem L_151 : Dc code 151 (.ladd) 1 152 := ⟨at_151, rfl⟩
theorem L_152 : Dc code 152 (.lcmp) 1 153 := ⟨at_152, rfl⟩
theorem L_153 : Db code 153 (.ifCond .ge 7) (7) 156 160 := ⟨at_153, rfl, by decide, by decide⟩
theorem L_156 : Dc code 156 (.iconst 1) 1 157 := ⟨at_156, rfl⟩
theorem L_157 : Db code 157 (.goto 4) (4) 160 161 := ⟨at_157, rfl, by decide, by decide⟩
theorem L_160 : Dc code 160 (.iconst 0) 1 161 := ⟨at_160, rfl⟩
theorem L_161 : Dc code 161 (.istore 26) 2 163 := ⟨at_161, rfl⟩
theorem L_163 : Dc code 163 (.iload 26) 2 165 := ⟨at_163, rfl⟩
theorem L_165 : Db code 165 (.ifCond .eq 30) (30) 168 195 := ⟨at_165, rfl, by decide, by decide⟩
theorem L_168 : Dc code 168 (.lload 18) 2 170 := ⟨at_168, rfl⟩
theorem L_170 : Dc code 170 (.iload 12) 2 172 := ⟨at_170, rfl⟩
theorem L_172 : Dc code 172 (.i2l) 1 173 := ⟨at_172, rfl⟩
theorem L_173 : Dc code 173 (.lload 24) 2 175 := ⟨at_173, rfl⟩
theorem L_175 : Dc code 175 (.lsub) 1 176 := ⟨at_175, rfl⟩
theorem L_176 : Dc code 176 (.l2i) 1 177 := ⟨at_176, rfl⟩
theorem L_177 : Dc code 177 (.lushr) 1 178 := ⟨at_177, rfl⟩
theorem L_178 : Dc code 178 (.lconst 1) 1 179 := ⟨at_178, rfl⟩
theorem L_179 : Dc code 179 (.land) 1 180 := ⟨at_179, rfl⟩
theorem L_180 : Dc code 180 (.lconst 0) 1 181 := ⟨at_180, rfl⟩
theorem L_181 : Dc code 181 (.lcmp) 1 182 := ⟨at_181, rfl⟩
theorem L_182 : Db code 182 (.ifCond .eq 7) (7) 185 189 := ⟨at_182, rfl, by decide, by decide⟩
theorem L_185 : Dc code 185 (.iconst 1) 1 186 := ⟨at_185, rfl⟩
theorem L_186 : Db code 186 (.goto 4) (4) 189 190 := ⟨at_186, rfl, by decide, by decide⟩
theorem L_189 : Dc code 189 (.iconst 0) 1 190 := ⟨at_189, rfl⟩
theorem L_190 : Dc code 190 (.istore 27) 2 192 := ⟨at_190, rfl⟩
theorem L_192 : Db code 192 (.goto 12) (12) 195 204 := ⟨at_192, rfl, by decide, by decide⟩
theorem L_195 : Dc code 195 (.aload 20) 2 197 := ⟨at_195, rfl⟩
theorem L_197 : Dc code 197 (.iload 12) 2 199 := ⟨at_197, rfl⟩
theorem L_199 : Dc code 199 (.invokestatic 24) 3 202 := ⟨at_199, rfl⟩
theorem L_202 : Dc code 202 (.istore 27) 2 204 := ⟨at_202, rfl⟩
theorem L_204 : Dc code 204 (.aload 23) 2 206 := ⟨at_204, rfl⟩
theorem L_206 : Dc code 206 (.iload 12) 2 208 := ⟨at_206, rfl⟩
theorem L_208 : Dc code 208 (.invokestatic 24) 3 211 := ⟨at_208, rfl⟩
theorem L_211 : Dc code 211 (.istore 28) 2 213 := ⟨at_211, rfl⟩
theorem L_213 : Dc code 213 (.iload 27) 2 215 := ⟨at_213, rfl⟩
theorem L_215 : Dc code 215 (.iload 28) 2 217 := ⟨at_215, rfl⟩
theorem L_217 : Db code 217 (.if_icmp .ne 7) (7) 220 224 := ⟨at_217, rfl, by decide, by decide⟩
theorem L_220 : Dc code 220 (.iconst 1) 1 221 := ⟨at_220, rfl⟩
theorem L_221 : Db code 221 (.goto 4) (4) 224 225 := ⟨at_221, rfl, by decide, by decide⟩
theorem L_224 : Dc code 224 (.iconst 0) 1 225 := ⟨at_224, rfl⟩
theorem L_225 : Dc code 225 (.ireturn) 1 226 := ⟨at_225, rfl⟩
theorem ef_L (m : MethodId) (i0 : Int32) (i1 : Int64) (i2 : Int64) (i3 : Int64) (i4 : Int64) (i5 : Int64) : entryFrame m #[(.int i0), (.long i1), (.long i2), (.long i3), (.long i4), (.long i5)] maxLocals = mkF m 0 #[.val (.int i0), .val (.long i1), .second, .val (.long i2), .second, .val (.long i3), .second, .val (.long i4), .second, .val (.long i5), .second, .unset, .unset, .unset, .unset, .unset, .unset, .unset, .unset, .unset, .unset, .unset, .unset, .unset, .unset, .unset, .unset, .unset, .unset] [] := by first | (simp [entryFrame, mkF, argsToLocals, Value.category, maxLocals]; done) | rfl
set_option maxRecDepth 65536 in
set_option maxHeartbeats 40000000 in
theorem con_L (l : Launch) (Z : State) (a0 : Array Value) (hw : Tb tables_1 a0 Z) (i0 : Int32) (i1 : Int64) (i2 : Int64) (i3 : Int64) (i4 : Int64) (i5 : Int64) (h0 : Heap) (n0 : Nat) (Z0 : n0 ≤ h0.size)  :
    Con l Z x code maxLocals ret room_1 #[(.int i0), (.long i1), (.long i2), (.long i3), (.long i4), (.long i5)] h0 n0 (fun v _ => v = some (.int 1)) := by
  refine Con.of (plainFor_of_name (by decide +kernel)) Z0 ?_
  intro K hl hZ hn cx T0 X0
  subst hl hZ hn
  refine Run.cast (ef_L K.m i0 i1 i2 i3 i4 i5) ?_
  refine r_iconst (1) X0 cx L_0 rfl ?_
  refine r_iloadN X0 cx L_1 rfl ?_
  refine r_bipush (63) X0 cx L_2 rfl ?_
  refine r_iand X0 cx L_4 ?_
  refine r_bipush (63) X0 cx L_5 rfl ?_
  refine r_irem X0 cx L_7 (by decide) ?_
  refine r_iadd X0 cx L_8 ?_
  refine r_istore (fun zz => #[.val (.int i0), .val (.long i1), .second, .val (.long i2), .second, .val (.long i3), .second, .val (.long i4), .second, .val (.long i5), .second, .val (.int zz), .unset, .unset, .unset, .unset, .unset, .unset, .unset, .unset, .unset, .unset, .unset, .unset, .unset, .unset, .unset, .unset, .unset]) X0 cx L_9 (fun _ => rfl) (fun f e_f => ?_)
  obtain ⟨nf, hf1, hf, q⟩ := own_f i0
  have ef : f = Int32.ofNat nf := e_f.trans q
  clear q e_f
  subst ef
  obtain ⟨hnn, hnc, hn0, hn1', hn192, hnl⟩ := own_nd ⟨nf, by omega⟩ hf1
  simp only at hnn hnc hn0 hn1' hn192 hnl
  refine r_iloadN X0 cx L_11 rfl ?_
  refine r_bipush (6) X0 cx L_12 rfl ?_
  refine r_iushr X0 cx L_14 ?_
  refine r_sipush (192) X0 cx L_15 rfl ?_
  refine r_irem X0 cx L_18 (by decide) ?_
  refine r_istore (fun zz => #[.val (.int i0), .val (.long i1), .second, .val (.long i2), .second, .val (.long i3), .second, .val (.long i4), .second, .val (.long i5), .second, .val (.int (Int32.ofNat nf)), .val (.int zz), .unset, .unset, .unset, .unset, .unset, .unset, .unset, .unset, .unset, .unset, .unset, .unset, .unset, .unset, .unset, .unset]) X0 cx L_19 (fun _ => rfl) (fun p e_p => ?_)
  obtain ⟨q, hq, qq⟩ := own_q i0
  have ep : p = Int32.ofNat q := e_p.trans qq
  clear qq e_p
  subst ep
  have hqq := own_p ⟨q, hq⟩
  simp only at hqq
  refine r_sipush (192) X0 cx L_21 rfl ?_
  refine r_iload X0 cx L_24 rfl ?_
  refine r_idiv X0 cx L_26 hn0 ?_
  refine r_istore (fun zz => #[.val (.int i0), .val (.long i1), .second, .val (.long i2), .second, .val (.long i3), .second, .val (.long i4), .second, .val (.long i5), .second, .val (.int (Int32.ofNat nf)), .val (.int (Int32.ofNat q)), .val (.int zz), .unset, .unset, .unset, .unset, .unset, .unset, .unset, .unset, .unset, .unset, .unset, .unset, .unset, .unset, .unset]) X0 cx L_27 (fun _ => rfl) (fun n e_n => ?_)
  have en : n = Int32.ofNat (192 / nf) := e_n.trans hnn
  clear e_n
  subst en
  have hn1 : Int32.toInt64 (Int32.ofNat (192 / nf)) ≠ 0 := by
    rw [hnl]; intro q
    have := congrArg Int64.toInt q
    rw [Int64.toInt_ofNat_of_lt (by omega)] at this
    have h0 : (0 : Int64).toInt = 0 := rfl
    omega
  obtain ⟨i, hi, qi⟩ := own_i i1 hn1' hn192
  refine r_lloadN X0 cx L_29 rfl ?_
  refine r_ldc2 X0 cx L_30 (hw.get 0 rfl) ?_
  refine r_land X0 cx L_33 ?_
  refine r_iload X0 cx L_34 rfl ?_
  refine r_i2l X0 cx L_36 ?_
  refine r_lrem X0 cx L_37 hn1 ?_
  refine r_lstore (fun zz => #[.val (.int i0), .val (.long i1), .second, .val (.long i2), .second, .val (.long i3), .second, .val (.long i4), .second, .val (.long i5), .second, .val (.int (Int32.ofNat nf)), .val (.int (Int32.ofNat q)), .val (.int (Int32.ofNat (192 / nf))), .val (.long zz), .second, .unset, .unset, .unset, .unset, .unset, .unset, .unset, .unset, .unset, .unset, .unset, .unset, .unset]) X0 cx L_38 (fun _ => rfl) (fun ix e_ix => ?_)
  rw [hnl] at e_ix
  have eix : ix = Int64.ofNat i := e_ix.trans qi
  clear e_ix qi
  subst eix
  have hif := own_if hi
  refine r_lconst (1) X0 cx L_40 rfl ?_
  refine r_iload X0 cx L_41 rfl ?_
  refine r_lshl X0 cx L_43 ?_
  refine r_lconst (1) X0 cx L_44 rfl ?_
  refine r_lsub X0 cx L_45 ?_
  refine r_lstore (fun zz => #[.val (.int i0), .val (.long i1), .second, .val (.long i2), .second, .val (.long i3), .second, .val (.long i4), .second, .val (.long i5), .second, .val (.int (Int32.ofNat nf)), .val (.int (Int32.ofNat q)), .val (.int (Int32.ofNat (192 / nf))), .val (.long (Int64.ofNat i)), .second, .val (.long zz), .second, .unset, .unset, .unset, .unset, .unset, .unset, .unset, .unset, .unset, .unset, .unset]) X0 cx L_46 (fun _ => rfl) (fun mk e_mk => ?_)
  refine r_lloadN X0 cx L_48 rfl ?_
  refine r_lload X0 cx L_49 rfl ?_
  refine r_land X0 cx L_51 ?_
  refine r_lstore (fun zz => #[.val (.int i0), .val (.long i1), .second, .val (.long i2), .second, .val (.long i3), .second, .val (.long i4), .second, .val (.long i5), .second, .val (.int (Int32.ofNat nf)), .val (.int (Int32.ofNat q)), .val (.int (Int32.ofNat (192 / nf))), .val (.long (Int64.ofNat i)), .second, .val (.long mk), .second, .val (.long zz), .second, .unset, .unset, .unset, .unset, .unset, .unset, .unset, .unset, .unset]) X0 cx L_52 (fun _ => rfl) (fun va e_va => ?_)
  have hvk : ∀ k, nf ≤ k → va.toBitVec.getLsbD k = false := by rw [e_va, e_mk]; exact own_vm i2 (by omega)
  refine r_iconst (3) X0 cx L_54 rfl ?_
  refine r_newarray X0 cx L_55 (hw.get 1 rfl) (3) 3 rfl (Nat.le_refl _) (by decide) (by decide) (by decide) (fun T1 h1 ra ea1 g_ra X1 Ex1 A1 => ?_)
  have A_ra : AJ K.Z h1 ra [0, 0, 0] := AJ.new A1
  refine r_dup X1 cx L_57 rfl ?_
  refine r_iconst (0) X1 cx L_58 rfl ?_
  refine r_lload X1 cx L_59 rfl ?_
  refine r_lastore X1 cx L_61 A_ra (0) rfl (ltb rfl) g_ra (fun T2 h2 X2 W2 N2 => ?_)
  have A_ra : AJ K.Z h2 ra [i3, 0, 0] := N2
  refine r_dup X2 cx L_62 rfl ?_
  refine r_iconst (1) X2 cx L_63 rfl ?_
  refine r_lload X2 cx L_64 rfl ?_
  refine r_lastore X2 cx L_66 A_ra (1) rfl (ltb rfl) g_ra (fun T3 h3 X3 W3 N3 => ?_)
  have A_ra : AJ K.Z h3 ra [i3, i4, 0] := N3
  refine r_dup X3 cx L_67 rfl ?_
  refine r_iconst (2) X3 cx L_68 rfl ?_
  refine r_lload X3 cx L_69 rfl ?_
  refine r_lastore X3 cx L_71 A_ra (2) rfl (ltb rfl) g_ra (fun T4 h4 X4 W4 N4 => ?_)
  have A_ra : AJ K.Z h4 ra [i3, i4, i5] := N4
  refine r_astore #[.val (.int i0), .val (.long i1), .second, .val (.long i2), .second, .val (.long i3), .second, .val (.long i4), .second, .val (.long i5), .second, .val (.int (Int32.ofNat nf)), .val (.int (Int32.ofNat q)), .val (.int (Int32.ofNat (192 / nf))), .val (.long (Int64.ofNat i)), .second, .val (.long mk), .second, .val (.long va), .second, .val (.ref ra), .unset, .unset, .unset, .unset, .unset, .unset, .unset, .unset] X4 cx L_72 rfl ?_
  refine r_iconst (3) X4 cx L_74 rfl ?_
  refine r_newarray X4 cx L_75 (hw.get 1 rfl) (3) 3 rfl (Nat.le_refl _) (by decide) (by decide) (by decide) (fun T5 h5 ws ea5 g_ws X5 Ex5 A5 => ?_)
  have ne_ws_ra : ws ≠ ra := ne_new ea5 A_ra.lt
  replace A_ra := A_ra.ext Ex5
  have A_ws : AJ K.Z h5 ws [0, 0, 0] := AJ.new A5
  refine r_dup X5 cx L_77 rfl ?_
  refine r_iconst (0) X5 cx L_78 rfl ?_
  refine r_lload X5 cx L_79 rfl ?_
  refine r_lastore X5 cx L_81 A_ws (0) rfl (ltb rfl) g_ws (fun T6 h6 X6 W6 N6 => ?_)
  replace A_ra := A_ra.other W6 ne_ws_ra.symm
  have A_ws : AJ K.Z h6 ws [i3, 0, 0] := N6
  refine r_dup X6 cx L_82 rfl ?_
  refine r_iconst (1) X6 cx L_83 rfl ?_
  refine r_lload X6 cx L_84 rfl ?_
  refine r_lastore X6 cx L_86 A_ws (1) rfl (ltb rfl) g_ws (fun T7 h7 X7 W7 N7 => ?_)
  replace A_ra := A_ra.other W7 ne_ws_ra.symm
  have A_ws : AJ K.Z h7 ws [i3, i4, 0] := N7
  refine r_dup X7 cx L_87 rfl ?_
  refine r_iconst (2) X7 cx L_88 rfl ?_
  refine r_lload X7 cx L_89 rfl ?_
  refine r_lastore X7 cx L_91 A_ws (2) rfl (ltb rfl) g_ws (fun T8 h8 X8 W8 N8 => ?_)
  replace A_ra := A_ra.other W8 ne_ws_ra.symm
  have A_ws : AJ K.Z h8 ws [i3, i4, i5] := N8
  refine r_astore #[.val (.int i0), .val (.long i1), .second, .val (.long i2), .second, .val (.long i3), .second, .val (.long i4), .second, .val (.long i5), .second, .val (.int (Int32.ofNat nf)), .val (.int (Int32.ofNat q)), .val (.int (Int32.ofNat (192 / nf))), .val (.long (Int64.ofNat i)), .second, .val (.long mk), .second, .val (.long va), .second, .val (.ref ra), .val (.ref ws), .unset, .unset, .unset, .unset, .unset, .unset, .unset] X8 cx L_92 rfl ?_
  refine r_new X8 cx L_94 (hw.get 2 rfl) (hw.get 3 rfl) (hw.get 4 rfl) (by decide) (by decide) (fun T9 h9 o ea9 g_o X9 Ex9 E_o D9 => ?_)
  have ne_o_ra : o ≠ ra := ne_new ea9 A_ra.lt
  have ne_o_ws : o ≠ ws := ne_new ea9 A_ws.lt
  replace A_ra := A_ra.ext Ex9
  replace A_ws := A_ws.ext Ex9
  have F_valueBits_o := D9 (Or.inr (hw.get 12 rfl)) (ty := .int) (by decide)
  have F_valueMask_o := D9 (Or.inr (hw.get 14 rfl)) (ty := .long) (by decide)
  have F_length_o := D9 (Or.inr (hw.get 16 rfl)) (ty := .long) (by decide)
  have F_words_o := D9 (Or.inr (hw.get 18 rfl)) (ty := .array .long) (by decide)
  refine r_dup X9 cx L_97 rfl ?_
  refine r_iload X9 cx L_98 rfl ?_
  refine r_iload X9 cx L_100 rfl ?_
  refine r_i2l X9 cx L_102 ?_
  refine r_aload X9 cx L_103 rfl ?_
  refine r_special [(.int (Int32.ofNat nf)), (.long (Int32.toInt64 (Int32.ofNat (192 / nf)))), (.ref ws)] [(.ref o)] X9 cx L_105 rfl (hw.get 5 rfl) (hw.get 6 rfl) (hw.get 4 rfl) (hw.get 7 rfl) (by decide) (con_P59m2 K.l K.Z a0 hw o (Int32.ofNat nf) (Int32.toInt64 (Int32.ofNat (192 / nf))) ws h9 K.n0 X9.ge [i3, i4, i5] E_o F_valueBits_o F_valueMask_o F_length_o F_words_o A_ws ne_o_ws g_o) (lenOf pd_0 rfl) rfl rfl (by decide) (leb rfl) (by decide) (by decide) (fun T10 h10 v10 X10 q10 => ?_) (fun _ _ q => q.1)
  obtain ⟨z10, rfl, B, Ki⟩ := q10
  replace A_ra := A_ra.keep Ki (ninS ne_o_ra.symm nin0)
  refine r_astore #[.val (.int i0), .val (.long i1), .second, .val (.long i2), .second, .val (.long i3), .second, .val (.long i4), .second, .val (.long i5), .second, .val (.int (Int32.ofNat nf)), .val (.int (Int32.ofNat q)), .val (.int (Int32.ofNat (192 / nf))), .val (.long (Int64.ofNat i)), .second, .val (.long mk), .second, .val (.long va), .second, .val (.ref ra), .val (.ref ws), .val (.ref o), .unset, .unset, .unset, .unset, .unset, .unset] X10 cx L_108 rfl ?_
  refine r_aload X10 cx L_110 rfl ?_
  refine r_lload X10 cx L_112 rfl ?_
  refine r_lload X10 cx L_114 rfl ?_
  refine r_virtual [(.long (Int64.ofNat i)), (.long va)] [] X10 cx L_116 B.1 (hw.get 19 rfl) (hw.get 20 rfl) (hw.get 22 rfl) (hw.get 21 rfl) (hw.get 4 rfl) (hw.get 23 rfl) (by decide) (con_P59m10 K.l K.Z a0 hw o (Int64.ofNat i) va h10 K.n0 X10.ge ws _ [i3, i4, i5] i nf B rfl hf1 hf hif rfl g_ws) (lenOf pd_1 rfl) rfl rfl (by decide) (leb rfl) (by decide) (by decide) (fun T11 h11 v11 X11 q11 => ?_) (fun _ _ q => q.1)
  obtain ⟨z11, rfl, B, Ks⟩ := q11
  replace A_ra := A_ra.keep Ks (ninS ne_ws_ra.symm nin0)
  refine r_aload X11 cx L_119 rfl ?_
  refine r_virtual [] [] X11 cx L_121 B.1 (hw.get 25 rfl) (hw.get 26 rfl) (hw.get 28 rfl) (hw.get 27 rfl) (hw.get 4 rfl) (hw.get 29 rfl) (by decide) (con_P59m6 K.l K.Z a0 hw o h11 K.n0 X11.ge ws _ _ _ _ B) (lenOf pd_2 rfl) rfl rfl (by decide) (leb rfl) (by decide) (by decide) (fun T12 h12 v12 X12 q12 => ?_) (fun _ _ q => Nat.le_of_eq (congrArg Array.size q.1))
  obtain ⟨rfl, rfl⟩ := q12
  obtain ⟨E_o, F_vb, F_vm, F_ln, F_ws, A_ws, -⟩ := B
  refine r_astore #[.val (.int i0), .val (.long i1), .second, .val (.long i2), .second, .val (.long i3), .second, .val (.long i4), .second, .val (.long i5), .second, .val (.int (Int32.ofNat nf)), .val (.int (Int32.ofNat q)), .val (.int (Int32.ofNat (192 / nf))), .val (.long (Int64.ofNat i)), .second, .val (.long mk), .second, .val (.long va), .second, .val (.ref ra), .val (.ref ws), .val (.ref o), .val (.ref ws), .unset, .unset, .unset, .unset, .unset] X12 cx L_124 rfl ?_
  refine r_lload X12 cx L_126 rfl ?_
  refine r_iload X12 cx L_128 rfl ?_
  refine r_i2l X12 cx L_130 ?_
  refine r_lmul X12 cx L_131 ?_
  refine r_lstore (fun zz => #[.val (.int i0), .val (.long i1), .second, .val (.long i2), .second, .val (.long i3), .second, .val (.long i4), .second, .val (.long i5), .second, .val (.int (Int32.ofNat nf)), .val (.int (Int32.ofNat q)), .val (.int (Int32.ofNat (192 / nf))), .val (.long (Int64.ofNat i)), .second, .val (.long mk), .second, .val (.long va), .second, .val (.ref ra), .val (.ref ws), .val (.ref o), .val (.ref ws), .val (.long zz), .second, .unset, .unset, .unset]) X12 cx L_132 (fun _ => rfl) (fun stt e_stt => ?_)
  have est : stt = Int64.ofNat (i * nf) := by rw [e_stt, hnc, Int64.ofNat_mul]
  clear e_stt
  subst est
  have hx2 : (own_x2 [i3, i4, i5] (i * nf) nf va).length = 3 := by
    unfold own_x2 own_x1
    split <;> simp
  have hlaw := own_law [i3, i4, i5] (p := i * nf) (f := nf) (q := q) va rfl hf1 (by omega) hif hq hvk
  have j1 : Int32.toInt64 (Int32.ofNat q) < Int64.ofNat (i * nf) ↔ q < i * nf := by rw [hqq.2.2.2.2.1]; exact own_ltn (by omega) (by omega)
  have j2 : Int32.toInt64 (Int32.ofNat q) < Int64.ofNat (i * nf) + Int32.toInt64 (Int32.ofNat nf) ↔ q < i * nf + nf := by rw [hqq.2.2.2.2.1, hnc, ← Int64.ofNat_add]; exact own_ltn (by omega) (by omega)
  have kj161 : (∀ v : Int32, ((v = 1 ∧ i * nf ≤ q ∧ q < i * nf + nf) ∨ (v = 0 ∧ ¬ (i * nf ≤ q ∧ q < i * nf + nf))) → Run K (fun v _ => v = some (.int 1)) T12 (mkF K.m 161 #[.val (.int i0), .val (.long i1), .second, .val (.long i2), .second, .val (.long i3), .second, .val (.long i4), .second, .val (.long i5), .second, .val (.int (Int32.ofNat nf)), .val (.int (Int32.ofNat q)), .val (.int (Int32.ofNat (192 / nf))), .val (.long (Int64.ofNat i)), .second, .val (.long mk), .second, .val (.long va), .second, .val (.ref ra), .val (.ref ws), .val (.ref o), .val (.ref ws), .val (.long (Int64.ofNat (i * nf))), .second, .unset, .unset, .unset] (.int v :: []))) → Run K (fun v _ => v = some (.int 1)) T12 (mkF K.m 134 #[.val (.int i0), .val (.long i1), .second, .val (.long i2), .second, .val (.long i3), .second, .val (.long i4), .second, .val (.long i5), .second, .val (.int (Int32.ofNat nf)), .val (.int (Int32.ofNat q)), .val (.int (Int32.ofNat (192 / nf))), .val (.long (Int64.ofNat i)), .second, .val (.long mk), .second, .val (.long va), .second, .val (.ref ra), .val (.ref ws), .val (.ref o), .val (.ref ws), .val (.long (Int64.ofNat (i * nf))), .second, .unset, .unset, .unset] []) := by
    intro kj
    refine r_iload X12 cx L_134 rfl ?_
    refine r_i2l X12 cx L_136 ?_
    refine r_lload X12 cx L_137 rfl ?_
    refine r_lcmp X12 cx L_139 ?_
    refine r_lcmplt X12 cx L_140 (fun c140 => ?_) (fun c140 => ?_)
    · refine r_iconst (0) X12 cx L_160 rfl ?_
      exact kj _ (Or.inr ⟨rfl, fun r => by rw [j1] at c140; omega⟩)
    · refine r_iload X12 cx L_143 rfl ?_
      refine r_i2l X12 cx L_145 ?_
      refine r_lload X12 cx L_146 rfl ?_
      refine r_iload X12 cx L_148 rfl ?_
      refine r_i2l X12 cx L_150 ?_
      refine r_ladd X12 cx L_151 ?_
      refine r_lcmp X12 cx L_152 ?_
      refine r_lcmpge X12 cx L_153 (fun c153 => ?_) (fun c153 => ?_)
      · refine r_iconst (0) X12 cx L_160 rfl ?_
        exact kj _ (Or.inr ⟨rfl, fun r => c153 (j2.mpr r.2)⟩)
      · refine r_iconst (1) X12 cx L_156 rfl ?_
        refine r_goto X12 cx L_157 ?_
        exact kj _ (Or.inl ⟨rfl, by rw [j1] at c140; omega, j2.mp c153⟩)
  refine kj161 (fun ins p_ins => ?_)
  refine r_istore (fun zz => #[.val (.int i0), .val (.long i1), .second, .val (.long i2), .second, .val (.long i3), .second, .val (.long i4), .second, .val (.long i5), .second, .val (.int (Int32.ofNat nf)), .val (.int (Int32.ofNat q)), .val (.int (Int32.ofNat (192 / nf))), .val (.long (Int64.ofNat i)), .second, .val (.long mk), .second, .val (.long va), .second, .val (.ref ra), .val (.ref ws), .val (.ref o), .val (.ref ws), .val (.long (Int64.ofNat (i * nf))), .second, .val (.int zz), .unset, .unset]) X12 cx L_161 (fun _ => rfl) (fun ins2 e_ins2 => ?_)
  refine r_iload X12 cx L_163 rfl ?_
  refine r_ifeq X12 cx L_165 (fun c165 => ?_) (fun c165 => ?_)
  · have hout : ¬ (i * nf ≤ q ∧ q < i * nf + nf) := by
      rcases p_ins with ⟨h0, _⟩ | ⟨_, h1⟩
      · exact absurd (h0.symm.trans (e_ins2.symm.trans c165)) (by decide)
      · exact h1
    refine r_aload X12 cx L_195 rfl ?_
    refine r_iload X12 cx L_197 rfl ?_
    refine r_static [(.ref ra), (.int (Int32.ofNat q))] [] X12 cx L_199 (hw.get 30 rfl) (hw.get 31 rfl) (hw.get 32 rfl) (hw.get 33 rfl) (by decide) (con_H2 K.l K.Z a0 hw ra (Int32.ofNat q) h11 K.n0 X12.ge [i3, i4, i5] q A_ra rfl rfl hq) (lenOf pd_3 rfl) rfl rfl (by decide) (leb rfl) (by decide) (by decide) (fun T63 h63 v63 X63 q63 => ?_) (fun _ _ q => Nat.le_of_eq (congrArg Array.size q.1))
    obtain ⟨rfl, rfl⟩ := q63
    refine r_istore (fun zz => #[.val (.int i0), .val (.long i1), .second, .val (.long i2), .second, .val (.long i3), .second, .val (.long i4), .second, .val (.long i5), .second, .val (.int (Int32.ofNat nf)), .val (.int (Int32.ofNat q)), .val (.int (Int32.ofNat (192 / nf))), .val (.long (Int64.ofNat i)), .second, .val (.long mk), .second, .val (.long va), .second, .val (.ref ra), .val (.ref ws), .val (.ref o), .val (.ref ws), .val (.long (Int64.ofNat (i * nf))), .second, .val (.int ins2), .val (.int zz), .unset]) X63 cx L_202 (fun _ => rfl) (fun r1 e_r1 => ?_)
    refine r_aload X63 cx L_204 rfl ?_
    refine r_iload X63 cx L_206 rfl ?_
    refine r_static [(.ref ws), (.int (Int32.ofNat q))] [] X63 cx L_208 (hw.get 30 rfl) (hw.get 31 rfl) (hw.get 32 rfl) (hw.get 33 rfl) (by decide) (con_H2 K.l K.Z a0 hw ws (Int32.ofNat q) h11 K.n0 X63.ge (own_x2 [i3, i4, i5] (i * nf) nf va) q A_ws hx2 rfl hq) (lenOf pd_3 rfl) rfl rfl (by decide) (leb rfl) (by decide) (by decide) (fun T64 h64 v64 X64 q64 => ?_) (fun _ _ q => Nat.le_of_eq (congrArg Array.size q.1))
    obtain ⟨rfl, rfl⟩ := q64
    refine r_istore (fun zz => #[.val (.int i0), .val (.long i1), .second, .val (.long i2), .second, .val (.long i3), .second, .val (.long i4), .second, .val (.long i5), .second, .val (.int (Int32.ofNat nf)), .val (.int (Int32.ofNat q)), .val (.int (Int32.ofNat (192 / nf))), .val (.long (Int64.ofNat i)), .second, .val (.long mk), .second, .val (.long va), .second, .val (.ref ra), .val (.ref ws), .val (.ref o), .val (.ref ws), .val (.long (Int64.ofNat (i * nf))), .second, .val (.int ins2), .val (.int r1), .val (.int zz)]) X64 cx L_211 (fun _ => rfl) (fun r2 e_r2 => ?_)
    refine r_iload X64 cx L_213 rfl ?_
    refine r_iload X64 cx L_215 rfl ?_
    refine r_icmpne X64 cx L_217 (fun c217 => ?_) (fun c217 => ?_)
    · exfalso
      apply c217
      rw [if_neg hout] at hlaw
      rw [e_r1, e_r2, hlaw]
    · refine r_iconst (1) X64 cx L_220 rfl ?_
      refine r_goto X64 cx L_221 ?_
      refine r_zreturn X64 cx L_225 (by decide) (by decide) ?_
      rfl
  · have hin : i * nf ≤ q ∧ q < i * nf + nf := by
      rcases p_ins with ⟨_, h1⟩ | ⟨h0, _⟩
      · exact h1
      · exact absurd (e_ins2.trans h0) c165
    have esf : Int64.toInt32 (Int32.toInt64 (Int32.ofNat q) - Int64.ofNat (i * nf)) = Int32.ofNat (q - i * nf) := by
      rw [hqq.2.2.2.2.1, own_subn hin.1]
      exact (own_p ⟨q - i * nf, by omega⟩).2.2.2.2.2
    refine r_lload X12 cx L_168 rfl ?_
    refine r_iload X12 cx L_170 rfl ?_
    refine r_i2l X12 cx L_172 ?_
    refine r_lload X12 cx L_173 rfl ?_
    refine r_lsub X12 cx L_175 ?_
    refine r_l2i X12 cx L_176 ?_
    refine r_lushr X12 cx L_177 ?_
    refine r_lconst (1) X12 cx L_178 rfl ?_
    refine r_land X12 cx L_179 ?_
    refine r_lconst (0) X12 cx L_180 rfl ?_
    refine r_lcmp X12 cx L_181 ?_
    refine r_lcmpeq X12 cx L_182 (fun c182 => ?_) (fun c182 => ?_)
    · refine r_iconst (0) X12 cx L_189 rfl ?_
      refine r_istore (fun zz => #[.val (.int i0), .val (.long i1), .second, .val (.long i2), .second, .val (.long i3), .second, .val (.long i4), .second, .val (.long i5), .second, .val (.int (Int32.ofNat nf)), .val (.int (Int32.ofNat q)), .val (.int (Int32.ofNat (192 / nf))), .val (.long (Int64.ofNat i)), .second, .val (.long mk), .second, .val (.long va), .second, .val (.ref ra), .val (.ref ws), .val (.ref o), .val (.ref ws), .val (.long (Int64.ofNat (i * nf))), .second, .val (.int ins2), .val (.int zz), .unset]) X12 cx L_190 (fun _ => rfl) (fun r3 e_r3 => ?_)
      subst e_r3
      refine r_goto X12 cx L_192 ?_
      refine r_aload X12 cx L_204 rfl ?_
      refine r_iload X12 cx L_206 rfl ?_
      refine r_static [(.ref ws), (.int (Int32.ofNat q))] [] X12 cx L_208 (hw.get 30 rfl) (hw.get 31 rfl) (hw.get 32 rfl) (hw.get 33 rfl) (by decide) (con_H2 K.l K.Z a0 hw ws (Int32.ofNat q) h11 K.n0 X12.ge (own_x2 [i3, i4, i5] (i * nf) nf va) q A_ws hx2 rfl hq) (lenOf pd_3 rfl) rfl rfl (by decide) (leb rfl) (by decide) (by decide) (fun T63 h63 v63 X63 q63 => ?_) (fun _ _ q => Nat.le_of_eq (congrArg Array.size q.1))
      obtain ⟨rfl, rfl⟩ := q63
      refine r_istore (fun zz => #[.val (.int i0), .val (.long i1), .second, .val (.long i2), .second, .val (.long i3), .second, .val (.long i4), .second, .val (.long i5), .second, .val (.int (Int32.ofNat nf)), .val (.int (Int32.ofNat q)), .val (.int (Int32.ofNat (192 / nf))), .val (.long (Int64.ofNat i)), .second, .val (.long mk), .second, .val (.long va), .second, .val (.ref ra), .val (.ref ws), .val (.ref o), .val (.ref ws), .val (.long (Int64.ofNat (i * nf))), .second, .val (.int ins2), .val (.int (0 : Int32)), .val (.int zz)]) X63 cx L_211 (fun _ => rfl) (fun r2 e_r2 => ?_)
      refine r_iload X63 cx L_213 rfl ?_
      refine r_iload X63 cx L_215 rfl ?_
      refine r_icmpne X63 cx L_217 (fun c217 => ?_) (fun c217 => ?_)
      · exfalso
        apply c217
        rw [esf, own_b1 _ (by omega)] at c182
        rw [if_pos hin] at hlaw
        rw [e_r2]
        rw [hlaw]
        first | (rw [if_pos (by simpa using c182)]; done) | (rw [if_neg (by simp [c182])]; done)
      · refine r_iconst (1) X63 cx L_220 rfl ?_
        refine r_goto X63 cx L_221 ?_
        refine r_zreturn X63 cx L_225 (by decide) (by decide) ?_
        rfl
    · refine r_iconst (1) X12 cx L_185 rfl ?_
      refine r_goto X12 cx L_186 ?_
      refine r_istore (fun zz => #[.val (.int i0), .val (.long i1), .second, .val (.long i2), .second, .val (.long i3), .second, .val (.long i4), .second, .val (.long i5), .second, .val (.int (Int32.ofNat nf)), .val (.int (Int32.ofNat q)), .val (.int (Int32.ofNat (192 / nf))), .val (.long (Int64.ofNat i)), .second, .val (.long mk), .second, .val (.long va), .second, .val (.ref ra), .val (.ref ws), .val (.ref o), .val (.ref ws), .val (.long (Int64.ofNat (i * nf))), .second, .val (.int ins2), .val (.int zz), .unset]) X12 cx L_190 (fun _ => rfl) (fun r3 e_r3 => ?_)
      subst e_r3
      refine r_goto X12 cx L_192 ?_
      refine r_aload X12 cx L_204 rfl ?_
      refine r_iload X12 cx L_206 rfl ?_
      refine r_static [(.ref ws), (.int (Int32.ofNat q))] [] X12 cx L_208 (hw.get 30 rfl) (hw.get 31 rfl) (hw.get 32 rfl) (hw.get 33 rfl) (by decide) (con_H2 K.l K.Z a0 hw ws (Int32.ofNat q) h11 K.n0 X12.ge (own_x2 [i3, i4, i5] (i * nf) nf va) q A_ws hx2 rfl hq) (lenOf pd_3 rfl) rfl rfl (by decide) (leb rfl) (by decide) (by decide) (fun T63 h63 v63 X63 q63 => ?_) (fun _ _ q => Nat.le_of_eq (congrArg Array.size q.1))
      obtain ⟨rfl, rfl⟩ := q63
      refine r_istore (fun zz => #[.val (.int i0), .val (.long i1), .second, .val (.long i2), .second, .val (.long i3), .second, .val (.long i4), .second, .val (.long i5), .second, .val (.int (Int32.ofNat nf)), .val (.int (Int32.ofNat q)), .val (.int (Int32.ofNat (192 / nf))), .val (.long (Int64.ofNat i)), .second, .val (.long mk), .second, .val (.long va), .second, .val (.ref ra), .val (.ref ws), .val (.ref o), .val (.ref ws), .val (.long (Int64.ofNat (i * nf))), .second, .val (.int ins2), .val (.int (1 : Int32)), .val (.int zz)]) X63 cx L_211 (fun _ => rfl) (fun r2 e_r2 => ?_)
      refine r_iload X63 cx L_213 rfl ?_
      refine r_iload X63 cx L_215 rfl ?_
      refine r_icmpne X63 cx L_217 (fun c217 => ?_) (fun c217 => ?_)
      · exfalso
        apply c217
        rw [esf, own_b1 _ (by omega)] at c182
        rw [if_pos hin] at hlaw
        rw [e_r2]
        rw [hlaw]
        first | (rw [if_pos (by simpa using c182)]; done) | (rw [if_neg (by simp [c182])]; done)
      · refine r_iconst (1) X63 cx L_220 rfl ?_
        refine r_goto X63 cx L_221 ?_
        refine r_zreturn X63 cx L_225 (by decide) (by decide) ?_
        rfl
set_option maxRecDepth 65536 in
set_option maxHeartbeats 40000000 in
theorem comes_1 {Post : Tables → Env → Array Value → State → Outcome → State → Prop} (hpost : ∀ tb e args s v u, (limb_1_1.after args s (.returned v) u = true ∧ limb_1_2.after args s (.returned v) u = true ∧ True) → FrameEnd s (.returned v) u (Jvm.fieldLocs frame_1_writes args s ++ Jvm.arrayLocs frame_1_arrays args s ++ Jvm.staticLocs frame_1_statics s) 16 128 → Post tb e args s (.returned v) u) :
    ArmFor flags0 classFile x code maxLocals ret World_1 tables_1 room_1 Calls_1 rest_1 Pre_1 Post := by
  intro l hfl _ _ p e ha hc hk s m args below hf hA hF happ hP
  obtain ⟨hcalls, hrest, hpre⟩ := hP
  obtain ⟨-, -, -, hnamed, -, -, -, hat⟩ := (Spec.applies_iff hf).mp happ
  obtain ⟨hg, hn⟩ := and_e (Cond.before_iff.mp (show (Jvm.Cond.and given_1 narrow_1).before args s = true from hpre))
  obtain ⟨gc, r0⟩ := and_e hg
  obtain ⟨g0, r1⟩ := and_e r0
  obtain ⟨g1, r2⟩ := and_e r1
  obtain ⟨g2, r3⟩ := and_e r2
  obtain ⟨g3, r4⟩ := and_e r3
  obtain ⟨g4, r5⟩ := and_e r4
  obtain ⟨w0, w1, w2, w3, w4, w5, rfl⟩ : ∃ w0 w1 w2 w3 w4 w5 : Value, args = #[w0, w1, w2, w3, w4, w5] := by
    have hs : args.size = 6 := by simpa [Cond.value, given_1] using gc
    obtain ⟨L⟩ := args
    match L, hs with
    | [w0, w1, w2, w3, w4, w5], _ => exact ⟨w0, w1, w2, w3, w4, w5, rfl⟩
  have hw : Tb tables_1 #[w0, w1, w2, w3, w4, w5] s := fun d (hd : d ∈ tables_1) => atoms_spec (ws := Jvm.Cond.code x code maxLocals ret :: tables_1) hat d (List.mem_cons_of_mem _ hd)
  obtain ⟨i0, ei0⟩ := is_v g0
  obtain rfl : w0 = (.int i0) := Option.some.inj ei0
  obtain ⟨i1, ei1⟩ := isL_v g1
  obtain rfl : w1 = (.long i1) := Option.some.inj ei1
  obtain ⟨i2, ei2⟩ := isL_v g2
  obtain rfl : w2 = (.long i2) := Option.some.inj ei2
  obtain ⟨i3, ei3⟩ := isL_v g3
  obtain rfl : w3 = (.long i3) := Option.some.inj ei3
  obtain ⟨i4, ei4⟩ := isL_v g4
  obtain rfl : w4 = (.long i4) := Option.some.inj ei4
  obtain ⟨i5, ei5⟩ := isL_v r5
  obtain rfl : w5 = (.long i5) := Option.some.inj ei5
  obtain ⟨n, o, h1, h2, h3, _, L, rfl, ⟨rfl, N⟩, hq⟩ := con_L l s _ hw i0 i1 i2 i3 i4 i5 s.heap s.heap.size (Nat.le_refl _) tables_1 p e ha hc hk s m _ below hf ((Spec.applies_iff_loose hf).mp happ).1 ⟨rfl, State.Warmed39.refl s, rfl⟩ trivial
  refine ⟨n, _, h1, h2, h3, hpost _ _ _ _ _ _ ⟨Cond.after_iff.mpr rfl, Cond.after_iff.mpr (eq_i res_at (Term.int_eval (1)) rfl), trivial⟩ ⟨hq.1, hq.2.1, (hq.2.2.sift fun y hy => Or.inr (N y hy)).mono (by decide) (by decide)⟩⟩
theorem main_1_1 : Claimed_1_1 := comes_1 fun _ _ _ _ _ _ h hF => ⟨h.1, hF⟩
theorem main_1_2 : Claimed_1_2 := comes_1 fun _ _ _ _ _ _ h hF => ⟨h.2.1, hF⟩
end Jvm.Pilot.@@N@@
namespace Jvm.Pilot.@@N@@
open Jvm Jvm.ClassFile Sem Op Lib Jvm.Free Jvm.Stand Jvm.Pilot.@@N@@.Jvm.D
/-! MADE BY PROGRAM (witnessworld.py) out of the Statement's table words and the real class files: 11 classes; the members and pool entries that the words name. The judged class is class 1, her method 2. -/
namespace start1
open Jvm.ClassFile
def u (s : String) : CpInfo := .utf8 (stringToUtf16 s)
/-- a pool by its gaps: so many unusable entries, then the entry; so many at the end -/
def gap : Nat → List CpInfo → List CpInfo
  | 0, r => r
  | n + 1, r => .unusable :: gap n r
def poolList (es : List (Nat × CpInfo)) (last : Nat) : List CpInfo := es.foldr (fun e r => gap e.1 (e.2 :: r)) (gap last [])
def pool (es : List (Nat × CpInfo)) (last : Nat) : Array CpInfo := ⟨poolList es last⟩
def fileOf (pool : Array CpInfo) (this : Nat) (attrs : Array Attribute := #[]) (ms : Array MethodInfo := #[]) (fl : Nat := 33) (sup : Nat := 0) (ifs : Array Nat := #[]) (fds : Array FieldInfo := #[]) : ClassFile where
  minorVersion := 0
  majorVersion := 65
  constantPool := pool
  accessFlags := fl
  thisClass := this
  superClass := sup
  interfaces := ifs
  fields := fds
  methods := ms
  attributes := attrs
def plain (name : String) (sup : Option ClassId) : Class where
  name := name
  kind := .ordinary
  loader := none
  accessFlags := 33
  super := sup
  interfaces := #[]
  cf := none
  fields := #[]
  methods := #[]
  instanceTypes := #[]
  staticTypes := #[]
  resolved := #[]
  callSites := []
  init := .initialized
  statics := none
  mirror := none

def pool0 : Array CpInfo := pool [(5, u "<init>"), (0, u "()V"), (1, .class_ 10), (1, u "java/lang/Object")] 113

def k0c0 : Code := { maxStack := 0, maxLocals := 1, code := object_method_1_code, exceptionTable := #[], attributes := #[] }
def k0m0 : Method := { name := "<init>", desc := "()V", sig := { parameters := [], returnType := none }, accessFlags := 1, code := some k0c0 }
/-- java/lang/Object -/
def k0 : Class := { plain "java/lang/Object" none with
  accessFlags := 33
  interfaces := #[]
  cf := some (fileOf pool0 8 #[] #[{ accessFlags := 1, nameIndex := 5, descriptorIndex := 6, attributes := #[] }] 33 0 #[] #[])
  fields := #[]
  methods := #[k0m0]
  instanceTypes := #[]
  staticTypes := #[]
  resolved := Array.replicate 124 none
  statics := none }

def pool1 : Array CpInfo := pool [(2, .class_ 4), (1, u "java/lang/Object"), (0, u "<init>"), (0, u "()V"), (2, .long 9223372036854775807), (1, .class_ 12), (0, u "com/example/epsilon_filter/epsilonfilter/filters/PackedArray"), (0, .methodref 11 14), (0, .nameAndType 5 15), (0, u "(IJ[J)V"), (0, .methodref 11 17), (0, .nameAndType 18 19), (0, u "setLong"), (0, u "(JJ)V"), (0, .methodref 11 21), (0, .nameAndType 22 23), (0, u "getWords"), (0, u "()[J"), (0, .methodref 25 26), (0, .class_ 27), (0, .nameAndType 28 29), (0, u "com/example/epsilon_filter/epsilonfilter/filters/PackedArraySetLongPinLaw"), (0, u "bitOf"), (0, u "([JI)Z"), (3, u "law"), (0, u "(IJJJJJ)Z")] 4

def k1m0 : Method := { name := "<init>", desc := "()V", sig := { parameters := [], returnType := none }, accessFlags := 2, code := none }
def k1c1 : Code := { maxStack := 4, maxLocals := 2, code := method_2_code, exceptionTable := #[], attributes := #[] }
def k1m1 : Method := { name := "bitOf", desc := "([JI)Z", sig := { parameters := [(.array .long), .int], returnType := some .boolean }, accessFlags := 10, code := some k1c1 }
def k1c2 : Code := { maxStack := 6, maxLocals := 29, code := code, exceptionTable := #[], attributes := #[] }
def k1m2 : Method := { name := "law", desc := "(IJJJJJ)Z", sig := { parameters := [.int, .long, .long, .long, .long, .long], returnType := some .boolean }, accessFlags := 9, code := some k1c2 }
/-- com/example/epsilon_filter/epsilonfilter/filters/PackedArraySetLongPinLaw -/
def k1 : Class := { plain "com/example/epsilon_filter/epsilonfilter/filters/PackedArraySetLongPinLaw" (some 0) with
  accessFlags := 49
  interfaces := #[]
  cf := some (fileOf pool1 25 #[] #[{ accessFlags := 2, nameIndex := 5, descriptorIndex := 6, attributes := #[] }, { accessFlags := 10, nameIndex := 28, descriptorIndex := 29, attributes := #[] }, { accessFlags := 9, nameIndex := 33, descriptorIndex := 34, attributes := #[] }] 49 2 #[] #[])
  fields := #[]
  methods := #[k1m0, k1m1, k1m2]
  instanceTypes := #[]
  staticTypes := #[]
  resolved := Array.replicate 39 none
  statics := none }

def pool2 : Array CpInfo := pool [(2, .class_ 4), (1, u "com/example/epsilon_filter/epsilonfilter/filters/PackedArray"), (4, u "<init>"), (0, u "(IJ[J)V"), (0, .methodref 12 13), (0, .class_ 14), (0, .nameAndType 9 15), (0, u "java/lang/Object"), (0, u "()V"), (0, .fieldref 2 17), (0, .nameAndType 18 19), (0, u "valueBits"), (0, u "I"), (0, .fieldref 2 21), (0, .nameAndType 22 23), (0, u "valueMask"), (0, u "J"), (0, .fieldref 2 25), (0, .nameAndType 26 23), (0, u "length"), (0, .fieldref 2 28), (0, .nameAndType 29 30), (0, u "words"), (0, u "[J"), (14, u "setLong"), (0, u "(JJ)V"), (0, .long 18446744073709551615), (12, u "getWords"), (0, u "()[J")] 8

def k2c0 : Code := { maxStack := 5, maxLocals := 5, code := prog_59_method_2_code, exceptionTable := #[], attributes := #[] }
def k2m0 : Method := { name := "<init>", desc := "(IJ[J)V", sig := { parameters := [.int, .long, (.array .long)], returnType := none }, accessFlags := 0, code := some k2c0 }
def k2c1 : Code := { maxStack := 1, maxLocals := 1, code := prog_59_method_6_code, exceptionTable := #[], attributes := #[] }
def k2m1 : Method := { name := "getWords", desc := "()[J", sig := { parameters := [], returnType := some (.array .long) }, accessFlags := 0, code := some k2c1 }
def k2c2 : Code := { maxStack := 8, maxLocals := 10, code := prog_59_method_10_code, exceptionTable := #[], attributes := #[] }
def k2m2 : Method := { name := "setLong", desc := "(JJ)V", sig := { parameters := [.long, .long], returnType := none }, accessFlags := 0, code := some k2c2 }
/-- com/example/epsilon_filter/epsilonfilter/filters/PackedArray -/
def k2 : Class := { plain "com/example/epsilon_filter/epsilonfilter/filters/PackedArray" (some 0) with
  accessFlags := 48
  interfaces := #[]
  cf := some (fileOf pool2 2 #[] #[{ accessFlags := 0, nameIndex := 9, descriptorIndex := 10, attributes := #[] }, { accessFlags := 0, nameIndex := 60, descriptorIndex := 61, attributes := #[] }, { accessFlags := 0, nameIndex := 45, descriptorIndex := 46, attributes := #[] }] 48 12 #[] #[{ accessFlags := 18, nameIndex := 18, descriptorIndex := 19, attributes := #[] }, { accessFlags := 18, nameIndex := 22, descriptorIndex := 23, attributes := #[] }, { accessFlags := 18, nameIndex := 26, descriptorIndex := 23, attributes := #[] }, { accessFlags := 18, nameIndex := 29, descriptorIndex := 30, attributes := #[] }])
  fields := #[{ name := "valueBits", type := .int, accessFlags := 18, slot := 0, constantValue := 0 }, { name := "valueMask", type := .long, accessFlags := 18, slot := 1, constantValue := 0 }, { name := "length", type := .long, accessFlags := 18, slot := 2, constantValue := 0 }, { name := "words", type := (.array .long), accessFlags := 18, slot := 3, constantValue := 0 }]
  methods := #[k2m0, k2m1, k2m2]
  instanceTypes := #[.int, .long, .long, (.array .long)]
  staticTypes := #[]
  resolved := Array.replicate 70 none
  statics := none }

def pool3 : Array CpInfo := pool [(1, u "java/lang/Cloneable"), (0, .class_ 1), (0, u "java/lang/Object"), (0, .class_ 3)] 3

/-- java/lang/Cloneable -/
def k3 : Class := { plain "java/lang/Cloneable" (some 0) with
  accessFlags := 1537
  interfaces := #[]
  cf := some (fileOf pool3 2 #[] #[] 1537 4 #[] #[])
  fields := #[]
  methods := #[]
  instanceTypes := #[]
  staticTypes := #[]
  resolved := Array.replicate 8 none
  statics := none }

def pool4 : Array CpInfo := pool [(1, u "java/io/Serializable"), (0, .class_ 1), (0, u "java/lang/Object"), (0, .class_ 3)] 3

/-- java/io/Serializable -/
def k4 : Class := { plain "java/io/Serializable" (some 0) with
  accessFlags := 1537
  interfaces := #[]
  cf := some (fileOf pool4 2 #[] #[] 1537 4 #[] #[])
  fields := #[]
  methods := #[]
  instanceTypes := #[]
  staticTypes := #[]
  resolved := Array.replicate 8 none
  statics := none }

/-- the primitive byte -/
def k5 : Class := { plain "byte" none with kind := .primitive 'B', accessFlags := 0x411 }
/-- [B -/
def k6 : Class := { plain "[B" (some 0) with kind := .array 5 .byte, interfaces := #[3, 4], accessFlags := 1041 }

/-- the primitive int -/
def k7 : Class := { plain "int" none with kind := .primitive 'I', accessFlags := 0x411 }
/-- [I -/
def k8 : Class := { plain "[I" (some 0) with kind := .array 7 .int, interfaces := #[3, 4], accessFlags := 1041 }

/-- the primitive long -/
def k9 : Class := { plain "long" none with kind := .primitive 'J', accessFlags := 0x411 }
/-- [J -/
def k10 : Class := { plain "[J" (some 0) with kind := .array 9 .long, interfaces := #[3, 4], accessFlags := 1041 }

def heap : Heap := #[]
def classes : Array Class := #[k0, k1, k2, k3, k4, k5, k6, k7, k8, k9, k10]
def interned : List (Array UInt16 × Addr) := []
def slotsUsed : Nat := 0
def theMethod : MethodId := ⟨1, 2⟩
def args0 : Array Value := #[.int 5, .long 6, .long 7, .long 8, .long 9, .long 10]
def aboutOver (below : List Frame) : State where
  vm := { classes := classes, interned := interned.toArray }
  heap := heap
  slotsUsed := slotsUsed
  threads := #[{ frames := .invoking theMethod args0 :: below }]
def below0 : List Frame := [.native { method := ⟨0, 0⟩, args := #[] }]
def about1 : State := aboutOver below0
def p0 : Program := .bare "" "" ""
def e0 : Env := launch0.env 0 0 0
theorem w_frames : about1.frames = Frame.invoking theMethod args0 :: below0 := rfl
set_option maxRecDepth 65536 in
theorem w_args : argsFit about1.vm theMethod args0 = true := by decide +kernel
set_option maxRecDepth 65536 in
theorem w_heap : heapFits about1 = true := by decide +kernel
set_option maxRecDepth 65536 in
theorem w_runnable : about1.curStatus? = some .runnable := by decide +kernel
set_option maxRecDepth 65536 in
theorem w_alone : about1.alone = true := by decide +kernel
set_option maxRecDepth 65536 in
theorem w_named : about1.methodNamed? x = some theMethod := by decide +kernel
set_option maxRecDepth 65536 in
theorem w_hears : about1.hears theMethod below0 = true := by decide +kernel
set_option maxRecDepth 65536 in
theorem w_ripe : about1.ripe theMethod args0 below0 = true := by decide +kernel
theorem w_running : about1.status = .running := rfl
set_option maxRecDepth 65536 in
theorem w_room : about1.hasRoom e0.platform room_1 = true :=
  launch0.hasRoom_least _ room_1 (by decide +kernel) (by decide +kernel) (by decide +kernel) (by decide +kernel) (by decide +kernel) (by decide +kernel)
theorem allAtoms_all (ts : List Jvm.Cond) (a : Array Jvm.Value) (st : Jvm.State) : (allAtoms ts).before a st = ts.all (fun c => c.before a st) := by
  induction ts with
  | nil => rfl
  | cons c t ih =>
    show (Jvm.Cond.and c (allAtoms t)).before a st = _
    rw [Jvm.Cond.before_and, ih, List.all_cons]
def words1 : List Jvm.Cond := Jvm.Cond.code x code maxLocals ret :: tables_1
/-- a 'code' word, met by the world's own term for the bytes: nothing is compared byte by byte -/
theorem code_word {y : MethodName} {bytes : ByteArray} {mx : Nat} {rt : Option FieldType} {a : Array Value} {s : State} {m : MethodId} {meth : Method} {c : Code} (h1 : s.methodNamed? y = some m) (h2 : s.vm.method? m = some meth) (h3 : meth.code = some c) (h4 : c.code = bytes)
    (h5 : (c.maxLocals == mx && c.exceptionTable.isEmpty && decide (c.maxStack ≤ mostOperands) && decide (meth.sig.returnType = rt) && !meth.locks && decide (parseMethodDescriptor y.desc = some meth.sig)) = true) : (Jvm.Cond.code y bytes mx rt).before a s = true := by
  simp only [Bool.and_eq_true, beq_iff_eq, Bool.not_eq_true', decide_eq_true_eq] at h5
  obtain ⟨⟨⟨⟨⟨g1, g2⟩, g3⟩, g4⟩, g5⟩, g6⟩ := h5
  simp [Cond.before, Cond.holds, Cond.value, h1, h2, h3, h4, g1, g2, g3, g4, g5, g6]
def isCode : Jvm.Cond → Bool
  | .code _ _ _ _ => true
  | _ => false
theorem all_split {L : List Jvm.Cond} {P : Jvm.Cond → Bool} (h1 : L.all (fun c => isCode c || P c) = true) (h2 : ∀ c ∈ L.filter isCode, P c = true) : L.all P = true := by
  refine List.all_eq_true.mpr fun c hc => ?_
  have h := List.all_eq_true.mp h1 c hc
  rcases Bool.eq_false_or_eq_true (isCode c) with hi | hi
  · exact h2 c (List.mem_filter.mpr ⟨hc, hi⟩)
  · simpa [hi] using h
set_option maxRecDepth 65536 in
theorem w_c0 : (Jvm.Cond.code x code maxLocals ret).before args0 about1 = true := code_word (m := ⟨1, 2⟩) (meth := k1m2) (c := k1c2) (by decide +kernel) rfl rfl rfl (by decide +kernel)
set_option maxRecDepth 65536 in
theorem w_c1 : (Jvm.Cond.code ({ cls := "com/example/epsilon_filter/epsilonfilter/filters/PackedArray", name := "<init>", desc := "(IJ[J)V" } : Jvm.MethodName) prog_59_method_2_code (5 : Nat) (Option.none : Option Jvm.ClassFile.FieldType)).before args0 about1 = true := code_word (m := ⟨2, 0⟩) (meth := k2m0) (c := k2c0) (by decide +kernel) rfl rfl rfl (by decide +kernel)
set_option maxRecDepth 65536 in
theorem w_c2 : (Jvm.Cond.code ({ cls := "java/lang/Object", name := "<init>", desc := "()V" } : Jvm.MethodName) object_method_1_code (1 : Nat) (Option.none : Option Jvm.ClassFile.FieldType)).before args0 about1 = true := code_word (m := ⟨0, 0⟩) (meth := k0m0) (c := k0c0) (by decide +kernel) rfl rfl rfl (by decide +kernel)
set_option maxRecDepth 65536 in
theorem w_c3 : (Jvm.Cond.code ({ cls := "com/example/epsilon_filter/epsilonfilter/filters/PackedArray", name := "setLong", desc := "(JJ)V" } : Jvm.MethodName) prog_59_method_10_code (10 : Nat) (Option.none : Option Jvm.ClassFile.FieldType)).before args0 about1 = true := code_word (m := ⟨2, 2⟩) (meth := k2m2) (c := k2c2) (by decide +kernel) rfl rfl rfl (by decide +kernel)
set_option maxRecDepth 65536 in
theorem w_c4 : (Jvm.Cond.code ({ cls := "com/example/epsilon_filter/epsilonfilter/filters/PackedArray", name := "getWords", desc := "()[J" } : Jvm.MethodName) prog_59_method_6_code (1 : Nat) (Option.some (Jvm.ClassFile.FieldType.array Jvm.ClassFile.FieldType.long))).before args0 about1 = true := code_word (m := ⟨2, 1⟩) (meth := k2m1) (c := k2c1) (by decide +kernel) rfl rfl rfl (by decide +kernel)
set_option maxRecDepth 65536 in
theorem w_c5 : (Jvm.Cond.code ({ cls := "com/example/epsilon_filter/epsilonfilter/filters/PackedArraySetLongPinLaw", name := "bitOf", desc := "([JI)Z" } : Jvm.MethodName) method_2_code (2 : Nat) (Option.some Jvm.ClassFile.FieldType.boolean)).before args0 about1 = true := code_word (m := ⟨1, 1⟩) (meth := k1m1) (c := k1c1) (by decide +kernel) rfl rfl rfl (by decide +kernel)
def codes1 : List Jvm.Cond := [Jvm.Cond.code x code maxLocals ret, Jvm.Cond.code ({ cls := "com/example/epsilon_filter/epsilonfilter/filters/PackedArray", name := "<init>", desc := "(IJ[J)V" } : Jvm.MethodName) prog_59_method_2_code (5 : Nat) (Option.none : Option Jvm.ClassFile.FieldType), Jvm.Cond.code ({ cls := "java/lang/Object", name := "<init>", desc := "()V" } : Jvm.MethodName) object_method_1_code (1 : Nat) (Option.none : Option Jvm.ClassFile.FieldType), Jvm.Cond.code ({ cls := "com/example/epsilon_filter/epsilonfilter/filters/PackedArray", name := "setLong", desc := "(JJ)V" } : Jvm.MethodName) prog_59_method_10_code (10 : Nat) (Option.none : Option Jvm.ClassFile.FieldType), Jvm.Cond.code ({ cls := "com/example/epsilon_filter/epsilonfilter/filters/PackedArray", name := "getWords", desc := "()[J" } : Jvm.MethodName) prog_59_method_6_code (1 : Nat) (Option.some (Jvm.ClassFile.FieldType.array Jvm.ClassFile.FieldType.long)), Jvm.Cond.code ({ cls := "com/example/epsilon_filter/epsilonfilter/filters/PackedArraySetLongPinLaw", name := "bitOf", desc := "([JI)Z" } : Jvm.MethodName) method_2_code (2 : Nat) (Option.some Jvm.ClassFile.FieldType.boolean)]
set_option maxRecDepth 65536 in
theorem codes_eq : words1.filter isCode = codes1 := rfl
theorem w_codes : ∀ c ∈ words1.filter isCode, c.before args0 about1 = true := by
  rw [codes_eq]
  intro c hc
  simp only [codes1, List.mem_cons, List.not_mem_nil, or_false] at hc
  rcases hc with rfl | rfl | rfl | rfl | rfl | rfl
  · exact w_c0
  · exact w_c1
  · exact w_c2
  · exact w_c3
  · exact w_c4
  · exact w_c5
set_option maxRecDepth 65536 in
theorem w_t1 : (words1.take 24).all (fun c => isCode c || c.before args0 about1) = true := by decide +kernel
set_option maxRecDepth 65536 in
theorem w_t2 : (words1.drop 24).all (fun c => isCode c || c.before args0 about1) = true := by decide +kernel
theorem w_tables : (allAtoms (Jvm.Cond.code x code maxLocals ret :: tables_1)).before args0 about1 = true := by
  rw [allAtoms_all]
  show words1.all (fun c => c.before args0 about1) = true
  refine all_split ?_ w_codes
  rw [← List.take_append_drop 24 words1, List.all_append, w_t1, w_t2]
  rfl
set_option maxRecDepth 65536 in
theorem w_case : (Jvm.Cond.and given_1 narrow_1).before args0 about1 = true := by decide +kernel
theorem w_applies : (headSpec (Jvm.Cond.code x code maxLocals ret :: tables_1) room_1).applies x e0.platform about1 = true :=
  (Spec.applies_iff w_frames).mpr ⟨w_running, w_runnable, w_alone, w_named, w_hears, w_ripe, w_room, w_tables⟩
theorem atStart : AtStart classFile x code maxLocals ret World_1 tables_1 room_1 Calls_1 rest_1 Pre_1 launch0 p0 e0 about1 theMethod args0 below0 :=
  ⟨lists_1, trivial, launch0.admits_env _ _ _, launch0.least_env, fairChoices_fair.cas, fairChoices_fair.clock, w_frames, w_args, w_heap, w_applies, trivial, trivial, w_case⟩
end start1
theorem witness_1 : WitnessClaimed_1 := ⟨start1.p0, start1.e0, start1.about1, start1.theMethod, start1.args0, start1.below0, start1.atStart⟩
end Jvm.Pilot.@@N@@

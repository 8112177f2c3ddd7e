import JvmDerived
import JvmDerived.Pilot.@@N@@Statement
import JvmDerived.Pilot.@@N@@Code
set_option linter.unusedVariables false
set_option linter.unusedSimpArgs false
namespace Jvm.RoadKit
open Sem ClassFile Op Lib Jvm.Stand Jvm.Free Jvm.LawKit
section New
variable {p : Program} {l : Launch} {e : Env} {R : Room} {s : State} {m : MethodId} {args : Array Value} {below : List Frame} {meth : Method} {c : Code} {T : State} {locs : List Loc} {cells slots : Nat}
theorem retI (X : Stand p l e R s m args below meth c T locs cells slots) (hx : p.tables.exec = Jvm.exec) {pc : Nat} {Ls : Array Slot} {z : Int32} {rest : List Value} (hret : meth.sig.returnType = some .int) (hd : decode c.code pc = .ok (.ireturn, 1)) {fs : List Frame}
    (hl : ∀ (f : JFrame) (acts : List Action), f.method = m → f.locked = none → f.entered = [] → (doReturn e (T.setTop f) acts (some (.int z))).1 = T.setFrames fs) : Steps p.tables e below (T.setTop (mkF m pc Ls (.int z :: rest))) (T.setFrames fs) := by
  have hm' : T.vm.method? m = some meth := X.method'
  have hn : narrow .int (.int z) = .int z := rfl
  show Steps p.tables e below (T.setTop { method := m, pc := pc, locals := Ls, stack := _ :: rest, locked := none }) _
  jvm_step X.here [X.here.top, hx, hd, hm', hret, hn]
  first | (intro acts; rw [hl _ acts rfl rfl rfl]) | rw [hl _ _ rfl rfl rfl]
  exact Steps.refl _
end New
end Jvm.RoadKit
namespace Jvm.Own
open Sem ClassFile Op Lib Jvm.Stand Jvm.Free Jvm.LawKit Jvm.RoadKit
/-- the constants of one body's walk -/
abbrev KT := Program × Launch × Env × Room × State × MethodId × Array Value × List Frame × Method × Code × State × Nat
abbrev KT.p (K : KT) : Program := K.1
abbrev KT.l (K : KT) : Launch := K.2.1
abbrev KT.e (K : KT) : Env := K.2.2.1
abbrev KT.R (K : KT) : Room := K.2.2.2.1
abbrev KT.s (K : KT) : State := K.2.2.2.2.1
abbrev KT.m (K : KT) : MethodId := K.2.2.2.2.2.1
abbrev KT.args (K : KT) : Array Value := K.2.2.2.2.2.2.1
abbrev KT.below (K : KT) : List Frame := K.2.2.2.2.2.2.2.1
abbrev KT.meth (K : KT) : Method := K.2.2.2.2.2.2.2.2.1
abbrev KT.c (K : KT) : Code := K.2.2.2.2.2.2.2.2.2.1
abbrev KT.Z (K : KT) : State := K.2.2.2.2.2.2.2.2.2.2.1
abbrev KT.n0 (K : KT) : Nat := K.2.2.2.2.2.2.2.2.2.2.2
/-- what is known of the body -/
def Cx (K : KT) (y : MethodName) (bytes : ByteArray) (mx : Nat) (rt : Option FieldType) (R : Room) : Prop :=
  K.p.tables.exec = Jvm.exec ∧ K.Z.Warmed39 K.s.vm ∧ K.c.code = bytes ∧ K.c.maxLocals = mx ∧ K.s.vm.findClass y.cls = some K.m.cls ∧ K.meth.sig.returnType = rt ∧ K.meth.locks = false ∧ K.R = R ∧ K.meth.name = y.name
/-- where the walk stands: heap h, so many cells and slots made; nothing old written -/
def Sd (K : KT) (T : State) (h : Heap) (cl sl : Nat) : Prop := ∃ locs, Stand K.p K.l K.e K.R K.s K.m K.args K.below K.meth K.c T locs cl sl ∧ Fr K.n0 locs ∧ K.n0 ≤ h.size ∧ T.heap = h
/-- from here the body comes to its end, and Q holds of what it returns and of the heap then -/
def Run (K : KT) (Q : Option Value → Heap → Prop) (T : State) (g : JFrame) : Prop :=
  ∃ s₂ v L, Steps K.p.tables K.e K.below (T.setTop g) s₂ ∧ s₂.status = .running ∧ Ended s₂ K.below (.returned v) ∧ Q v s₂.heap ∧ Fr K.n0 L ∧ FrameEnd K.s (.returned v) s₂ L K.R.cells K.R.slots
theorem Run.st {K : KT} {Q : Option Value → Heap → Prop} {T T' : State} {g g' : JFrame} (st : ∀ t, Steps K.p.tables K.e K.below (T'.setTop g') t → Steps K.p.tables K.e K.below (T.setTop g) t) (k : Run K Q T' g') : Run K Q T g := by
  obtain ⟨s₂, v, L, h1, h2⟩ := k
  exact ⟨s₂, v, L, st _ h1, h2⟩
theorem Run.cast {K : KT} {Q : Option Value → Heap → Prop} {T : State} {g g' : JFrame} (q : g = g') (k : Run K Q T g') : Run K Q T g := q ▸ k
theorem Run.mono {K : KT} {Q Q' : Option Value → Heap → Prop} {T : State} {g : JFrame} (k : Run K Q T g) (q : ∀ v h, Q v h → Q' v h) : Run K Q' T g := by
  obtain ⟨s₂, v, L, h1, h2, h3, h4, h5⟩ := k
  exact ⟨s₂, v, L, h1, h2, h3, q _ _ h4, h5⟩
/-- the words of a sheet -/
def Tb (ws : List Jvm.Cond) (a0 : Array Value) (Z : State) : Prop := ∀ d ∈ ws, d.before a0 Z = true
theorem Tb.get {ws : List Jvm.Cond} {a0 : Array Value} {Z : State} (hw : Tb ws a0 Z) (i : Nat) {d : Jvm.Cond} (h : ws[i]? = some d) : d.before a0 Z = true := hw d (List.mem_of_getElem? h)
/-- an instruction, its length, the pc behind -/
def Dc (bytes : ByteArray) (pc : Nat) (i : Instr) (n pc' : Nat) : Prop := decode bytes pc = .ok (i, n) ∧ pc + n = pc'
/-- a branch: the pc behind, the pc that it goes to -/
def Db (bytes : ByteArray) (pc : Nat) (i : Instr) (o : Int) (pc' pt : Nat) : Prop := decode bytes pc = .ok (i, 3) ∧ pc + 3 = pc' ∧ 0 ≤ (pc : Int) + o ∧ ((pc : Int) + o).toNat = pt
theorem ne_new {a b : Addr} {h : Heap} (ea : a = h.size) (q : b < h.size) : a ≠ b := by subst ea; exact Nat.ne_of_gt q
theorem fr_new {h0 h : Heap} {a : Addr} (ea : a = h.size) (q : h0.size ≤ h.size) : h0.size ≤ a := ea ▸ q
theorem leb {a b : Nat} (h : Nat.ble a b = true) : a ≤ b := Nat.le_of_ble_eq_true h
theorem ltb {a b : Nat} (h : Nat.ble (a + 1) b = true) : a < b := Nat.le_of_ble_eq_true h
section Rules
variable {K : KT} {Q : Option Value → Heap → Prop} {T : State} {h : Heap} {cl sl : Nat} {y : MethodName} {bytes : ByteArray} {mx : Nat} {rt : Option FieldType} {R : Room} {pc pc' pt : Nat} {L : Array Slot} {S : List Value}
theorem r_top {v v' : Int32} (q : v = v') (k : Run K Q T (mkF K.m pc L (.int v' :: S))) : Run K Q T (mkF K.m pc L (.int v :: S)) := q ▸ k
theorem r_topL {v v' : Int64} (q : v = v') (k : Run K Q T (mkF K.m pc L (.long v' :: S))) : Run K Q T (mkF K.m pc L (.long v :: S)) := q ▸ k
theorem Sd.ge (X : Sd K T h cl sl) : K.n0 ≤ h.size := by obtain ⟨_, _, _, q, _⟩ := X; exact q
theorem r_iloadN {i : Fin 4} {v : Int32} (X : Sd K T h cl sl) (cx : Cx K y bytes mx rt R) (hd : Dc bytes pc (.iload_n i) 1 pc') (hl : L[i.val]? = some (.val (.int v))) (k : Run K Q T (mkF K.m pc' L (.int v :: S))) : Run K Q T (mkF K.m pc L (S)) := by
  obtain ⟨locs, X0, -⟩ := X; obtain ⟨hx, -, hby, -⟩ := cx; obtain ⟨d, rfl⟩ := hd
  exact Run.st (fun t q => XS.iloadN X0.here hx rfl (hb hby d) hl q) k
theorem r_iload {i : Nat} {v : Int32} (X : Sd K T h cl sl) (cx : Cx K y bytes mx rt R) (hd : Dc bytes pc (.iload i) 2 pc') (hl : L[i]? = some (.val (.int v))) (k : Run K Q T (mkF K.m pc' L (.int v :: S))) : Run K Q T (mkF K.m pc L (S)) := by
  obtain ⟨locs, X0, -⟩ := X; obtain ⟨hx, -, hby, -⟩ := cx; obtain ⟨d, rfl⟩ := hd
  exact Run.st (fun t q => XS.iload X0.here hx rfl (hb hby d) hl q) k
theorem r_lloadN {i : Fin 4} {v : Int64} (X : Sd K T h cl sl) (cx : Cx K y bytes mx rt R) (hd : Dc bytes pc (.lload_n i) 1 pc') (hl : L[i.val]? = some (.val (.long v))) (k : Run K Q T (mkF K.m pc' L (.long v :: S))) : Run K Q T (mkF K.m pc L (S)) := by
  obtain ⟨locs, X0, -⟩ := X; obtain ⟨hx, -, hby, -⟩ := cx; obtain ⟨d, rfl⟩ := hd
  exact Run.st (fun t q => XT.lloadN X0.here hx rfl (hb hby d) hl q) k
theorem r_lload {i : Nat} {v : Int64} (X : Sd K T h cl sl) (cx : Cx K y bytes mx rt R) (hd : Dc bytes pc (.lload i) 2 pc') (hl : L[i]? = some (.val (.long v))) (k : Run K Q T (mkF K.m pc' L (.long v :: S))) : Run K Q T (mkF K.m pc L (S)) := by
  obtain ⟨locs, X0, -⟩ := X; obtain ⟨hx, -, hby, -⟩ := cx; obtain ⟨d, rfl⟩ := hd
  exact Run.st (fun t q => XT.lload X0.here hx rfl (hb hby d) hl q) k
theorem r_aloadN {i : Fin 4} {v : Addr} (X : Sd K T h cl sl) (cx : Cx K y bytes mx rt R) (hd : Dc bytes pc (.aload_n i) 1 pc') (hl : L[i.val]? = some (.val (.ref v))) (k : Run K Q T (mkF K.m pc' L (.ref v :: S))) : Run K Q T (mkF K.m pc L (S)) := by
  obtain ⟨locs, X0, -⟩ := X; obtain ⟨hx, -, hby, -⟩ := cx; obtain ⟨d, rfl⟩ := hd
  exact Run.st (fun t q => XS.aloadN X0.here hx rfl (hb hby d) hl rfl q) k
theorem r_aload {i : Nat} {v : Addr} (X : Sd K T h cl sl) (cx : Cx K y bytes mx rt R) (hd : Dc bytes pc (.aload i) 2 pc') (hl : L[i]? = some (.val (.ref v))) (k : Run K Q T (mkF K.m pc' L (.ref v :: S))) : Run K Q T (mkF K.m pc L (S)) := by
  obtain ⟨locs, X0, -⟩ := X; obtain ⟨hx, -, hby, -⟩ := cx; obtain ⟨d, rfl⟩ := hd
  exact Run.st (fun t q => XS.aload X0.here hx rfl (hb hby d) hl rfl q) k
theorem r_iconst {i : Int} (v : Int32) (X : Sd K T h cl sl) (cx : Cx K y bytes mx rt R) (hd : Dc bytes pc (.iconst i) 1 pc') (hv : Int32.ofInt i = v) (k : Run K Q T (mkF K.m pc' L (.int v :: S))) : Run K Q T (mkF K.m pc L (S)) := by
  obtain ⟨locs, X0, -⟩ := X; obtain ⟨hx, -, hby, -⟩ := cx; obtain ⟨d, rfl⟩ := hd
  exact Run.st (fun t q => XT.iconstV X0.here hx rfl v (hb hby d) hv q) k
theorem r_bipush {i : Int} (v : Int32) (X : Sd K T h cl sl) (cx : Cx K y bytes mx rt R) (hd : Dc bytes pc (.bipush i) 2 pc') (hv : (Int8.ofInt i).toInt32 = v) (k : Run K Q T (mkF K.m pc' L (.int v :: S))) : Run K Q T (mkF K.m pc L (S)) := by
  obtain ⟨locs, X0, -⟩ := X; obtain ⟨hx, -, hby, -⟩ := cx; obtain ⟨d, rfl⟩ := hd
  exact Run.st (fun t q => XT.bipushV X0.here hx rfl v (hb hby d) hv q) k
theorem r_sipush {i : Int} (v : Int32) (X : Sd K T h cl sl) (cx : Cx K y bytes mx rt R) (hd : Dc bytes pc (.sipush i) 3 pc') (hv : (Int16.ofInt i).toInt32 = v) (k : Run K Q T (mkF K.m pc' L (.int v :: S))) : Run K Q T (mkF K.m pc L (S)) := by
  obtain ⟨locs, X0, -⟩ := X; obtain ⟨hx, -, hby, -⟩ := cx; obtain ⟨d, rfl⟩ := hd
  exact Run.st (fun t q => XT.sipushV X0.here hx rfl v (hb hby d) hv q) k
theorem r_lconst {i : Fin 2} (v : Int64) (X : Sd K T h cl sl) (cx : Cx K y bytes mx rt R) (hd : Dc bytes pc (.lconst i) 1 pc') (hv : Int64.ofNat i = v) (k : Run K Q T (mkF K.m pc' L (.long v :: S))) : Run K Q T (mkF K.m pc L (S)) := by
  obtain ⟨locs, X0, -⟩ := X; obtain ⟨hx, -, hby, -⟩ := cx; obtain ⟨d, rfl⟩ := hd
  exact Run.st (fun t q => XT.lconstV X0.here hx rfl v (hb hby d) hv q) k
theorem r_iadd {a b : Int32} (X : Sd K T h cl sl) (cx : Cx K y bytes mx rt R) (hd : Dc bytes pc .iadd 1 pc') (k : Run K Q T (mkF K.m pc' L (.int (a + b) :: S))) : Run K Q T (mkF K.m pc L (.int b :: .int a :: S)) := by
  obtain ⟨locs, X0, -⟩ := X; obtain ⟨hx, -, hby, -⟩ := cx; obtain ⟨d, rfl⟩ := hd
  exact Run.st (fun t q => XS.iadd X0.here hx rfl (hb hby d) rfl q) k
theorem r_isub {a b : Int32} (X : Sd K T h cl sl) (cx : Cx K y bytes mx rt R) (hd : Dc bytes pc .isub 1 pc') (k : Run K Q T (mkF K.m pc' L (.int (a - b) :: S))) : Run K Q T (mkF K.m pc L (.int b :: .int a :: S)) := by
  obtain ⟨locs, X0, -⟩ := X; obtain ⟨hx, -, hby, -⟩ := cx; obtain ⟨d, rfl⟩ := hd
  exact Run.st (fun t q => XS.isub X0.here hx rfl (hb hby d) rfl q) k
theorem r_imul {a b : Int32} (X : Sd K T h cl sl) (cx : Cx K y bytes mx rt R) (hd : Dc bytes pc .imul 1 pc') (k : Run K Q T (mkF K.m pc' L (.int (a * b) :: S))) : Run K Q T (mkF K.m pc L (.int b :: .int a :: S)) := by
  obtain ⟨locs, X0, -⟩ := X; obtain ⟨hx, -, hby, -⟩ := cx; obtain ⟨d, rfl⟩ := hd
  exact Run.st (fun t q => XS.imul X0.here hx rfl (hb hby d) rfl q) k
theorem r_iand {a b : Int32} (X : Sd K T h cl sl) (cx : Cx K y bytes mx rt R) (hd : Dc bytes pc .iand 1 pc') (k : Run K Q T (mkF K.m pc' L (.int (a &&& b) :: S))) : Run K Q T (mkF K.m pc L (.int b :: .int a :: S)) := by
  obtain ⟨locs, X0, -⟩ := X; obtain ⟨hx, -, hby, -⟩ := cx; obtain ⟨d, rfl⟩ := hd
  exact Run.st (fun t q => XS.iand X0.here hx rfl (hb hby d) rfl q) k
theorem r_ior {a b : Int32} (X : Sd K T h cl sl) (cx : Cx K y bytes mx rt R) (hd : Dc bytes pc .ior 1 pc') (k : Run K Q T (mkF K.m pc' L (.int (a ||| b) :: S))) : Run K Q T (mkF K.m pc L (.int b :: .int a :: S)) := by
  obtain ⟨locs, X0, -⟩ := X; obtain ⟨hx, -, hby, -⟩ := cx; obtain ⟨d, rfl⟩ := hd
  exact Run.st (fun t q => XT.ior X0.here hx rfl (hb hby d) rfl q) k
theorem r_ixor {a b : Int32} (X : Sd K T h cl sl) (cx : Cx K y bytes mx rt R) (hd : Dc bytes pc .ixor 1 pc') (k : Run K Q T (mkF K.m pc' L (.int (a ^^^ b) :: S))) : Run K Q T (mkF K.m pc L (.int b :: .int a :: S)) := by
  obtain ⟨locs, X0, -⟩ := X; obtain ⟨hx, -, hby, -⟩ := cx; obtain ⟨d, rfl⟩ := hd
  exact Run.st (fun t q => XT.ixor X0.here hx rfl (hb hby d) rfl q) k
theorem r_ishl {a b : Int32} (X : Sd K T h cl sl) (cx : Cx K y bytes mx rt R) (hd : Dc bytes pc .ishl 1 pc') (k : Run K Q T (mkF K.m pc' L (.int (a <<< (b &&& 31)) :: S))) : Run K Q T (mkF K.m pc L (.int b :: .int a :: S)) := by
  obtain ⟨locs, X0, -⟩ := X; obtain ⟨hx, -, hby, -⟩ := cx; obtain ⟨d, rfl⟩ := hd
  exact Run.st (fun t q => XT.ishl X0.here hx rfl (hb hby d) rfl q) k
theorem r_ishr {a b : Int32} (X : Sd K T h cl sl) (cx : Cx K y bytes mx rt R) (hd : Dc bytes pc .ishr 1 pc') (k : Run K Q T (mkF K.m pc' L (.int (a >>> (b &&& 31)) :: S))) : Run K Q T (mkF K.m pc L (.int b :: .int a :: S)) := by
  obtain ⟨locs, X0, -⟩ := X; obtain ⟨hx, -, hby, -⟩ := cx; obtain ⟨d, rfl⟩ := hd
  exact Run.st (fun t q => XT.ishr X0.here hx rfl (hb hby d) rfl q) k
theorem r_iushr {a b : Int32} (X : Sd K T h cl sl) (cx : Cx K y bytes mx rt R) (hd : Dc bytes pc .iushr 1 pc') (k : Run K Q T (mkF K.m pc' L (.int (XT.ushr a b) :: S))) : Run K Q T (mkF K.m pc L (.int b :: .int a :: S)) := by
  obtain ⟨locs, X0, -⟩ := X; obtain ⟨hx, -, hby, -⟩ := cx; obtain ⟨d, rfl⟩ := hd
  exact Run.st (fun t q => XT.iushr X0.here hx rfl (hb hby d) rfl q) k
theorem r_idiv {a b : Int32} (X : Sd K T h cl sl) (cx : Cx K y bytes mx rt R) (hd : Dc bytes pc .idiv 1 pc') (hne : b ≠ 0) (k : Run K Q T (mkF K.m pc' L (.int (a / b) :: S))) : Run K Q T (mkF K.m pc L (.int b :: .int a :: S)) := by
  obtain ⟨locs, X0, -⟩ := X; obtain ⟨hx, -, hby, -⟩ := cx; obtain ⟨d, rfl⟩ := hd
  exact Run.st (fun t q => XS.idiv X0.here hx rfl (hb hby d) rfl hne q) k
theorem r_irem {a b : Int32} (X : Sd K T h cl sl) (cx : Cx K y bytes mx rt R) (hd : Dc bytes pc .irem 1 pc') (hne : b ≠ 0) (k : Run K Q T (mkF K.m pc' L (.int (a - (a / b) * b) :: S))) : Run K Q T (mkF K.m pc L (.int b :: .int a :: S)) := by
  obtain ⟨locs, X0, -⟩ := X; obtain ⟨hx, -, hby, -⟩ := cx; obtain ⟨d, rfl⟩ := hd
  exact Run.st (fun t q => XS.irem X0.here hx rfl (hb hby d) rfl hne q) k
theorem r_ladd {a b : Int64} (X : Sd K T h cl sl) (cx : Cx K y bytes mx rt R) (hd : Dc bytes pc .ladd 1 pc') (k : Run K Q T (mkF K.m pc' L (.long (a + b) :: S))) : Run K Q T (mkF K.m pc L (.long b :: .long a :: S)) := by
  obtain ⟨locs, X0, -⟩ := X; obtain ⟨hx, -, hby, -⟩ := cx; obtain ⟨d, rfl⟩ := hd
  exact Run.st (fun t q => XT.ladd X0.here hx rfl (hb hby d) rfl q) k
theorem r_lsub {a b : Int64} (X : Sd K T h cl sl) (cx : Cx K y bytes mx rt R) (hd : Dc bytes pc .lsub 1 pc') (k : Run K Q T (mkF K.m pc' L (.long (a - b) :: S))) : Run K Q T (mkF K.m pc L (.long b :: .long a :: S)) := by
  obtain ⟨locs, X0, -⟩ := X; obtain ⟨hx, -, hby, -⟩ := cx; obtain ⟨d, rfl⟩ := hd
  exact Run.st (fun t q => XT.lsub X0.here hx rfl (hb hby d) rfl q) k
theorem r_lmul {a b : Int64} (X : Sd K T h cl sl) (cx : Cx K y bytes mx rt R) (hd : Dc bytes pc .lmul 1 pc') (k : Run K Q T (mkF K.m pc' L (.long (a * b) :: S))) : Run K Q T (mkF K.m pc L (.long b :: .long a :: S)) := by
  obtain ⟨locs, X0, -⟩ := X; obtain ⟨hx, -, hby, -⟩ := cx; obtain ⟨d, rfl⟩ := hd
  exact Run.st (fun t q => XT.lmul X0.here hx rfl (hb hby d) rfl q) k
theorem r_land {a b : Int64} (X : Sd K T h cl sl) (cx : Cx K y bytes mx rt R) (hd : Dc bytes pc .land 1 pc') (k : Run K Q T (mkF K.m pc' L (.long (a &&& b) :: S))) : Run K Q T (mkF K.m pc L (.long b :: .long a :: S)) := by
  obtain ⟨locs, X0, -⟩ := X; obtain ⟨hx, -, hby, -⟩ := cx; obtain ⟨d, rfl⟩ := hd
  exact Run.st (fun t q => XT.land X0.here hx rfl (hb hby d) rfl q) k
theorem r_lor {a b : Int64} (X : Sd K T h cl sl) (cx : Cx K y bytes mx rt R) (hd : Dc bytes pc .lor 1 pc') (k : Run K Q T (mkF K.m pc' L (.long (a ||| b) :: S))) : Run K Q T (mkF K.m pc L (.long b :: .long a :: S)) := by
  obtain ⟨locs, X0, -⟩ := X; obtain ⟨hx, -, hby, -⟩ := cx; obtain ⟨d, rfl⟩ := hd
  exact Run.st (fun t q => XT.lor X0.here hx rfl (hb hby d) rfl q) k
theorem r_lxor {a b : Int64} (X : Sd K T h cl sl) (cx : Cx K y bytes mx rt R) (hd : Dc bytes pc .lxor 1 pc') (k : Run K Q T (mkF K.m pc' L (.long (a ^^^ b) :: S))) : Run K Q T (mkF K.m pc L (.long b :: .long a :: S)) := by
  obtain ⟨locs, X0, -⟩ := X; obtain ⟨hx, -, hby, -⟩ := cx; obtain ⟨d, rfl⟩ := hd
  exact Run.st (fun t q => XT.lxor X0.here hx rfl (hb hby d) rfl q) k
theorem r_ldiv {a b : Int64} (X : Sd K T h cl sl) (cx : Cx K y bytes mx rt R) (hd : Dc bytes pc .ldiv 1 pc') (hne : b ≠ 0) (k : Run K Q T (mkF K.m pc' L (.long (a / b) :: S))) : Run K Q T (mkF K.m pc L (.long b :: .long a :: S)) := by
  obtain ⟨locs, X0, -⟩ := X; obtain ⟨hx, -, hby, -⟩ := cx; obtain ⟨d, rfl⟩ := hd
  exact Run.st (fun t q => XT.ldiv X0.here hx rfl (hb hby d) rfl hne q) k
theorem r_lrem {a b : Int64} (X : Sd K T h cl sl) (cx : Cx K y bytes mx rt R) (hd : Dc bytes pc .lrem 1 pc') (hne : b ≠ 0) (k : Run K Q T (mkF K.m pc' L (.long (a - (a / b) * b) :: S))) : Run K Q T (mkF K.m pc L (.long b :: .long a :: S)) := by
  obtain ⟨locs, X0, -⟩ := X; obtain ⟨hx, -, hby, -⟩ := cx; obtain ⟨d, rfl⟩ := hd
  exact Run.st (fun t q => XT.lrem X0.here hx rfl (hb hby d) rfl hne q) k
theorem r_lshl {a : Int64} {b : Int32} (X : Sd K T h cl sl) (cx : Cx K y bytes mx rt R) (hd : Dc bytes pc .lshl 1 pc') (k : Run K Q T (mkF K.m pc' L (.long (a <<< (b.toInt64 &&& 63)) :: S))) : Run K Q T (mkF K.m pc L (.int b :: .long a :: S)) := by
  obtain ⟨locs, X0, -⟩ := X; obtain ⟨hx, -, hby, -⟩ := cx; obtain ⟨d, rfl⟩ := hd
  exact Run.st (fun t q => XT.lshl X0.here hx rfl (hb hby d) rfl q) k
theorem r_lshr {a : Int64} {b : Int32} (X : Sd K T h cl sl) (cx : Cx K y bytes mx rt R) (hd : Dc bytes pc .lshr 1 pc') (k : Run K Q T (mkF K.m pc' L (.long (a >>> (b.toInt64 &&& 63)) :: S))) : Run K Q T (mkF K.m pc L (.int b :: .long a :: S)) := by
  obtain ⟨locs, X0, -⟩ := X; obtain ⟨hx, -, hby, -⟩ := cx; obtain ⟨d, rfl⟩ := hd
  exact Run.st (fun t q => XT.lshr X0.here hx rfl (hb hby d) rfl q) k
theorem r_lushr {a : Int64} {b : Int32} (X : Sd K T h cl sl) (cx : Cx K y bytes mx rt R) (hd : Dc bytes pc .lushr 1 pc') (k : Run K Q T (mkF K.m pc' L (.long (XT.ushrL a b) :: S))) : Run K Q T (mkF K.m pc L (.int b :: .long a :: S)) := by
  obtain ⟨locs, X0, -⟩ := X; obtain ⟨hx, -, hby, -⟩ := cx; obtain ⟨d, rfl⟩ := hd
  exact Run.st (fun t q => XT.lushr X0.here hx rfl (hb hby d) rfl q) k
theorem r_ineg {a : Int32} (X : Sd K T h cl sl) (cx : Cx K y bytes mx rt R) (hd : Dc bytes pc .ineg 1 pc') (k : Run K Q T (mkF K.m pc' L (.int (-a) :: S))) : Run K Q T (mkF K.m pc L (.int a :: S)) := by
  obtain ⟨locs, X0, -⟩ := X; obtain ⟨hx, -, hby, -⟩ := cx; obtain ⟨d, rfl⟩ := hd
  exact Run.st (fun t q => XS.ineg X0.here hx rfl (hb hby d) rfl q) k
theorem r_i2l {a : Int32} (X : Sd K T h cl sl) (cx : Cx K y bytes mx rt R) (hd : Dc bytes pc .i2l 1 pc') (k : Run K Q T (mkF K.m pc' L (.long a.toInt64 :: S))) : Run K Q T (mkF K.m pc L (.int a :: S)) := by
  obtain ⟨locs, X0, -⟩ := X; obtain ⟨hx, -, hby, -⟩ := cx; obtain ⟨d, rfl⟩ := hd
  exact Run.st (fun t q => XT.i2l X0.here hx rfl (hb hby d) rfl q) k
theorem r_l2i {a : Int64} (X : Sd K T h cl sl) (cx : Cx K y bytes mx rt R) (hd : Dc bytes pc .l2i 1 pc') (k : Run K Q T (mkF K.m pc' L (.int a.toInt32 :: S))) : Run K Q T (mkF K.m pc L (.long a :: S)) := by
  obtain ⟨locs, X0, -⟩ := X; obtain ⟨hx, -, hby, -⟩ := cx; obtain ⟨d, rfl⟩ := hd
  exact Run.st (fun t q => XT.l2i X0.here hx rfl (hb hby d) rfl q) k
theorem r_i2b {a : Int32} (X : Sd K T h cl sl) (cx : Cx K y bytes mx rt R) (hd : Dc bytes pc .i2b 1 pc') (k : Run K Q T (mkF K.m pc' L (.int a.toInt8.toInt32 :: S))) : Run K Q T (mkF K.m pc L (.int a :: S)) := by
  obtain ⟨locs, X0, -⟩ := X; obtain ⟨hx, -, hby, -⟩ := cx; obtain ⟨d, rfl⟩ := hd
  exact Run.st (fun t q => XT.i2b X0.here hx rfl (hb hby d) rfl q) k
theorem r_i2s {a : Int32} (X : Sd K T h cl sl) (cx : Cx K y bytes mx rt R) (hd : Dc bytes pc .i2s 1 pc') (k : Run K Q T (mkF K.m pc' L (.int a.toInt16.toInt32 :: S))) : Run K Q T (mkF K.m pc L (.int a :: S)) := by
  obtain ⟨locs, X0, -⟩ := X; obtain ⟨hx, -, hby, -⟩ := cx; obtain ⟨d, rfl⟩ := hd
  exact Run.st (fun t q => XT.i2s X0.here hx rfl (hb hby d) rfl q) k
theorem r_lcmp {a b : Int64} (X : Sd K T h cl sl) (cx : Cx K y bytes mx rt R) (hd : Dc bytes pc .lcmp 1 pc') (k : Run K Q T (mkF K.m pc' L (.int (XT.cmpL a b) :: S))) : Run K Q T (mkF K.m pc L (.long b :: .long a :: S)) := by
  obtain ⟨locs, X0, -⟩ := X; obtain ⟨hx, -, hby, -⟩ := cx; obtain ⟨d, rfl⟩ := hd
  exact Run.st (fun t q => XT.lcmp X0.here hx rfl (hb hby d) rfl q) k
theorem r_dup {v : Value} (X : Sd K T h cl sl) (cx : Cx K y bytes mx rt R) (hd : Dc bytes pc .dup 1 pc') (hc : v.category = 1) (k : Run K Q T (mkF K.m pc' L (v :: v :: S))) : Run K Q T (mkF K.m pc L (v :: S)) := by
  obtain ⟨locs, X0, -⟩ := X; obtain ⟨hx, -, hby, -⟩ := cx; obtain ⟨d, rfl⟩ := hd
  exact Run.st (fun t q => XS.dup X0.here hx rfl (hb hby d) rfl hc q) k
theorem r_pop {v : Value} (X : Sd K T h cl sl) (cx : Cx K y bytes mx rt R) (hd : Dc bytes pc .pop 1 pc') (hc : v.category = 1) (k : Run K Q T (mkF K.m pc' L (S))) : Run K Q T (mkF K.m pc L (v :: S)) := by
  obtain ⟨locs, X0, -⟩ := X; obtain ⟨hx, -, hby, -⟩ := cx; obtain ⟨d, rfl⟩ := hd
  exact Run.st (fun t q => XT.pop X0.here hx rfl (hb hby d) rfl hc q) k
theorem r_dup2 {v w : Value} (X : Sd K T h cl sl) (cx : Cx K y bytes mx rt R) (hd : Dc bytes pc .dup2 1 pc') (hc : v.category = 1) (hc2 : w.category = 1) (k : Run K Q T (mkF K.m pc' L (v :: w :: v :: w :: S))) : Run K Q T (mkF K.m pc L (v :: w :: S)) := by
  obtain ⟨locs, X0, -⟩ := X; obtain ⟨hx, -, hby, -⟩ := cx; obtain ⟨d, rfl⟩ := hd
  exact Run.st (fun t q => XT.dup2 X0.here hx rfl (hb hby d) rfl hc hc2 q) k
theorem r_dup_x1 {v w : Value} (X : Sd K T h cl sl) (cx : Cx K y bytes mx rt R) (hd : Dc bytes pc .dup_x1 1 pc') (hc : v.category = 1) (hc2 : w.category = 1) (k : Run K Q T (mkF K.m pc' L (v :: w :: v :: S))) : Run K Q T (mkF K.m pc L (v :: w :: S)) := by
  obtain ⟨locs, X0, -⟩ := X; obtain ⟨hx, -, hby, -⟩ := cx; obtain ⟨d, rfl⟩ := hd
  exact Run.st (fun t q => XT.dupX1 X0.here hx rfl (hb hby d) rfl hc hc2 q) k
theorem r_istoreN {i : Fin 4} {x : Int32} (L' : Int32 → Array Slot) (X : Sd K T h cl sl) (cx : Cx K y bytes mx rt R) (hd : Dc bytes pc (.istore_n i) 1 pc') (hl : ∀ v, storeLocals L i.val (.int v) = some (L' v)) (k : ∀ v, v = x → Run K Q T (mkF K.m pc' (L' v) S)) : Run K Q T (mkF K.m pc L (.int x :: S)) := by
  obtain ⟨locs, X0, -⟩ := X; obtain ⟨hx, -, hby, -⟩ := cx; obtain ⟨d, rfl⟩ := hd
  exact Run.st (fun t q => XS.istoreN X0.here hx rfl (hb hby d) rfl (hl x) q) (k x rfl)
theorem r_istore {i : Nat} {x : Int32} (L' : Int32 → Array Slot) (X : Sd K T h cl sl) (cx : Cx K y bytes mx rt R) (hd : Dc bytes pc (.istore i) 2 pc') (hl : ∀ v, storeLocals L i (.int v) = some (L' v)) (k : ∀ v, v = x → Run K Q T (mkF K.m pc' (L' v) S)) : Run K Q T (mkF K.m pc L (.int x :: S)) := by
  obtain ⟨locs, X0, -⟩ := X; obtain ⟨hx, -, hby, -⟩ := cx; obtain ⟨d, rfl⟩ := hd
  exact Run.st (fun t q => XS.istore X0.here hx rfl (hb hby d) rfl (hl x) q) (k x rfl)
theorem r_lstoreN {i : Fin 4} {x : Int64} (L' : Int64 → Array Slot) (X : Sd K T h cl sl) (cx : Cx K y bytes mx rt R) (hd : Dc bytes pc (.lstore_n i) 1 pc') (hl : ∀ v, storeLocals L i.val (.long v) = some (L' v)) (k : ∀ v, v = x → Run K Q T (mkF K.m pc' (L' v) S)) : Run K Q T (mkF K.m pc L (.long x :: S)) := by
  obtain ⟨locs, X0, -⟩ := X; obtain ⟨hx, -, hby, -⟩ := cx; obtain ⟨d, rfl⟩ := hd
  exact Run.st (fun t q => XT.lstoreN X0.here hx rfl (hb hby d) rfl (hl x) q) (k x rfl)
theorem r_lstore {i : Nat} {x : Int64} (L' : Int64 → Array Slot) (X : Sd K T h cl sl) (cx : Cx K y bytes mx rt R) (hd : Dc bytes pc (.lstore i) 2 pc') (hl : ∀ v, storeLocals L i (.long v) = some (L' v)) (k : ∀ v, v = x → Run K Q T (mkF K.m pc' (L' v) S)) : Run K Q T (mkF K.m pc L (.long x :: S)) := by
  obtain ⟨locs, X0, -⟩ := X; obtain ⟨hx, -, hby, -⟩ := cx; obtain ⟨d, rfl⟩ := hd
  exact Run.st (fun t q => XT.lstore X0.here hx rfl (hb hby d) rfl (hl x) q) (k x rfl)
theorem r_astoreN {i : Fin 4} {x : Addr} (L' : Array Slot) (X : Sd K T h cl sl) (cx : Cx K y bytes mx rt R) (hd : Dc bytes pc (.astore_n i) 1 pc') (hl : storeLocals L i.val (.ref x) = some L') (k : Run K Q T (mkF K.m pc' L' S)) : Run K Q T (mkF K.m pc L (.ref x :: S)) := by
  obtain ⟨locs, X0, -⟩ := X; obtain ⟨hx, -, hby, -⟩ := cx; obtain ⟨d, rfl⟩ := hd
  exact Run.st (fun t q => XS.astoreN X0.here hx rfl (hb hby d) rfl rfl hl q) k
theorem r_astore {i : Nat} {x : Addr} (L' : Array Slot) (X : Sd K T h cl sl) (cx : Cx K y bytes mx rt R) (hd : Dc bytes pc (.astore i) 2 pc') (hl : storeLocals L i (.ref x) = some L') (k : Run K Q T (mkF K.m pc' L' S)) : Run K Q T (mkF K.m pc L (.ref x :: S)) := by
  obtain ⟨locs, X0, -⟩ := X; obtain ⟨hx, -, hby, -⟩ := cx; obtain ⟨d, rfl⟩ := hd
  exact Run.st (fun t q => XS.astore X0.here hx rfl (hb hby d) rfl rfl hl q) k
theorem r_iinc {i : Nat} {cst : Int} {x : Int32} (w : Int32) (L' : Int32 → Array Slot) (X : Sd K T h cl sl) (cx : Cx K y bytes mx rt R) (hd : Dc bytes pc (.iinc i cst) 3 pc') (hv : Int32.ofInt cst = w) (ho : L[i]? = some (.val (.int x))) (hl : ∀ v, storeLocals L i (.int v) = some (L' v)) (k : ∀ v, v = x + w → Run K Q T (mkF K.m pc' (L' v) S)) : Run K Q T (mkF K.m pc L S) := by
  obtain ⟨locs, X0, -⟩ := X; obtain ⟨hx, -, hby, -⟩ := cx; obtain ⟨d, rfl⟩ := hd
  exact Run.st (fun t q => XT.iincV X0.here hx rfl w (hb hby d) hv ho (hl _) q) (k _ rfl)
theorem r_goto {o : Int} (X : Sd K T h cl sl) (cx : Cx K y bytes mx rt R) (hd : Db bytes pc (.goto o) o pc' pt) (k : Run K Q T (mkF K.m pt L S)) : Run K Q T (mkF K.m pc L S) := by
  obtain ⟨locs, X0, -⟩ := X; obtain ⟨hx, -, hby, -⟩ := cx; obtain ⟨d, -, ho, hp⟩ := hd
  exact Run.st (fun t q => XS.goto X0.here hx rfl (pc0 := pc) rfl (hb hby d) ho hp q) k
theorem r_icmpeq {o : Int} {a b : Int32} (X : Sd K T h cl sl) (cx : Cx K y bytes mx rt R) (hd : Db bytes pc (.if_icmp .eq o) o pc' pt) (k1 : a = b → Run K Q T (mkF K.m pt L S)) (k2 : ¬ a = b → Run K Q T (mkF K.m pc' L S)) : Run K Q T (mkF K.m pc L (.int b :: .int a :: S)) := by
  obtain ⟨locs, X0, -⟩ := X; obtain ⟨hx, -, hby, -⟩ := cx; obtain ⟨d, rfl, ho, hp⟩ := hd
  by_cases q : a = b
  · exact Run.st (fun t u => XS.icmpYes X0.here hx rfl (pc0 := pc) rfl (hb hby d) rfl (XT.ii_eq_t q) ho hp u) (k1 q)
  · exact Run.st (fun t u => XS.icmpNo X0.here hx rfl (hb hby d) rfl (XT.ii_eq_f q) u) (k2 q)
theorem r_ifeq {o : Int} {a : Int32} (X : Sd K T h cl sl) (cx : Cx K y bytes mx rt R) (hd : Db bytes pc (.ifCond .eq o) o pc' pt) (k1 : a = 0 → Run K Q T (mkF K.m pt L S)) (k2 : ¬ a = 0 → Run K Q T (mkF K.m pc' L S)) : Run K Q T (mkF K.m pc L (.int a :: S)) := by
  obtain ⟨locs, X0, -⟩ := X; obtain ⟨hx, -, hby, -⟩ := cx; obtain ⟨d, rfl, ho, hp⟩ := hd
  by_cases q : a = 0
  · exact Run.st (fun t u => XS.ifYes X0.here hx rfl (pc0 := pc) rfl (hb hby d) rfl (XT.i0_eq_t q) ho hp u) (k1 q)
  · exact Run.st (fun t u => XS.ifNo X0.here hx rfl (hb hby d) rfl (XT.i0_eq_f q) u) (k2 q)
theorem r_lcmpeq {o : Int} {a b : Int64} (X : Sd K T h cl sl) (cx : Cx K y bytes mx rt R) (hd : Db bytes pc (.ifCond .eq o) o pc' pt) (k1 : a = b → Run K Q T (mkF K.m pt L S)) (k2 : ¬ a = b → Run K Q T (mkF K.m pc' L S)) : Run K Q T (mkF K.m pc L (.int (XT.cmpL a b) :: S)) := by
  obtain ⟨locs, X0, -⟩ := X; obtain ⟨hx, -, hby, -⟩ := cx; obtain ⟨d, rfl, ho, hp⟩ := hd
  by_cases q : a = b
  · exact Run.st (fun t u => XS.ifYes X0.here hx rfl (pc0 := pc) rfl (hb hby d) rfl (XT.ll_eq_t q) ho hp u) (k1 q)
  · exact Run.st (fun t u => XS.ifNo X0.here hx rfl (hb hby d) rfl (XT.ll_eq_f q) u) (k2 q)
theorem r_icmpne {o : Int} {a b : Int32} (X : Sd K T h cl sl) (cx : Cx K y bytes mx rt R) (hd : Db bytes pc (.if_icmp .ne o) o pc' pt) (k1 : ¬ a = b → Run K Q T (mkF K.m pt L S)) (k2 : a = b → Run K Q T (mkF K.m pc' L S)) : Run K Q T (mkF K.m pc L (.int b :: .int a :: S)) := by
  obtain ⟨locs, X0, -⟩ := X; obtain ⟨hx, -, hby, -⟩ := cx; obtain ⟨d, rfl, ho, hp⟩ := hd
  by_cases q : a = b
  · exact Run.st (fun t u => XS.icmpNo X0.here hx rfl (hb hby d) rfl (XT.ii_ne_f q) u) (k2 q)
  · exact Run.st (fun t u => XS.icmpYes X0.here hx rfl (pc0 := pc) rfl (hb hby d) rfl (XT.ii_ne_t q) ho hp u) (k1 q)
theorem r_ifne {o : Int} {a : Int32} (X : Sd K T h cl sl) (cx : Cx K y bytes mx rt R) (hd : Db bytes pc (.ifCond .ne o) o pc' pt) (k1 : ¬ a = 0 → Run K Q T (mkF K.m pt L S)) (k2 : a = 0 → Run K Q T (mkF K.m pc' L S)) : Run K Q T (mkF K.m pc L (.int a :: S)) := by
  obtain ⟨locs, X0, -⟩ := X; obtain ⟨hx, -, hby, -⟩ := cx; obtain ⟨d, rfl, ho, hp⟩ := hd
  by_cases q : a = 0
  · exact Run.st (fun t u => XS.ifNo X0.here hx rfl (hb hby d) rfl (XT.i0_ne_f q) u) (k2 q)
  · exact Run.st (fun t u => XS.ifYes X0.here hx rfl (pc0 := pc) rfl (hb hby d) rfl (XT.i0_ne_t q) ho hp u) (k1 q)
theorem r_lcmpne {o : Int} {a b : Int64} (X : Sd K T h cl sl) (cx : Cx K y bytes mx rt R) (hd : Db bytes pc (.ifCond .ne o) o pc' pt) (k1 : ¬ a = b → Run K Q T (mkF K.m pt L S)) (k2 : a = b → Run K Q T (mkF K.m pc' L S)) : Run K Q T (mkF K.m pc L (.int (XT.cmpL a b) :: S)) := by
  obtain ⟨locs, X0, -⟩ := X; obtain ⟨hx, -, hby, -⟩ := cx; obtain ⟨d, rfl, ho, hp⟩ := hd
  by_cases q : a = b
  · exact Run.st (fun t u => XS.ifNo X0.here hx rfl (hb hby d) rfl (XT.ll_ne_f q) u) (k2 q)
  · exact Run.st (fun t u => XS.ifYes X0.here hx rfl (pc0 := pc) rfl (hb hby d) rfl (XT.ll_ne_t q) ho hp u) (k1 q)
theorem r_icmplt {o : Int} {a b : Int32} (X : Sd K T h cl sl) (cx : Cx K y bytes mx rt R) (hd : Db bytes pc (.if_icmp .lt o) o pc' pt) (k1 : a < b → Run K Q T (mkF K.m pt L S)) (k2 : ¬ a < b → Run K Q T (mkF K.m pc' L S)) : Run K Q T (mkF K.m pc L (.int b :: .int a :: S)) := by
  obtain ⟨locs, X0, -⟩ := X; obtain ⟨hx, -, hby, -⟩ := cx; obtain ⟨d, rfl, ho, hp⟩ := hd
  by_cases q : a < b
  · exact Run.st (fun t u => XS.icmpYes X0.here hx rfl (pc0 := pc) rfl (hb hby d) rfl (XT.ii_lt_t q) ho hp u) (k1 q)
  · exact Run.st (fun t u => XS.icmpNo X0.here hx rfl (hb hby d) rfl (XT.ii_lt_f q) u) (k2 q)
theorem r_iflt {o : Int} {a : Int32} (X : Sd K T h cl sl) (cx : Cx K y bytes mx rt R) (hd : Db bytes pc (.ifCond .lt o) o pc' pt) (k1 : a < 0 → Run K Q T (mkF K.m pt L S)) (k2 : ¬ a < 0 → Run K Q T (mkF K.m pc' L S)) : Run K Q T (mkF K.m pc L (.int a :: S)) := by
  obtain ⟨locs, X0, -⟩ := X; obtain ⟨hx, -, hby, -⟩ := cx; obtain ⟨d, rfl, ho, hp⟩ := hd
  by_cases q : a < 0
  · exact Run.st (fun t u => XS.ifYes X0.here hx rfl (pc0 := pc) rfl (hb hby d) rfl (XT.i0_lt_t q) ho hp u) (k1 q)
  · exact Run.st (fun t u => XS.ifNo X0.here hx rfl (hb hby d) rfl (XT.i0_lt_f q) u) (k2 q)
theorem r_lcmplt {o : Int} {a b : Int64} (X : Sd K T h cl sl) (cx : Cx K y bytes mx rt R) (hd : Db bytes pc (.ifCond .lt o) o pc' pt) (k1 : a < b → Run K Q T (mkF K.m pt L S)) (k2 : ¬ a < b → Run K Q T (mkF K.m pc' L S)) : Run K Q T (mkF K.m pc L (.int (XT.cmpL a b) :: S)) := by
  obtain ⟨locs, X0, -⟩ := X; obtain ⟨hx, -, hby, -⟩ := cx; obtain ⟨d, rfl, ho, hp⟩ := hd
  by_cases q : a < b
  · exact Run.st (fun t u => XS.ifYes X0.here hx rfl (pc0 := pc) rfl (hb hby d) rfl (XT.ll_lt_t q) ho hp u) (k1 q)
  · exact Run.st (fun t u => XS.ifNo X0.here hx rfl (hb hby d) rfl (XT.ll_lt_f q) u) (k2 q)
theorem r_icmpge {o : Int} {a b : Int32} (X : Sd K T h cl sl) (cx : Cx K y bytes mx rt R) (hd : Db bytes pc (.if_icmp .ge o) o pc' pt) (k1 : ¬ a < b → Run K Q T (mkF K.m pt L S)) (k2 : a < b → Run K Q T (mkF K.m pc' L S)) : Run K Q T (mkF K.m pc L (.int b :: .int a :: S)) := by
  obtain ⟨locs, X0, -⟩ := X; obtain ⟨hx, -, hby, -⟩ := cx; obtain ⟨d, rfl, ho, hp⟩ := hd
  by_cases q : a < b
  · exact Run.st (fun t u => XS.icmpNo X0.here hx rfl (hb hby d) rfl (XT.ii_ge_f q) u) (k2 q)
  · exact Run.st (fun t u => XS.icmpYes X0.here hx rfl (pc0 := pc) rfl (hb hby d) rfl (XT.ii_ge_t q) ho hp u) (k1 q)
theorem r_ifge {o : Int} {a : Int32} (X : Sd K T h cl sl) (cx : Cx K y bytes mx rt R) (hd : Db bytes pc (.ifCond .ge o) o pc' pt) (k1 : ¬ a < 0 → Run K Q T (mkF K.m pt L S)) (k2 : a < 0 → Run K Q T (mkF K.m pc' L S)) : Run K Q T (mkF K.m pc L (.int a :: S)) := by
  obtain ⟨locs, X0, -⟩ := X; obtain ⟨hx, -, hby, -⟩ := cx; obtain ⟨d, rfl, ho, hp⟩ := hd
  by_cases q : a < 0
  · exact Run.st (fun t u => XS.ifNo X0.here hx rfl (hb hby d) rfl (XT.i0_ge_f q) u) (k2 q)
  · exact Run.st (fun t u => XS.ifYes X0.here hx rfl (pc0 := pc) rfl (hb hby d) rfl (XT.i0_ge_t q) ho hp u) (k1 q)
theorem r_lcmpge {o : Int} {a b : Int64} (X : Sd K T h cl sl) (cx : Cx K y bytes mx rt R) (hd : Db bytes pc (.ifCond .ge o) o pc' pt) (k1 : ¬ a < b → Run K Q T (mkF K.m pt L S)) (k2 : a < b → Run K Q T (mkF K.m pc' L S)) : Run K Q T (mkF K.m pc L (.int (XT.cmpL a b) :: S)) := by
  obtain ⟨locs, X0, -⟩ := X; obtain ⟨hx, -, hby, -⟩ := cx; obtain ⟨d, rfl, ho, hp⟩ := hd
  by_cases q : a < b
  · exact Run.st (fun t u => XS.ifNo X0.here hx rfl (hb hby d) rfl (XT.ll_ge_f q) u) (k2 q)
  · exact Run.st (fun t u => XS.ifYes X0.here hx rfl (pc0 := pc) rfl (hb hby d) rfl (XT.ll_ge_t q) ho hp u) (k1 q)
theorem r_icmpgt {o : Int} {a b : Int32} (X : Sd K T h cl sl) (cx : Cx K y bytes mx rt R) (hd : Db bytes pc (.if_icmp .gt o) o pc' pt) (k1 : b < a → Run K Q T (mkF K.m pt L S)) (k2 : ¬ b < a → Run K Q T (mkF K.m pc' L S)) : Run K Q T (mkF K.m pc L (.int b :: .int a :: S)) := by
  obtain ⟨locs, X0, -⟩ := X; obtain ⟨hx, -, hby, -⟩ := cx; obtain ⟨d, rfl, ho, hp⟩ := hd
  by_cases q : b < a
  · exact Run.st (fun t u => XS.icmpYes X0.here hx rfl (pc0 := pc) rfl (hb hby d) rfl (XT.ii_gt_t q) ho hp u) (k1 q)
  · exact Run.st (fun t u => XS.icmpNo X0.here hx rfl (hb hby d) rfl (XT.ii_gt_f q) u) (k2 q)
theorem r_ifgt {o : Int} {a : Int32} (X : Sd K T h cl sl) (cx : Cx K y bytes mx rt R) (hd : Db bytes pc (.ifCond .gt o) o pc' pt) (k1 : 0 < a → Run K Q T (mkF K.m pt L S)) (k2 : ¬ 0 < a → Run K Q T (mkF K.m pc' L S)) : Run K Q T (mkF K.m pc L (.int a :: S)) := by
  obtain ⟨locs, X0, -⟩ := X; obtain ⟨hx, -, hby, -⟩ := cx; obtain ⟨d, rfl, ho, hp⟩ := hd
  by_cases q : 0 < a
  · exact Run.st (fun t u => XS.ifYes X0.here hx rfl (pc0 := pc) rfl (hb hby d) rfl (XT.i0_gt_t q) ho hp u) (k1 q)
  · exact Run.st (fun t u => XS.ifNo X0.here hx rfl (hb hby d) rfl (XT.i0_gt_f q) u) (k2 q)
theorem r_lcmpgt {o : Int} {a b : Int64} (X : Sd K T h cl sl) (cx : Cx K y bytes mx rt R) (hd : Db bytes pc (.ifCond .gt o) o pc' pt) (k1 : b < a → Run K Q T (mkF K.m pt L S)) (k2 : ¬ b < a → Run K Q T (mkF K.m pc' L S)) : Run K Q T (mkF K.m pc L (.int (XT.cmpL a b) :: S)) := by
  obtain ⟨locs, X0, -⟩ := X; obtain ⟨hx, -, hby, -⟩ := cx; obtain ⟨d, rfl, ho, hp⟩ := hd
  by_cases q : b < a
  · exact Run.st (fun t u => XS.ifYes X0.here hx rfl (pc0 := pc) rfl (hb hby d) rfl (XT.ll_gt_t q) ho hp u) (k1 q)
  · exact Run.st (fun t u => XS.ifNo X0.here hx rfl (hb hby d) rfl (XT.ll_gt_f q) u) (k2 q)
theorem r_icmple {o : Int} {a b : Int32} (X : Sd K T h cl sl) (cx : Cx K y bytes mx rt R) (hd : Db bytes pc (.if_icmp .le o) o pc' pt) (k1 : ¬ b < a → Run K Q T (mkF K.m pt L S)) (k2 : b < a → Run K Q T (mkF K.m pc' L S)) : Run K Q T (mkF K.m pc L (.int b :: .int a :: S)) := by
  obtain ⟨locs, X0, -⟩ := X; obtain ⟨hx, -, hby, -⟩ := cx; obtain ⟨d, rfl, ho, hp⟩ := hd
  by_cases q : b < a
  · exact Run.st (fun t u => XS.icmpNo X0.here hx rfl (hb hby d) rfl (XT.ii_le_f q) u) (k2 q)
  · exact Run.st (fun t u => XS.icmpYes X0.here hx rfl (pc0 := pc) rfl (hb hby d) rfl (XT.ii_le_t q) ho hp u) (k1 q)
theorem r_ifle {o : Int} {a : Int32} (X : Sd K T h cl sl) (cx : Cx K y bytes mx rt R) (hd : Db bytes pc (.ifCond .le o) o pc' pt) (k1 : ¬ 0 < a → Run K Q T (mkF K.m pt L S)) (k2 : 0 < a → Run K Q T (mkF K.m pc' L S)) : Run K Q T (mkF K.m pc L (.int a :: S)) := by
  obtain ⟨locs, X0, -⟩ := X; obtain ⟨hx, -, hby, -⟩ := cx; obtain ⟨d, rfl, ho, hp⟩ := hd
  by_cases q : 0 < a
  · exact Run.st (fun t u => XS.ifNo X0.here hx rfl (hb hby d) rfl (XT.i0_le_f q) u) (k2 q)
  · exact Run.st (fun t u => XS.ifYes X0.here hx rfl (pc0 := pc) rfl (hb hby d) rfl (XT.i0_le_t q) ho hp u) (k1 q)
theorem r_lcmple {o : Int} {a b : Int64} (X : Sd K T h cl sl) (cx : Cx K y bytes mx rt R) (hd : Db bytes pc (.ifCond .le o) o pc' pt) (k1 : ¬ b < a → Run K Q T (mkF K.m pt L S)) (k2 : b < a → Run K Q T (mkF K.m pc' L S)) : Run K Q T (mkF K.m pc L (.int (XT.cmpL a b) :: S)) := by
  obtain ⟨locs, X0, -⟩ := X; obtain ⟨hx, -, hby, -⟩ := cx; obtain ⟨d, rfl, ho, hp⟩ := hd
  by_cases q : b < a
  · exact Run.st (fun t u => XS.ifNo X0.here hx rfl (hb hby d) rfl (XT.ll_le_f q) u) (k2 q)
  · exact Run.st (fun t u => XS.ifYes X0.here hx rfl (pc0 := pc) rfl (hb hby d) rfl (XT.ll_le_t q) ho hp u) (k1 q)
theorem r_ldc {i : Nat} {v : Int32} {a0 : Array Value} (X : Sd K T h cl sl) (cx : Cx K y bytes mx rt R) (hd : Dc bytes pc (.ldc i) 2 pc') (w : (Cond.constant y.cls i v).before a0 K.Z = true) (k : Run K Q T (mkF K.m pc' L (.int v :: S))) : Run K Q T (mkF K.m pc L S) := by
  obtain ⟨locs, X0, -⟩ := X; obtain ⟨hx, hZ, hby, -, hown, -⟩ := cx; obtain ⟨d, rfl⟩ := hd
  exact Run.st (fun t q => Jvm.Stand.ldcI X0 hx hown (mv hZ w) rfl (hb hby d) q) k
theorem r_ldcW {i : Nat} {v : Int32} {a0 : Array Value} (X : Sd K T h cl sl) (cx : Cx K y bytes mx rt R) (hd : Dc bytes pc (.ldc_w i) 3 pc') (w : (Cond.constant y.cls i v).before a0 K.Z = true) (k : Run K Q T (mkF K.m pc' L (.int v :: S))) : Run K Q T (mkF K.m pc L S) := by
  obtain ⟨locs, X0, -⟩ := X; obtain ⟨hx, hZ, hby, -, hown, -⟩ := cx; obtain ⟨d, rfl⟩ := hd
  exact Run.st (fun t q => Jvm.Stand.ldcWI X0 hx hown (mv hZ w) rfl (hb hby d) q) k
theorem r_ldc2 {i : Nat} {v : Int64} {a0 : Array Value} (X : Sd K T h cl sl) (cx : Cx K y bytes mx rt R) (hd : Dc bytes pc (.ldc2_w i) 3 pc') (w : (Cond.constantLong y.cls i v).before a0 K.Z = true) (k : Run K Q T (mkF K.m pc' L (.long v :: S))) : Run K Q T (mkF K.m pc L S) := by
  obtain ⟨locs, X0, -⟩ := X; obtain ⟨hx, hZ, hby, -, hown, -⟩ := cx; obtain ⟨d, rfl⟩ := hd
  exact Run.st (fun t q => Jvm.Stand.ldc2J X0 hx hown (mv hZ w) rfl (hb hby d) q) k
theorem fin {v : Option Value} (X : Sd K T h cl sl) (cx : Cx K y bytes mx rt R) (hv : rt = none → v = none) (hc : cl ≤ R.cells) (hs : sl ≤ R.slots) (hq : Q v h) {g : JFrame}
    (st : ∀ fs, (∀ (f : JFrame) (acts : List Action), f.method = K.m → f.locked = none → f.entered = [] → (doReturn K.e (T.setTop f) acts v).1 = T.setFrames fs) → Steps K.p.tables K.e K.below (T.setTop g) (T.setFrames fs)) : Run K Q T g := by
  obtain ⟨locs, X0, N, hz, eT⟩ := X
  obtain ⟨hx, hZ, hby, hml, hown, hret, hlk, hR, hnm⟩ := cx
  obtain ⟨fs, hr, hrun, hended, hW, hsame⟩ := X0.leave (v := v) (fun q => hv (hret.symm.trans q)) hlk
  refine ⟨_, v, locs, st fs hr, hrun, hended, ?_, N, ⟨_, rfl⟩, hW, hsame.mono (by rw [hR]; exact hc) (by rw [hR]; exact hs)⟩
  show Q v T.heap
  rw [eT]; exact hq
theorem r_ireturn {z : Int32} (X : Sd K T h cl sl) (cx : Cx K y bytes mx (some .int) R) (hd : Dc bytes pc .ireturn 1 pc') (hc : cl ≤ R.cells) (hs : sl ≤ R.slots) (hq : Q (some (.int z)) h) : Run K Q T (mkF K.m pc L (.int z :: S)) := by
  refine fin X cx (fun q => nomatch q) hc hs hq fun fs hr => ?_
  obtain ⟨locs, X0, -⟩ := X; obtain ⟨hx, -, hby, -, -, hret, -⟩ := cx; obtain ⟨d, rfl⟩ := hd
  exact retI X0 hx hret (hb hby d) hr
theorem r_zreturn {z : Int32} (X : Sd K T h cl sl) (cx : Cx K y bytes mx (some .boolean) R) (hd : Dc bytes pc .ireturn 1 pc') (hc : cl ≤ R.cells) (hs : sl ≤ R.slots) (hq : Q (some (.int (nar .boolean z))) h) : Run K Q T (mkF K.m pc L (.int z :: S)) := by
  refine fin X cx (fun q => nomatch q) hc hs hq fun fs hr => ?_
  obtain ⟨locs, X0, -⟩ := X; obtain ⟨hx, -, hby, -, -, hret, -⟩ := cx; obtain ⟨d, rfl⟩ := hd
  exact retN X0 hx (t := .boolean) hret (by simp) (hb hby d) hr
theorem r_lreturn {z : Int64} (X : Sd K T h cl sl) (cx : Cx K y bytes mx (some .long) R) (hd : Dc bytes pc .lreturn 1 pc') (hc : cl ≤ R.cells) (hs : sl ≤ R.slots) (hq : Q (some (.long z)) h) : Run K Q T (mkF K.m pc L [.long z]) := by
  refine fin X cx (fun q => nomatch q) hc hs hq fun fs hr => ?_
  obtain ⟨locs, X0, -⟩ := X; obtain ⟨hx, -, hby, -, -, hret, -⟩ := cx; obtain ⟨d, rfl⟩ := hd
  exact X0.lreturnOut hx hret (hb hby d) hr
theorem r_areturn {z : Addr} {ty : FieldType} (X : Sd K T h cl sl) (cx : Cx K y bytes mx (some ty) R) (hty : ty.isReference = true) (hd : Dc bytes pc .areturn 1 pc') (hc : cl ≤ R.cells) (hs : sl ≤ R.slots) (hq : Q (some (.ref z)) h) : Run K Q T (mkF K.m pc L [.ref z]) := by
  refine fin X cx (fun q => nomatch q) hc hs hq fun fs hr => ?_
  obtain ⟨locs, X0, -⟩ := X; obtain ⟨hx, -, hby, -, -, hret, -⟩ := cx; obtain ⟨d, rfl⟩ := hd
  exact X0.areturnOut hx rfl hret hty (hb hby d) hr
theorem r_return (X : Sd K T h cl sl) (cx : Cx K y bytes mx none R) (hd : Dc bytes pc .return_ 1 pc') (hc : cl ≤ R.cells) (hs : sl ≤ R.slots) (hq : Q none h) : Run K Q T (mkF K.m pc L []) := by
  refine fin X cx (fun _ => rfl) hc hs hq fun fs hr => ?_
  obtain ⟨locs, X0, -⟩ := X; obtain ⟨hx, -, hby, -, -, hret, -⟩ := cx; obtain ⟨d, rfl⟩ := hd
  exact X0.returnOut hx hret (hb hby d) hr
/-! fields -/
theorem r_getfield {O n d : String} {i : Nat} {a : Addr} {v : Value} {a0 : Array Value} (X : Sd K T h cl sl) (cx : Cx K y bytes mx rt R) (hd : Dc bytes pc (.getfield i) 3 pc') (w : (Cond.fieldLink y.cls i O n d).before a0 K.Z = true) (F : Fld K.Z h a O n d v) (k : ∀ T', Sd K T' h cl sl → Run K Q T' (mkF K.m pc' L (v :: S))) : Run K Q T (mkF K.m pc L (.ref a :: S)) := by
  obtain ⟨locs, X0, N, hz, eT⟩ := X; obtain ⟨hx, hZ, hby, -, hown, -⟩ := cx; obtain ⟨dd, rfl⟩ := hd
  obtain ⟨T1, X1, e1, st1⟩ := getF X0 hx hZ hown (host := "") (Or.inl w) Via.refl eT F (g := mkF K.m pc L (.ref a :: S)) rfl rfl (hb hby dd)
  exact Run.st st1 (k T1 ⟨locs, X1, N, hz, e1⟩)
theorem r_getfieldN {O n d host : String} {i : Nat} {a : Addr} {v : Value} {a0 : Array Value} (X : Sd K T h cl sl) (cx : Cx K y bytes mx rt R) (hd : Dc bytes pc (.getfield i) 3 pc') (w : (Cond.fieldLinkNest y.cls i O n d host).before a0 K.Z = true) (F : Fld K.Z h a O n d v) (k : ∀ T', Sd K T' h cl sl → Run K Q T' (mkF K.m pc' L (v :: S))) : Run K Q T (mkF K.m pc L (.ref a :: S)) := by
  obtain ⟨locs, X0, N, hz, eT⟩ := X; obtain ⟨hx, hZ, hby, -, hown, -⟩ := cx; obtain ⟨dd, rfl⟩ := hd
  obtain ⟨T1, X1, e1, st1⟩ := getF X0 hx hZ hown (host := host) (Or.inr w) Via.refl eT F (g := mkF K.m pc L (.ref a :: S)) rfl rfl (hb hby dd)
  exact Run.st st1 (k T1 ⟨locs, X1, N, hz, e1⟩)
theorem r_putfield {O n d C : String} {i kk : Nat} {a : Addr} {v old : Value} {ty : FieldType} {a0 : Array Value} (X : Sd K T h cl sl) (cx : Cx K y bytes mx rt R) (hd : Dc bytes pc (.putfield i) 3 pc') (w : (Cond.fieldLink y.cls i O n d).before a0 K.Z = true) (F : Fld K.Z h a O n d old) (E : Exa K.Z h a C) (hL : (Cond.lays C O n d).before a0 K.Z = true ∨ ((Cond.laysFinal C O n d).before a0 K.Z = true ∧ y.cls = O ∧ y.name = "<init>")) (wi : (Cond.instantiable C kk).before a0 K.Z = true)
    (hty : parseFieldDescriptor d = some ty) (hn : narrow ty v = v) (hf : fits ty v = true) (ge : K.n0 ≤ a) (k : ∀ T' h', Sd K T' h' cl sl → Wr h h' a (Jvm.RoadKit.slotOf K.Z O n d) v → Fld K.Z h' a O n d v → Run K Q T' (mkF K.m pc' L S)) : Run K Q T (mkF K.m pc L (v :: .ref a :: S)) := by
  obtain ⟨locs, X0, N, hz, eT⟩ := X; obtain ⟨hx, hZ, hby, -, hown, -, -, -, hnm⟩ := cx; obtain ⟨dd, rfl⟩ := hd
  obtain ⟨T1, h1, X1, e1, W1, st1⟩ := putF X0 hx hZ hown (host := "") (Or.inl w) Via.refl eT F E (hL.imp id fun q => ⟨q.1, q.2.1, hnm.trans q.2.2⟩) wi hty hn hf (g := mkF K.m pc L (v :: .ref a :: S)) rfl rfl (hb hby dd)
  exact Run.st st1 (k T1 h1 ⟨_, X1, Fr.snoc X1 N ge, by rw [W1.size]; exact hz, e1⟩ W1 (F.same W1))
theorem r_new {C : String} {i n : Nat} {a0 : Array Value} (X : Sd K T h cl sl) (cx : Cx K y bytes mx rt R) (hd : Dc bytes pc (.new i) 3 pc') (w : (Cond.classLink y.cls i C).before a0 K.Z = true) (wi : (Cond.instantiable C n).before a0 K.Z = true) (wz : (Cond.initialized C).before a0 K.Z = true) (hc : cl + 1 ≤ R.cells) (hs : sl + n ≤ R.slots)
    (k : ∀ T' h' a, a = h.size → K.n0 ≤ a → Sd K T' h' (cl + 1) (sl + n) → Ext h h' → Exa K.Z h' a C → (∀ {O nm d : String} {ty : FieldType}, Laid K.Z a0 C O nm d → parseFieldDescriptor d = some ty → Fld K.Z h' a O nm d (defaultValue ty)) → Run K Q T' (mkF K.m pc' L (.ref a :: S))) : Run K Q T (mkF K.m pc L S) := by
  obtain ⟨locs, X0, N, hz, eT⟩ := X; obtain ⟨hx, hZ, hby, -, hown, -, -, hR, -⟩ := cx; obtain ⟨dd, rfl⟩ := hd
  obtain ⟨T1, h1, X1, e1, E1, A1, D1, -, st1⟩ := newO X0 hx hZ hown w wi wz eT (g := mkF K.m pc L S) rfl (hb hby dd) (by rw [hR]; exact hc) (by rw [hR]; exact hs)
  exact Run.st st1 (k T1 h1 h.size rfl hz ⟨locs, X1, N, Nat.le_trans hz E1.1, e1⟩ E1 A1 D1)
theorem r_initO {i : Nat} {a : Addr} {a0 : Array Value} (X : Sd K T h cl sl) (cx : Cx K y bytes mx rt R) (hd : Dc bytes pc (.invokespecial i) 3 pc') (w1 : (Cond.methodLink y.cls i Lib.objectInit).before a0 K.Z = true) (w2 : (Cond.instanceMethod Lib.objectInit).before a0 K.Z = true) (w3 : (Cond.code Lib.objectInit ⟨#[0xb1]⟩ 1 none).before a0 K.Z = true) (hsz : L.size = mx) (hf : 1 ≤ R.frames) (hl : (S.map fun v => v.category).sum + 12 ≤ R.locals) (k : ∀ T', Sd K T' h cl sl → Run K Q T' (mkF K.m pc' L S)) : Run K Q T (mkF K.m pc L (.ref a :: S)) := by
  obtain ⟨locs, X0, N, hz, eT⟩ := X; obtain ⟨hx, hZ, hby, hml, hown, -, -, hR, -⟩ := cx; obtain ⟨dd, rfl⟩ := hd
  obtain ⟨T1, X1, e1, st1⟩ := initO X0 hx hZ hown w1 w2 w3 eT (g := mkF K.m pc L (.ref a :: S)) rfl (by rw [hml]; exact hsz) rfl (hb hby dd) (by rw [hR]; exact hf) (W := (S.map fun v => v.category).sum) (by show 2 * 0 + _ ≤ _; omega) (by rw [hR]; exact hl)
  exact Run.st st1 (k T1 ⟨locs, X1, N, hz, e1⟩)
end Rules
/-! arrays: their whole list of values -/
def AV (Z : State) (h : Heap) (a : Addr) (ty : FieldType) (vs : List Value) : Prop := ∃ c : Cell, Arr Z h a c ty ∧ c.slots.toList = vs ∧ vs.length < 2 ^ 31
def AI (ty : FieldType) (Z : State) (h : Heap) (a : Addr) (xs : List Int32) : Prop := AV Z h a ty (xs.map Value.int)
def AJ (Z : State) (h : Heap) (a : Addr) (xs : List Int64) : Prop := AV Z h a .long (xs.map Value.long)
theorem AV.ext {Z : State} {h h' : Heap} {a : Addr} {ty : FieldType} {vs : List Value} (A : AV Z h a ty vs) (E : Ext h h') : AV Z h' a ty vs := by obtain ⟨c, q, r⟩ := A; exact ⟨c, q.ext E, r⟩
theorem AV.other {Z : State} {h h' : Heap} {a b : Addr} {ty : FieldType} {vs : List Value} {sl : Nat} {v : Value} (A : AV Z h a ty vs) (W : Wr h h' b sl v) (q : a ≠ b) : AV Z h' a ty vs := by obtain ⟨c, u, r⟩ := A; exact ⟨c, u.other W q, r⟩
theorem AV.keep {Z : State} {h h' : Heap} {a : Addr} {ty : FieldType} {vs : List Value} {ws : List Addr} (A : AV Z h a ty vs) (k : Keep h h' ws) (q : a ∉ ws) : AV Z h' a ty vs := by obtain ⟨c, u, r⟩ := A; exact ⟨c, ⟨k.2.1 a c u.1 q, u.2⟩, r⟩
theorem AV.lt {Z : State} {h : Heap} {a : Addr} {ty : FieldType} {vs : List Value} (A : AV Z h a ty vs) : a < h.size := by obtain ⟨c, u, r⟩ := A; exact u.lt
theorem AV.len {Z : State} {h : Heap} {a : Addr} {ty : FieldType} {vs : List Value} (A : AV Z h a ty vs) : vs.length < 2 ^ 31 := by obtain ⟨c, u, r, q⟩ := A; exact q
theorem AV.set {Z : State} {h h' : Heap} {a : Addr} {ty : FieldType} {vs : List Value} {n : Nat} {v : Value} (A : AV Z h a ty vs) (W : Wr h h' a n v) : AV Z h' a ty (vs.set n v) := by
  obtain ⟨c, u, r, q⟩ := A
  refine ⟨_, u.same W, ?_, by simpa using q⟩
  subst r
  simp [Cell.setSlot]
section
variable {ty : FieldType} {Z : State} {h h' : Heap} {a b : Addr} {xs : List Int32} {zs : List Int64} {sl : Nat} {v : Value} {ws : List Addr}
theorem AI.ext (A : AI ty Z h a xs) (E : Ext h h') : AI ty Z h' a xs := AV.ext A E
theorem AI.other (A : AI ty Z h a xs) (W : Wr h h' b sl v) (q : a ≠ b) : AI ty Z h' a xs := AV.other A W q
theorem AI.keep (A : AI ty Z h a xs) (k : Keep h h' ws) (q : a ∉ ws) : AI ty Z h' a xs := AV.keep A k q
theorem AI.lt (A : AI ty Z h a xs) : a < h.size := AV.lt A
theorem AI.len (A : AI ty Z h a xs) : xs.length < 2 ^ 31 := by simpa using AV.len A
theorem AI.set {n : Nat} {x : Int32} (A : AI ty Z h a xs) (W : Wr h h' a n (.int x)) : AI ty Z h' a (xs.set n x) := by
  have q := AV.set A W
  show AV Z h' a ty ((xs.set n x).map Value.int)
  rw [List.map_set]; exact q
theorem AJ.ext (A : AJ Z h a zs) (E : Ext h h') : AJ Z h' a zs := AV.ext A E
theorem AJ.other (A : AJ Z h a zs) (W : Wr h h' b sl v) (q : a ≠ b) : AJ Z h' a zs := AV.other A W q
theorem AJ.keep (A : AJ Z h a zs) (k : Keep h h' ws) (q : a ∉ ws) : AJ Z h' a zs := AV.keep A k q
theorem AJ.lt (A : AJ Z h a zs) : a < h.size := AV.lt A
theorem AJ.len (A : AJ Z h a zs) : zs.length < 2 ^ 31 := by simpa using AV.len A
theorem AJ.set {n : Nat} {x : Int64} (A : AJ Z h a zs) (W : Wr h h' a n (.long x)) : AJ Z h' a (zs.set n x) := by
  have q := AV.set A W
  show AV Z h' a .long ((zs.set n x).map Value.long)
  rw [List.map_set]; exact q
end
theorem ofNat_neg {n : Nat} (hn : n < 2 ^ 31) : ¬ Int32.ofNat n < 0 := by
  rw [Int32.lt_iff_toInt_lt, Int32.toInt_ofNat_of_lt hn]
  show ¬ (n : Int) < 0
  omega
theorem ofNat_clamp {n : Nat} (hn : n < 2 ^ 31) : (Int32.ofNat n).toNatClampNeg = n := by
  show (Int32.ofNat n).toInt.toNat = n
  rw [Int32.toInt_ofNat_of_lt hn]; rfl
section Rules
variable {K : KT} {Q : Option Value → Heap → Prop} {T : State} {h : Heap} {cl sl : Nat} {y : MethodName} {bytes : ByteArray} {mx : Nat} {rt : Option FieldType} {R : Room} {pc pc' pt : Nat} {L : Array Slot} {S : List Value}
theorem r_arraylength {ty : FieldType} {vs : List Value} {a : Addr} (X : Sd K T h cl sl) (cx : Cx K y bytes mx rt R) (hd : Dc bytes pc .arraylength 1 pc') (A : AV K.Z h a ty vs) (k : Run K Q T (mkF K.m pc' L (.int (Int32.ofNat vs.length) :: S))) : Run K Q T (mkF K.m pc L (.ref a :: S)) := by
  obtain ⟨locs, X0, N, hz, eT⟩ := X; obtain ⟨hx, hZ, hby, -, hown, -⟩ := cx; obtain ⟨dd, rfl⟩ := hd
  obtain ⟨c, Ar, hc, hlen⟩ := A
  have hs : c.slots.size = vs.length := by rw [← hc]; simp
  refine Run.st (X0.arraylength hx (cell := c) (by rw [eT]; exact Ar.1) (State.isArrayOf_alike hZ.alike Ar.2.1) (g := mkF K.m pc L (.ref a :: S)) rfl (rest := S) rfl (hb hby dd)) ?_
  rw [hs]; exact k
theorem r_alen {ty : FieldType} {xs : List Int32} {a : Addr} (X : Sd K T h cl sl) (cx : Cx K y bytes mx rt R) (hd : Dc bytes pc .arraylength 1 pc') (A : AI ty K.Z h a xs) (n : Nat) (hn : xs.length = n) (k : Run K Q T (mkF K.m pc' L (.int (Int32.ofNat n) :: S))) : Run K Q T (mkF K.m pc L (.ref a :: S)) :=
  r_arraylength X cx hd A (by rw [List.length_map, hn]; exact k)
theorem r_alenJ {xs : List Int64} {a : Addr} (X : Sd K T h cl sl) (cx : Cx K y bytes mx rt R) (hd : Dc bytes pc .arraylength 1 pc') (A : AJ K.Z h a xs) (n : Nat) (hn : xs.length = n) (k : Run K Q T (mkF K.m pc' L (.int (Int32.ofNat n) :: S))) : Run K Q T (mkF K.m pc L (.ref a :: S)) :=
  r_arraylength X cx hd A (by rw [List.length_map, hn]; exact k)
theorem r_iaload {xs : List Int32} {a : Addr} {j : Int32} {v : Int32} (X : Sd K T h cl sl) (cx : Cx K y bytes mx rt R) (hd : Dc bytes pc .iaload 1 pc') (A : AI .int K.Z h a xs) (n : Nat) (hj : j = Int32.ofNat n) (hv : xs[n]? = some v) (k : Run K Q T (mkF K.m pc' L (.int v :: S))) : Run K Q T (mkF K.m pc L (.int j :: .ref a :: S)) := by
  obtain ⟨locs, X0, N, hz, eT⟩ := X; obtain ⟨hx, hZ, hby, -, hown, -⟩ := cx; obtain ⟨dd, rfl⟩ := hd
  obtain ⟨c, Ar, hc, hlen⟩ := A
  have hs : c.slots.size = xs.length := by have := congrArg List.length hc; simpa using this
  have hl : n < xs.length := (List.getElem?_eq_some_iff.mp hv).1
  have hn : n < 2 ^ 31 := by simp at hlen; omega
  subst hj
  have e1 := ofNat_clamp hn
  have hat : c.slots[(Int32.ofNat n).toNatClampNeg]? = some (.int v) := by
    rw [e1, ← Array.getElem?_toList, hc, List.getElem?_map, hv]; rfl
  exact Run.st (X0.iaload hx (cell := c) (by rw [eT]; exact Ar.1) (State.isArrayOf_alike hZ.alike Ar.2.1) Ar.2.2 (by rw [e1, hs]; intro q; rcases q with q | q; exact ofNat_neg hn q; omega) hat (g := mkF K.m pc L (.int (Int32.ofNat n) :: .ref a :: S)) rfl rfl (hb hby dd)) k
theorem r_saload {xs : List Int32} {a : Addr} {j : Int32} {v : Int32} (X : Sd K T h cl sl) (cx : Cx K y bytes mx rt R) (hd : Dc bytes pc .saload 1 pc') (A : AI .short K.Z h a xs) (n : Nat) (hj : j = Int32.ofNat n) (hv : xs[n]? = some v) (k : Run K Q T (mkF K.m pc' L (.int v :: S))) : Run K Q T (mkF K.m pc L (.int j :: .ref a :: S)) := by
  obtain ⟨locs, X0, N, hz, eT⟩ := X; obtain ⟨hx, hZ, hby, -, hown, -⟩ := cx; obtain ⟨dd, rfl⟩ := hd
  obtain ⟨c, Ar, hc, hlen⟩ := A
  have hs : c.slots.size = xs.length := by have := congrArg List.length hc; simpa using this
  have hl : n < xs.length := (List.getElem?_eq_some_iff.mp hv).1
  have hn : n < 2 ^ 31 := by simp at hlen; omega
  subst hj
  have e1 := ofNat_clamp hn
  have hat : c.slots[(Int32.ofNat n).toNatClampNeg]? = some (.int v) := by
    rw [e1, ← Array.getElem?_toList, hc, List.getElem?_map, hv]; rfl
  exact Run.st (X0.saload hx (cell := c) (by rw [eT]; exact Ar.1) (State.isArrayOf_alike hZ.alike Ar.2.1) Ar.2.2 (by rw [e1, hs]; intro q; rcases q with q | q; exact ofNat_neg hn q; omega) hat (g := mkF K.m pc L (.int (Int32.ofNat n) :: .ref a :: S)) rfl rfl (hb hby dd)) k
theorem r_baload {xs : List Int32} {a : Addr} {j : Int32} {v : Int32} (X : Sd K T h cl sl) (cx : Cx K y bytes mx rt R) (hd : Dc bytes pc .baload 1 pc') (A : AI .byte K.Z h a xs) (n : Nat) (hj : j = Int32.ofNat n) (hv : xs[n]? = some v) (k : Run K Q T (mkF K.m pc' L (.int v :: S))) : Run K Q T (mkF K.m pc L (.int j :: .ref a :: S)) := by
  obtain ⟨locs, X0, N, hz, eT⟩ := X; obtain ⟨hx, hZ, hby, -, hown, -⟩ := cx; obtain ⟨dd, rfl⟩ := hd
  obtain ⟨c, Ar, hc, hlen⟩ := A
  have hs : c.slots.size = xs.length := by have := congrArg List.length hc; simpa using this
  have hl : n < xs.length := (List.getElem?_eq_some_iff.mp hv).1
  have hn : n < 2 ^ 31 := by simp at hlen; omega
  subst hj
  have e1 := ofNat_clamp hn
  have hat : c.slots[(Int32.ofNat n).toNatClampNeg]? = some (.int v) := by
    rw [e1, ← Array.getElem?_toList, hc, List.getElem?_map, hv]; rfl
  exact Run.st (X0.baloadBytes hx (cell := c) (by rw [eT]; exact Ar.1) (State.isArrayOf_alike hZ.alike Ar.2.1) Ar.2.2 (by rw [e1, hs]; intro q; rcases q with q | q; exact ofNat_neg hn q; omega) hat (g := mkF K.m pc L (.int (Int32.ofNat n) :: .ref a :: S)) rfl rfl (hb hby dd)) k
theorem r_laload {xs : List Int64} {a : Addr} {j : Int32} {v : Int64} (X : Sd K T h cl sl) (cx : Cx K y bytes mx rt R) (hd : Dc bytes pc .laload 1 pc') (A : AJ K.Z h a xs) (n : Nat) (hj : j = Int32.ofNat n) (hv : xs[n]? = some v) (k : Run K Q T (mkF K.m pc' L (.long v :: S))) : Run K Q T (mkF K.m pc L (.int j :: .ref a :: S)) := by
  obtain ⟨locs, X0, N, hz, eT⟩ := X; obtain ⟨hx, hZ, hby, -, hown, -⟩ := cx; obtain ⟨dd, rfl⟩ := hd
  obtain ⟨c, Ar, hc, hlen⟩ := A
  have hs : c.slots.size = xs.length := by have := congrArg List.length hc; simpa using this
  have hl : n < xs.length := (List.getElem?_eq_some_iff.mp hv).1
  have hn : n < 2 ^ 31 := by simp at hlen; omega
  subst hj
  have e1 := ofNat_clamp hn
  have hat : c.slots[(Int32.ofNat n).toNatClampNeg]? = some (.long v) := by
    rw [e1, ← Array.getElem?_toList, hc, List.getElem?_map, hv]; rfl
  exact Run.st (X0.laload hx (cell := c) (by rw [eT]; exact Ar.1) (State.isArrayOf_alike hZ.alike Ar.2.1) Ar.2.2 (by rw [e1, hs]; intro q; rcases q with q | q; exact ofNat_neg hn q; omega) hat (g := mkF K.m pc L (.int (Int32.ofNat n) :: .ref a :: S)) rfl rfl (hb hby dd)) k
theorem r_iastore {xs : List Int32} {a : Addr} {j : Int32} {x : Int32} (X : Sd K T h cl sl) (cx : Cx K y bytes mx rt R) (hd : Dc bytes pc .iastore 1 pc') (A : AI .int K.Z h a xs) (n : Nat) (hj : j = Int32.ofNat n) (hl : n < xs.length) (ge : K.n0 ≤ a) (k : ∀ T' h', Sd K T' h' cl sl → Wr h h' a n (.int x) → AI .int K.Z h' a (xs.set n x) → Run K Q T' (mkF K.m pc' L S)) : Run K Q T (mkF K.m pc L (.int x :: .int j :: .ref a :: S)) := by
  obtain ⟨locs, X0, N, hz, eT⟩ := X; obtain ⟨hx, hZ, hby, -, hown, -⟩ := cx; obtain ⟨dd, rfl⟩ := hd
  have A0 := A
  obtain ⟨c, Ar, hc, hlen⟩ := A
  have hs : c.slots.size = xs.length := by have := congrArg List.length hc; simpa using this
  have hn : n < 2 ^ 31 := by simp at hlen; omega
  subst hj
  have e1 := ofNat_clamp hn
  obtain ⟨T1, h1, X1, eh1, W1, st1⟩ := stI X0 hx hZ eT Ar (j := Int32.ofNat n) (x := x) (by rw [e1, hs]; intro q; rcases q with q | q; exact ofNat_neg hn q; omega) (g := mkF K.m pc L (.int x :: .int (Int32.ofNat n) :: .ref a :: S)) rfl rfl (hb hby dd)
  have hz1 : K.n0 ≤ h1.size := by rw [W1.size]; exact hz
  have N1 := Fr.snoc X1 N ge
  rw [e1] at W1
  exact Run.st st1 (k T1 h1 ⟨_, X1, N1, hz1, eh1⟩ W1 (AI.set A0 W1))
theorem r_sastore {xs : List Int32} {a : Addr} {j : Int32} {x : Int32} (X : Sd K T h cl sl) (cx : Cx K y bytes mx rt R) (hd : Dc bytes pc .sastore 1 pc') (A : AI .short K.Z h a xs) (n : Nat) (hj : j = Int32.ofNat n) (hl : n < xs.length) (ge : K.n0 ≤ a) (k : ∀ T' h', Sd K T' h' cl sl → Wr h h' a n (.int (nar .short x)) → AI .short K.Z h' a (xs.set n (nar .short x)) → Run K Q T' (mkF K.m pc' L S)) : Run K Q T (mkF K.m pc L (.int x :: .int j :: .ref a :: S)) := by
  obtain ⟨locs, X0, N, hz, eT⟩ := X; obtain ⟨hx, hZ, hby, -, hown, -⟩ := cx; obtain ⟨dd, rfl⟩ := hd
  have A0 := A
  obtain ⟨c, Ar, hc, hlen⟩ := A
  have hs : c.slots.size = xs.length := by have := congrArg List.length hc; simpa using this
  have hn : n < 2 ^ 31 := by simp at hlen; omega
  subst hj
  have e1 := ofNat_clamp hn
  obtain ⟨T1, h1, X1, eh1, W1, st1⟩ := stS X0 hx hZ eT Ar (j := Int32.ofNat n) (x := x) (by rw [e1, hs]; intro q; rcases q with q | q; exact ofNat_neg hn q; omega) (g := mkF K.m pc L (.int x :: .int (Int32.ofNat n) :: .ref a :: S)) rfl rfl (hb hby dd)
  have hz1 : K.n0 ≤ h1.size := by rw [W1.size]; exact hz
  have N1 := Fr.snoc X1 N ge
  rw [e1] at W1
  exact Run.st st1 (k T1 h1 ⟨_, X1, N1, hz1, eh1⟩ W1 (AI.set A0 W1))
theorem r_bastore {xs : List Int32} {a : Addr} {j : Int32} {x : Int32} (X : Sd K T h cl sl) (cx : Cx K y bytes mx rt R) (hd : Dc bytes pc .bastore 1 pc') (A : AI .byte K.Z h a xs) (n : Nat) (hj : j = Int32.ofNat n) (hl : n < xs.length) (ge : K.n0 ≤ a) (k : ∀ T' h', Sd K T' h' cl sl → Wr h h' a n (.int (nar .byte x)) → AI .byte K.Z h' a (xs.set n (nar .byte x)) → Run K Q T' (mkF K.m pc' L S)) : Run K Q T (mkF K.m pc L (.int x :: .int j :: .ref a :: S)) := by
  obtain ⟨locs, X0, N, hz, eT⟩ := X; obtain ⟨hx, hZ, hby, -, hown, -⟩ := cx; obtain ⟨dd, rfl⟩ := hd
  have A0 := A
  obtain ⟨c, Ar, hc, hlen⟩ := A
  have hs : c.slots.size = xs.length := by have := congrArg List.length hc; simpa using this
  have hn : n < 2 ^ 31 := by simp at hlen; omega
  subst hj
  have e1 := ofNat_clamp hn
  obtain ⟨T1, h1, X1, eh1, W1, st1⟩ := stB X0 hx hZ eT Ar (j := Int32.ofNat n) (x := x) (by rw [e1, hs]; intro q; rcases q with q | q; exact ofNat_neg hn q; omega) (g := mkF K.m pc L (.int x :: .int (Int32.ofNat n) :: .ref a :: S)) rfl rfl (hb hby dd)
  have hz1 : K.n0 ≤ h1.size := by rw [W1.size]; exact hz
  have N1 := Fr.snoc X1 N ge
  rw [e1] at W1
  exact Run.st st1 (k T1 h1 ⟨_, X1, N1, hz1, eh1⟩ W1 (AI.set A0 W1))
theorem r_lastore {xs : List Int64} {a : Addr} {j : Int32} {x : Int64} (X : Sd K T h cl sl) (cx : Cx K y bytes mx rt R) (hd : Dc bytes pc .lastore 1 pc') (A : AJ K.Z h a xs) (n : Nat) (hj : j = Int32.ofNat n) (hl : n < xs.length) (ge : K.n0 ≤ a) (k : ∀ T' h', Sd K T' h' cl sl → Wr h h' a n (.long x) → AJ K.Z h' a (xs.set n x) → Run K Q T' (mkF K.m pc' L S)) : Run K Q T (mkF K.m pc L (.long x :: .int j :: .ref a :: S)) := by
  obtain ⟨locs, X0, N, hz, eT⟩ := X; obtain ⟨hx, hZ, hby, -, hown, -⟩ := cx; obtain ⟨dd, rfl⟩ := hd
  have A0 := A
  obtain ⟨c, Ar, hc, hlen⟩ := A
  have hs : c.slots.size = xs.length := by have := congrArg List.length hc; simpa using this
  have hn : n < 2 ^ 31 := by simp at hlen; omega
  subst hj
  have e1 := ofNat_clamp hn
  obtain ⟨T1, h1, X1, eh1, W1, st1⟩ := stJ X0 hx hZ eT Ar (j := Int32.ofNat n) (x := x) (by rw [e1, hs]; intro q; rcases q with q | q; exact ofNat_neg hn q; omega) (g := mkF K.m pc L (.long x :: .int (Int32.ofNat n) :: .ref a :: S)) rfl rfl (hb hby dd)
  have hz1 : K.n0 ≤ h1.size := by rw [W1.size]; exact hz
  have N1 := Fr.snoc X1 N ge
  rw [e1] at W1
  exact Run.st st1 (k T1 h1 ⟨_, X1, N1, hz1, eh1⟩ W1 (AJ.set A0 W1))
theorem r_newarray {aty : ArrayType} {a0 : Array Value} {z : Int32} (X : Sd K T h cl sl) (cx : Cx K y bytes mx rt R) (hd : Dc bytes pc (.newarray aty) 2 pc') (w : (Cond.arrayClass (newarray.typeOf aty)).before a0 K.Z = true) (n cap : Nat) (hj : z = Int32.ofNat n) (hcap : n ≤ cap) (hb8 : cap * 8 ≤ 536870912) (hc : cl + 1 ≤ R.cells) (hs : sl + cap ≤ R.slots)
    (k : ∀ T' h' a, a = h.size → K.n0 ≤ a → Sd K T' h' (cl + 1) (sl + cap) → Ext h h' → AV K.Z h' a (newarray.typeOf aty) (List.replicate n (defaultValue (newarray.typeOf aty))) → Run K Q T' (mkF K.m pc' L (.ref a :: S))) : Run K Q T (mkF K.m pc L (.int z :: S)) := by
  obtain ⟨locs, X0, N, hz, eT⟩ := X; obtain ⟨hx, hZ, hby, -, hown, -, -, hR, -⟩ := cx; obtain ⟨dd, rfl⟩ := hd
  have hn : n < 2 ^ 31 := by omega
  subst hj
  have e1 := ofNat_clamp hn
  obtain ⟨T1, h1, cA, X1, eh1, E1, A1, st1⟩ := newP X0 hx hZ w eT (g := mkF K.m pc L (.int (Int32.ofNat n) :: S)) rfl (hb hby dd) (n := Int32.ofNat n) rfl (ofNat_neg hn) (cap := cap) (by rw [e1]; exact hcap) hb8 (by rw [hR]; exact hc) (by rw [hR]; exact hs)
  refine Run.st st1 (k T1 h1 h.size rfl hz ⟨locs, X1, N, Nat.le_trans hz E1.1, eh1⟩ E1 ⟨_, A1, ?_, by simpa using hn⟩)
  simp [newA, e1]
theorem AI.new {ty : FieldType} {Z : State} {h : Heap} {a : Addr} {n : Nat} (A : AV Z h a ty (List.replicate n (.int 0))) : AI ty Z h a (List.replicate n 0) := by
  show AV Z h a ty _
  rw [List.map_replicate]; exact A
theorem AJ.new {Z : State} {h : Heap} {a : Addr} {n : Nat} (A : AV Z h a .long (List.replicate n (.long 0))) : AJ Z h a (List.replicate n 0) := by
  show AV Z h a .long _
  rw [List.map_replicate]; exact A
end Rules
/-! contracts and calls -/
def Con (l : Launch) (Z : State) (y : MethodName) (bytes : ByteArray) (mx : Nat) (rt : Option FieldType) (rm : Room) (as : Array Value) (h0 : Heap) (n0 : Nat) (Q : Option Value → Heap → Prop) : Prop :=
  ∀ ws, MetFree l y (head1 (Jvm.Cond.code y bytes mx rt :: ws) rm) (fun a U => a = as ∧ Z.Warmed39 U.vm ∧ U.heap = h0) (fun _ _ _ _ _ => True) (fun _ U o U' => ∃ v L, o = .returned v ∧ (Q v U'.heap ∧ Fr n0 L) ∧ FrameEnd U o U' L rm.cells rm.slots)
theorem Con.of {l : Launch} {Z : State} {y : MethodName} {bytes : ByteArray} {mx : Nat} {rt : Option FieldType} {rm : Room} {as : Array Value} {h0 : Heap} {n0 : Nat} {Q : Option Value → Heap → Prop} (hy : plainFor y = true) (Z0 : n0 ≤ h0.size)
    (body : ∀ K : KT, K.l = l → K.Z = Z → K.n0 = n0 → Cx K y bytes mx rt rm → ∀ T, Sd K T h0 0 0 → Run K Q T (entryFrame K.m as mx)) : Con l Z y bytes mx rt rm as h0 n0 Q := by
  intro ws
  refine MetFree.of_bodySF hy hisR ?_
  intro p e s m args below meth c s₁ Bd hml0 hP hK
  obtain ⟨rfl, hZ, hh⟩ := hP
  have hown : s.vm.findClass y.cls = some m.cls := findClass_of_methodNamed Bd.named
  have hnm := (name_of_methodNamed Bd.named Bd.method).1
  have X0 : Stand p l e rm s m args below meth c s₁ [] 0 0 := Stand.of_body Bd
  have e0 : s₁.heap = h0 := by rw [← hh, Bd.state]; rfl
  obtain ⟨s₂, v, L, h1, h2, h3, h4, h5, h6⟩ := body (p, l, e, rm, s, m, args, below, meth, c, Z, n0) rfl rfl rfl ⟨Bd.exec, hZ, Bd.bytes, hml0, hown, Bd.returns, Bd.notSynchronized, rfl, hnm⟩ s₁ ⟨[], X0, Fr.nil n0, Z0, e0⟩
  exact ⟨s₂, _, h1, h2, h3, v, L, rfl, ⟨h4, h5⟩, h6⟩
section Calls
variable {K : KT} {Q : Option Value → Heap → Prop} {T : State} {h : Heap} {cl sl : Nat} {y : MethodName} {bytes : ByteArray} {mx : Nat} {rt : Option FieldType} {R : Room} {pc pc' pt : Nat} {L : Array Slot}
theorem r_static {z : MethodName} {zb : ByteArray} {zm : Nat} {zr : Option FieldType} {rm : Room} {i : Nat} {a0 : Array Value} {Qz : Option Value → Heap → Prop} {St : List Value} (argsL rest : List Value) (X : Sd K T h cl sl) (cx : Cx K y bytes mx rt R) (hd : Dc bytes pc (.invokestatic i) 3 pc')
    (w1 : (Cond.methodLink y.cls i z).before a0 K.Z = true) (w2 : (Cond.static z).before a0 K.Z = true) (w3 : (Cond.initialized z.cls).before a0 K.Z = true) (w4 : (Cond.code z zb zm zr).before a0 K.Z = true) (hm : z.cls ≠ "java/lang/invoke/MethodHandle" ∧ z.cls ≠ "java/lang/invoke/VarHandle")
    (con : Con K.l K.Z z zb zm zr rm argsL.toArray h K.n0 Qz) (hpd : ∀ sig, parseMethodDescriptor z.desc = some sig → argsL.length = sig.parameters.length) (hSt : St = argsL.reverse ++ rest) (hsz : L.size = mx) (hf : rm.frames + 1 ≤ R.frames) (hl : (rest.map fun v => v.category).sum + (zm + 11) + rm.locals ≤ R.locals) (hc : cl + rm.cells ≤ R.cells) (hs : sl + rm.slots ≤ R.slots)
    (k : ∀ T' h' v, Sd K T' h' (cl + rm.cells) (sl + rm.slots) → Qz v h' → Run K Q T' (mkF K.m pc' L (v.toList ++ rest))) (hmono : ∀ v h', Qz v h' → h.size ≤ h'.size) : Run K Q T (mkF K.m pc L St) := by
  obtain ⟨locs, X0, N, hz, eT⟩ := X; obtain ⟨hx, hZ, hby, hml, hown, -, -, hR, -⟩ := cx; obtain ⟨dd, rfl⟩ := hd
  obtain ⟨v, _, ⟨T1, L1, k1, n1⟩, -, X1, ⟨Lc, ⟨hQ, hF⟩, l1, y1, z1⟩, st1⟩ := Jvm.LawKit.callS X0 hx (y := z) hown (mvT hZ w1) (mvT hZ w2) (mvT hZ w3) (mvT hZ w4) hm (backOf (W := (rest.map fun v => v.category).sum) (Q := fun v h L => Qz v h ∧ Fr K.n0 L) (con []) hZ w4 w3 (by rw [hR]; exact hf) (by rw [hR]; exact hl)) (g := mkF K.m pc L St) rfl (by rw [hml]; exact hsz) (argsL := argsL) (rest := rest) hpd hSt (by show 2 * 0 + _ ≤ _; omega) (hb hby dd) (fun _ _ => ⟨rfl, eT, by rw [hR]; exact hc, by rw [hR]; exact hs⟩)
  dsimp only [Pt.U, Pt.locs, Pt.cells, Pt.slots] at X1 l1 y1 z1 st1 hQ
  subst l1 y1 z1
  exact Run.st st1 (k T1 _ v ⟨_, X1, Fr.app N hF, Nat.le_trans hz (hmono _ _ hQ), rfl⟩ hQ)
theorem r_virtual {z : MethodName} {C : String} {zb : ByteArray} {zm : Nat} {zr : Option FieldType} {rm : Room} {i : Nat} {a : Addr} {a0 : Array Value} {Qz : Option Value → Heap → Prop} {St : List Value} (argsL rest : List Value) (X : Sd K T h cl sl) (cx : Cx K y bytes mx rt R) (hd : Dc bytes pc (.invokevirtual i) 3 pc') (E : Exa K.Z h a C)
    (w1 : (Cond.methodLink y.cls i z).before a0 K.Z = true) (w2 : (Cond.declares z).before a0 K.Z = true) (w3 : (Cond.selects C z z).before a0 K.Z = true) (w4 : (Cond.instanceMethod z).before a0 K.Z = true) (w5 : (Cond.initialized z.cls).before a0 K.Z = true) (w6 : (Cond.code z zb zm zr).before a0 K.Z = true) (hm : z.cls ≠ "java/lang/invoke/MethodHandle" ∧ z.cls ≠ "java/lang/invoke/VarHandle")
    (con : Con K.l K.Z z zb zm zr rm (.ref a :: argsL).toArray h K.n0 Qz) (hpd : ∀ sig, parseMethodDescriptor z.desc = some sig → argsL.length = sig.parameters.length) (hSt : St = argsL.reverse ++ .ref a :: rest) (hsz : L.size = mx) (hf : rm.frames + 1 ≤ R.frames) (hl : (rest.map fun v => v.category).sum + (zm + 11) + rm.locals ≤ R.locals) (hc : cl + rm.cells ≤ R.cells) (hs : sl + rm.slots ≤ R.slots)
    (k : ∀ T' h' v, Sd K T' h' (cl + rm.cells) (sl + rm.slots) → Qz v h' → Run K Q T' (mkF K.m pc' L (v.toList ++ rest))) (hmono : ∀ v h', Qz v h' → h.size ≤ h'.size) : Run K Q T (mkF K.m pc L St) := by
  obtain ⟨locs, X0, N, hz, eT⟩ := X; obtain ⟨hx, hZ, hby, hml, hown, -, -, hR, -⟩ := cx; obtain ⟨dd, rfl⟩ := hd
  obtain ⟨cq, kq, qa, qb, qc⟩ := isOf hZ eT E
  obtain ⟨v, _, ⟨T1, L1, k1, n1⟩, -, X1, ⟨Lc, ⟨hQ, hF⟩, l1, y1, z1⟩, st1⟩ := X0.virtualBack hx (y := z) (z := z) hown (mvT hZ w1) (mvT hZ w2) (notFace_of_selects (args := #[]) (mvT hZ w3)) (mvT hZ w3) (mvT hZ w4) hm (backOf (W := (rest.map fun v => v.category).sum) (Q := fun v h L => Qz v h ∧ Fr K.n0 L) (con []) hZ w6 w5 (by rw [hR]; exact hf) (by rw [hR]; exact hl)) qa qc (g := mkF K.m pc L St) rfl (by rw [hml]; exact hsz) (Steps.refl _) (argsL := argsL) (rest := rest) hpd hSt (by show 2 * 0 + _ ≤ _; omega) (hb hby dd) (fun _ _ => ⟨rfl, eT, by rw [hR]; exact hc, by rw [hR]; exact hs⟩)
  dsimp only [Pt.U, Pt.locs, Pt.cells, Pt.slots] at X1 l1 y1 z1 st1 hQ
  subst l1 y1 z1
  exact Run.st (fun t q => st1.trans q) (k T1 _ v ⟨_, X1, Fr.app N hF, Nat.le_trans hz (hmono _ _ hQ), rfl⟩ hQ)
theorem r_private {z z' : MethodName} {C C' : String} {zb : ByteArray} {zm : Nat} {zr : Option FieldType} {rm : Room} {i : Nat} {a : Addr} {a0 : Array Value} {Qz : Option Value → Heap → Prop} {St : List Value} (argsL rest : List Value) (X : Sd K T h cl sl) (cx : Cx K y bytes mx rt R) (hd : Dc bytes pc (.invokevirtual i) 3 pc') (E : Exa K.Z h a C)
    (w1 : (Cond.methodLink y.cls i z).before a0 K.Z = true) (w2 : (Cond.selects C' z' z').before a0 K.Z = true) (w3 : (Cond.instanceMethod z).before a0 K.Z = true) (w4 : (Cond.privateMethod z).before a0 K.Z = true) (w5 : (Cond.initialized z.cls).before a0 K.Z = true) (w6 : (Cond.code z zb zm zr).before a0 K.Z = true) (hzz : z'.cls = z.cls) (hm : z.cls ≠ "java/lang/invoke/MethodHandle" ∧ z.cls ≠ "java/lang/invoke/VarHandle")
    (con : Con K.l K.Z z zb zm zr rm (.ref a :: argsL).toArray h K.n0 Qz) (hpd : ∀ sig, parseMethodDescriptor z.desc = some sig → argsL.length = sig.parameters.length) (hSt : St = argsL.reverse ++ .ref a :: rest) (hsz : L.size = mx) (hf : rm.frames + 1 ≤ R.frames) (hl : (rest.map fun v => v.category).sum + (zm + 11) + rm.locals ≤ R.locals) (hc : cl + rm.cells ≤ R.cells) (hs : sl + rm.slots ≤ R.slots)
    (k : ∀ T' h' v, Sd K T' h' (cl + rm.cells) (sl + rm.slots) → Qz v h' → Run K Q T' (mkF K.m pc' L (v.toList ++ rest))) (hmono : ∀ v h', Qz v h' → h.size ≤ h'.size) : Run K Q T (mkF K.m pc L St) := by
  obtain ⟨locs, X0, N, hz, eT⟩ := X; obtain ⟨hx, hZ, hby, hml, hown, -, -, hR, -⟩ := cx; obtain ⟨dd, rfl⟩ := hd
  obtain ⟨cq, qa, qb⟩ := E.cell
  have u2 : (Cond.selects C' z' z').before K.args K.s = true := mvT hZ w2
  have u3 : (Cond.instanceMethod z).before K.args K.s = true := mvT hZ w3
  obtain ⟨c2, r2, m2, q1, q2, q3, q4, kP, hkP, hkPi⟩ := Cond.selects_spec u2
  have hc2 := findClass_of_methodNamed q3
  rw [hzz] at hc2
  have hpriv := Cond.privateMethod_at (mvP hZ w4 (args := K.args))
  have hsel := selects_self_of_private hc2 hkP hkPi hpriv u3 hm
  obtain ⟨v, _, ⟨T1, L1, k1, n1⟩, -, X1, ⟨Lc, ⟨hQ, hF⟩, l1, y1, z1⟩, st1⟩ := X0.privateBack hx (y := z) hown (mvT hZ w1) u3 hsel hpriv (mvT hZ w6) hm (backOf (W := (rest.map fun v => v.category).sum) (Q := fun v h L => Qz v h ∧ Fr K.n0 L) (con []) hZ w6 w5 (by rw [hR]; exact hf) (by rw [hR]; exact hl)) (g := mkF K.m pc L St) rfl (by rw [hml]; exact hsz) (Steps.refl _) (a := a) (by rw [eT]; exact qa) qb (argsL := argsL) (rest := rest) hpd hSt (by show 2 * 0 + _ ≤ _; omega) (hb hby dd) (fun _ _ => ⟨rfl, eT, by rw [hR]; exact hc, by rw [hR]; exact hs⟩)
  dsimp only [Pt.U, Pt.locs, Pt.cells, Pt.slots] at X1 l1 y1 z1 st1 hQ
  subst l1 y1 z1
  exact Run.st (fun t q => st1.trans q) (k T1 _ v ⟨_, X1, Fr.app N hF, Nat.le_trans hz (hmono _ _ hQ), rfl⟩ hQ)
theorem r_special {z : MethodName} {zb : ByteArray} {zm : Nat} {rm : Room} {i : Nat} {a : Addr} {a0 : Array Value} {Qz : Option Value → Heap → Prop} {St : List Value} (argsL rest : List Value) (X : Sd K T h cl sl) (cx : Cx K y bytes mx rt R) (hd : Dc bytes pc (.invokespecial i) 3 pc') (hzn : z.name = "<init>")
    (w1 : (Cond.methodLink y.cls i z).before a0 K.Z = true) (w2 : (Cond.instanceMethod z).before a0 K.Z = true) (w3 : (Cond.initialized z.cls).before a0 K.Z = true) (w4 : (Cond.code z zb zm none).before a0 K.Z = true) (hm : z.cls ≠ "java/lang/invoke/MethodHandle" ∧ z.cls ≠ "java/lang/invoke/VarHandle")
    (con : Con K.l K.Z z zb zm none rm (.ref a :: argsL).toArray h K.n0 Qz) (hpd : ∀ sig, parseMethodDescriptor z.desc = some sig → argsL.length = sig.parameters.length) (hSt : St = argsL.reverse ++ .ref a :: rest) (hsz : L.size = mx) (hf : rm.frames + 1 ≤ R.frames) (hl : (rest.map fun v => v.category).sum + (zm + 11) + rm.locals ≤ R.locals) (hc : cl + rm.cells ≤ R.cells) (hs : sl + rm.slots ≤ R.slots)
    (k : ∀ T' h' v, Sd K T' h' (cl + rm.cells) (sl + rm.slots) → Qz v h' → Run K Q T' (mkF K.m pc' L (v.toList ++ rest))) (hmono : ∀ v h', Qz v h' → h.size ≤ h'.size) : Run K Q T (mkF K.m pc L St) := by
  obtain ⟨locs, X0, N, hz, eT⟩ := X; obtain ⟨hx, hZ, hby, hml, hown, -, -, hR, -⟩ := cx; obtain ⟨dd, rfl⟩ := hd
  obtain ⟨v, _, ⟨T1, L1, k1, n1⟩, -, X1, ⟨Lc, ⟨hQ, hF⟩, l1, y1, z1⟩, st1⟩ := X0.specialBack hx (y := z) hzn hown (mvT hZ w1) (mvT hZ w2) (mvT hZ w4) hm (backOf (W := (rest.map fun v => v.category).sum) (Q := fun v h L => Qz v h ∧ Fr K.n0 L) (con []) hZ w4 w3 (by rw [hR]; exact hf) (by rw [hR]; exact hl)) (g := mkF K.m pc L St) rfl (by rw [hml]; exact hsz) (Steps.refl _) (a := a) (argsL := argsL) (rest := rest) hpd hSt (by show 2 * 0 + _ ≤ _; omega) (hb hby dd) (fun _ _ => ⟨rfl, eT, by rw [hR]; exact hc, by rw [hR]; exact hs⟩)
  dsimp only [Pt.U, Pt.locs, Pt.cells, Pt.slots] at X1 l1 y1 z1 st1 hQ
  subst l1 y1 z1
  exact Run.st (fun t q => st1.trans q) (k T1 _ v ⟨_, X1, Fr.app N hF, Nat.le_trans hz (hmono _ _ hQ), rfl⟩ hQ)
end Calls
end Jvm.Own
namespace Jvm.Pilot.@@N@@
open Jvm Jvm.ClassFile Sem Op Lib Jvm.Free Jvm.Stand Jvm.LawKit Jvm.RoadKit Bundle Jvm.Own Jvm.Pilot.@@N@@.Jvm.D
theorem pd_0 : parseMethodDescriptor "(IJ[J)V" = some ⟨[.int, .long, .array .long], none⟩ := by decide +kernel
theorem pd_1 : parseMethodDescriptor "(J)J" = some ⟨[.long], some (.long)⟩ := by decide +kernel
def PA (Z : State) (h : Heap) (o ws : Addr) (f : Int32) (mask n : Int64) (xs : List Int64) : Prop :=
  Exa Z h o "com/example/epsilon_filter/epsilonfilter/filters/PackedArray" ∧ Fld Z h o "com/example/epsilon_filter/epsilonfilter/filters/PackedArray" "valueBits" "I" (.int f) ∧ Fld Z h o "com/example/epsilon_filter/epsilonfilter/filters/PackedArray" "valueMask" "J" (.long mask) ∧ Fld Z h o "com/example/epsilon_filter/epsilonfilter/filters/PackedArray" "length" "J" (.long n) ∧ Fld Z h o "com/example/epsilon_filter/epsilonfilter/filters/PackedArray" "words" "[J" (.ref ws) ∧ AJ Z h ws xs ∧ o ≠ ws
def own_mask (f : Int32) : Int64 := (1 : Int64) <<< (Int32.toInt64 f &&& 63) - 1
def own_got (W V : Int64) (f s : Int32) : Int64 := (if ¬ (64 : Int32) < s + f then XT.ushrL W s else XT.ushrL W s ||| (V <<< (Int32.toInt64 (64 - s) &&& 63))) &&& own_mask f
theorem own_p : ∀ p : Fin 192, (XT.ushrL (Int64.ofNat p.val) 6).toInt32 = Int32.ofNat (p.val / 64) ∧ (Int64.ofNat p.val).toInt32 &&& 63 = Int32.ofNat (p.val % 64) ∧ (Int64.ofNat p.val / 64).toInt32 = Int32.ofNat (p.val / 64) ∧ (Int64.ofNat p.val - Int64.ofNat p.val / 64 * 64).toInt32 = Int32.ofNat (p.val % 64) := by decide +kernel
theorem own_nd : ∀ f : Fin 64, 1 ≤ f.val → (192 : Int64) / Int32.toInt64 (Int32.ofNat f.val) = Int64.ofNat (192 / f.val) ∧ Int32.toInt64 (Int32.ofNat f.val) = Int64.ofNat f.val ∧ ¬ Int32.toInt64 (Int32.ofNat f.val) = 0 ∧ 1 ≤ 192 / f.val ∧ 192 / f.val ≤ 192 := by decide +kernel
theorem own_shc : ∀ k : Fin 64, ((Int32.toInt64 (Int32.ofNat k.val) &&& 63).toBitVec.smod 64).toNat = k.val ∧ ((Int32.ofNat k.val).toInt64.toUInt64 &&& Int64.toUInt64 63).toBitVec.toNat % 64 = k.val := by decide +kernel
theorem own_shl (x : Int64) {k : Nat} (hk : k < 64) : (x <<< (Int32.toInt64 (Int32.ofNat k) &&& 63)).toBitVec = x.toBitVec <<< k := by
  rw [Int64.toBitVec_shiftLeft, BitVec.shiftLeft_eq', (own_shc ⟨k, hk⟩).1]
theorem own_us (x : Int64) (y : Int32) (n : Nat) (h : (y.toInt64.toUInt64 &&& Int64.toUInt64 63).toBitVec.toNat % 64 = n) : (XT.ushrL x y).toBitVec = x.toBitVec >>> n := by
  subst h
  show (x.toUInt64 >>> (y.toInt64.toUInt64 &&& Int64.toUInt64 63)).toBitVec = _
  rw [UInt64.toBitVec_shiftRight]
  simp [BitVec.ushiftRight_eq']
theorem own_shr (x : Int64) {k : Nat} (hk : k < 64) : (XT.ushrL x (Int32.ofNat k)).toBitVec = x.toBitVec >>> k := own_us x _ k (own_shc ⟨k, hk⟩).2
theorem own_mb : ∀ f i : Fin 64, ((1#64 <<< f.val) - 1#64).getLsbD i.val = decide (i.val < f.val) := by decide +kernel
theorem own_mbit {f : Nat} (hf : f < 64) (i : Nat) : ((1#64 <<< f) - 1#64).getLsbD i = decide (i < f) := by
  by_cases hi : i < 64
  · exact own_mb ⟨f, hf⟩ ⟨i, hi⟩
  · rw [BitVec.getLsbD_of_ge _ _ (by omega)]
    simp; omega
theorem own_two (W V : BitVec 64) {f s : Nat} (hf : f < 64) (hs : s < 64) (h : 64 < s + f) : (W >>> s ||| V <<< (64 - s)) &&& ((1#64 <<< f) - 1#64) = W >>> s ||| (V &&& ((1#64 <<< (f - (64 - s))) - 1#64)) <<< (64 - s) := by
  apply BitVec.eq_of_getLsbD_eq
  intro i hi
  simp only [BitVec.getLsbD_and, BitVec.getLsbD_or, BitVec.getLsbD_ushiftRight, BitVec.getLsbD_shiftLeft, own_mbit hf, own_mbit (show f - (64 - s) < 64 by omega)]
  by_cases h1 : i < f
  · by_cases h2 : i < 64 - s
    · simp [h1, h2]
    · have : i - (64 - s) < f - (64 - s) := by omega
      simp [h1, h2, this]
  · have h2 : ¬ i < 64 - s := by omega
    have h3 : ¬ i - (64 - s) < f - (64 - s) := by omega
    rw [BitVec.getLsbD_of_ge W (s + i) (by omega)]
    simp [h1, h3]
theorem own_sub : ∀ s : Fin 64, (64 : Int32) - Int32.ofNat s.val = Int32.ofNat (64 - s.val) := by decide +kernel
theorem own_sub2 {a b : Nat} (h : b ≤ a) : Int32.ofNat a - Int32.ofNat b = Int32.ofNat (a - b) := by
  have : Int32.ofNat a = Int32.ofNat (a - b) + Int32.ofNat b := by rw [← Int32.ofNat_add, Nat.sub_add_cancel h]
  rw [this, Int32.add_sub_cancel]
theorem own_lt64 {s f : Nat} (hs : s < 64) (hf : f < 64) : (64 : Int32) < Int32.ofNat s + Int32.ofNat f ↔ 64 < s + f := by
  rw [← Int32.ofNat_add, Int32.lt_iff_toInt_lt, Int32.toInt_ofNat_of_lt (by omega)]
  show (64 : Int) < _ ↔ _
  omega
theorem own_gotlaw (W V : Int64) {f s : Nat} (hf : f < 64) (hs : s < 64) (hs0 : 64 < s + f) : own_got W V (Int32.ofNat f) (Int32.ofNat s) = XT.ushrL W (Int32.ofNat s) ||| ((V &&& ((1 : Int64) <<< (Int32.toInt64 (Int32.ofNat f - (64 - Int32.ofNat s)) &&& 63) - 1)) <<< (Int32.toInt64 (64 - Int32.ofNat s) &&& 63)) := by
  unfold own_got own_mask
  rw [if_neg (by rw [own_lt64 hs hf]; omega), own_sub ⟨s, hs⟩]
  simp only
  rw [own_sub2 (by omega)]
  apply Int64.toBitVec_inj.mp
  by_cases h64 : s = 0
  · omega
  simp only [Int64.toBitVec_or, Int64.toBitVec_and, Int64.toBitVec_sub, own_shr _ hs, own_shl _ hf, own_shl _ (show 64 - s < 64 by omega), own_shl _ (show f - (64 - s) < 64 by omega)]
  exact own_two _ _ hf hs hs0
theorem own_irem (x y : Int32) (hx : 0 ≤ x.toInt) (hy : 0 < y.toInt) : (x - x / y * y).toInt = x.toInt % y.toInt := by
  have h1 : (x / y).toInt = x.toInt / y.toInt := by
    rw [Int32.toInt_div, Int.tdiv_eq_ediv_of_nonneg hx]
    have h2 := Int.ediv_nonneg hx (Int.le_of_lt hy)
    have h3 := Int.ediv_le_self y.toInt hx
    have := x.toInt_lt
    exact Int.bmod_eq_of_le (by omega) (by omega)
  have h2 : x.toInt / y.toInt * y.toInt = x.toInt - x.toInt % y.toInt := by
    have := Int.mul_ediv_add_emod x.toInt y.toInt
    rw [Int.mul_comm] at this; omega
  have h3 := Int.emod_nonneg x.toInt (Int.ne_of_gt hy)
  have h4 := Int.emod_lt_of_pos x.toInt hy
  have h5 : x.toInt % y.toInt ≤ x.toInt := by
    have := Int.ediv_nonneg hx (Int.le_of_lt hy)
    have := Int.mul_nonneg this (Int.le_of_lt hy)
    omega
  have := x.toInt_lt
  have hm : (x / y * y).toInt = x.toInt - x.toInt % y.toInt := by
    rw [Int32.toInt_mul, h1, h2]
    exact Int.bmod_eq_of_le (by omega) (by omega)
  rw [Int32.toInt_sub, hm]
  have : x.toInt - (x.toInt - x.toInt % y.toInt) = x.toInt % y.toInt := by omega
  rw [this]
  exact Int.bmod_eq_of_le (by omega) (by omega)
theorem own_lrem (x y : Int64) (hx : 0 ≤ x.toInt) (hy : 0 < y.toInt) : (x - x / y * y).toInt = x.toInt % y.toInt := by
  have h1 : (x / y).toInt = x.toInt / y.toInt := by
    rw [Int64.toInt_div, Int.tdiv_eq_ediv_of_nonneg hx]
    have h2 := Int.ediv_nonneg hx (Int.le_of_lt hy)
    have h3 := Int.ediv_le_self y.toInt hx
    have := x.toInt_lt
    exact Int.bmod_eq_of_le (by omega) (by omega)
  have h2 : x.toInt / y.toInt * y.toInt = x.toInt - x.toInt % y.toInt := by
    have := Int.mul_ediv_add_emod x.toInt y.toInt
    rw [Int.mul_comm] at this; omega
  have h3 := Int.emod_nonneg x.toInt (Int.ne_of_gt hy)
  have h4 := Int.emod_lt_of_pos x.toInt hy
  have h5 : x.toInt % y.toInt ≤ x.toInt := by
    have := Int.ediv_nonneg hx (Int.le_of_lt hy)
    have := Int.mul_nonneg this (Int.le_of_lt hy)
    omega
  have := x.toInt_lt
  have hm : (x / y * y).toInt = x.toInt - x.toInt % y.toInt := by
    rw [Int64.toInt_mul, h1, h2]
    exact Int.bmod_eq_of_le (by omega) (by omega)
  rw [Int64.toInt_sub, hm]
  have : x.toInt - (x.toInt - x.toInt % y.toInt) = x.toInt % y.toInt := by omega
  rw [this]
  exact Int.bmod_eq_of_le (by omega) (by omega)
theorem own_and31 (x : Int32) : 0 ≤ (x &&& 2147483647).toInt := by
  have hle : (x &&& 2147483647).toBitVec.toNat ≤ 2147483647 := by
    rw [Int32.toBitVec_and, BitVec.toNat_and]; exact Nat.and_le_right
  show 0 ≤ (x &&& 2147483647).toBitVec.toInt
  rw [BitVec.toInt_eq_toNat_of_lt (by omega)]
  omega
theorem own_and63 (x : Int64) : 0 ≤ (x &&& 9223372036854775807).toInt := by
  have hle : (x &&& 9223372036854775807).toBitVec.toNat ≤ 9223372036854775807 := by
    rw [Int64.toBitVec_and, BitVec.toNat_and]; exact Nat.and_le_right
  show 0 ≤ (x &&& 9223372036854775807).toBitVec.toInt
  rw [BitVec.toInt_eq_toNat_of_lt (by omega)]
  omega
theorem own_f (x : Int32) : ∃ f : Nat, 1 ≤ f ∧ f ≤ 63 ∧ (1 : Int32) + ((x &&& 2147483647) - (x &&& 2147483647) / 63 * 63) = Int32.ofNat f := by
  have h := own_irem (x &&& 2147483647) 63 (own_and31 x) (by decide)
  have h2 : ((63 : Int32).toInt) = 63 := rfl
  rw [h2] at h
  have h3 := Int.emod_nonneg (x &&& 2147483647).toInt (show (63 : Int) ≠ 0 by decide)
  have h4 := Int.emod_lt_of_pos (x &&& 2147483647).toInt (show (0 : Int) < 63 by decide)
  generalize (x &&& 2147483647) - (x &&& 2147483647) / 63 * 63 = r at h
  refine ⟨r.toInt.toNat + 1, by omega, by omega, ?_⟩
  apply Int32.toInt_inj.mp
  rw [Int32.toInt_ofNat_of_lt (by omega), Int32.toInt_add]
  have : (1 : Int32).toInt = 1 := rfl
  rw [this, Int.bmod_eq_of_le (by omega) (by omega)]
  omega
theorem own_i (x : Int64) {n : Nat} (h1 : 1 ≤ n) (h2 : n ≤ 192) : ∃ i : Nat, i < n ∧ (x &&& 9223372036854775807) - (x &&& 9223372036854775807) / Int64.ofNat n * Int64.ofNat n = Int64.ofNat i := by
  have hn : (Int64.ofNat n).toInt = n := Int64.toInt_ofNat_of_lt (by omega)
  have h := own_lrem (x &&& 9223372036854775807) (Int64.ofNat n) (own_and63 x) (by omega)
  rw [hn] at h
  have h3 := Int.emod_nonneg (x &&& 9223372036854775807).toInt (show (n : Int) ≠ 0 by omega)
  have h4 := Int.emod_lt_of_pos (x &&& 9223372036854775807).toInt (show (0 : Int) < n by omega)
  generalize (x &&& 9223372036854775807) - (x &&& 9223372036854775807) / Int64.ofNat n * Int64.ofNat n = r at h
  refine ⟨r.toInt.toNat, by omega, ?_⟩
  apply Int64.toInt_inj.mp
  rw [Int64.toInt_ofNat_of_lt (by omega)]
  omega
theorem own_if {i f : Nat} (hi : i < 192 / f) : i * f + f ≤ 192 := by
  have h := Nat.div_mul_le_self 192 f
  have h2 : (i + 1) * f ≤ 192 / f * f := Nat.mul_le_mul_right f hi
  rw [Nat.add_mul] at h2; omega
theorem own_gdL {xs : List Int64} {n : Nat} (h : n < xs.length) : xs[n]? = some (xs[n]?.getD 0) := by
  rw [List.getElem?_eq_getElem h]; rfl
theorem P59m2_0 : Dc prog_59_method_2_code 0 (.aload_n 0) 1 1 := ⟨(by decide +kernel), rfl⟩
theorem P59m2_1 : Dc prog_59_method_2_code 1 (.invokespecial 11) 3 4 := ⟨(by decide +kernel), rfl⟩
theorem P59m2_4 : Dc prog_59_method_2_code 4 (.aload_n 0) 1 5 := ⟨(by decide +kernel), rfl⟩
theorem P59m2_5 : Dc prog_59_method_2_code 5 (.iload_n 1) 1 6 := ⟨(by decide +kernel), rfl⟩
theorem P59m2_6 : Dc prog_59_method_2_code 6 (.putfield 16) 3 9 := ⟨(by decide +kernel), rfl⟩
theorem P59m2_9 : Dc prog_59_method_2_code 9 (.aload_n 0) 1 10 := ⟨(by decide +kernel), rfl⟩
theorem P59m2_10 : Dc prog_59_method_2_code 10 (.lconst 1) 1 11 := ⟨(by decide +kernel), rfl⟩
theorem P59m2_11 : Dc prog_59_method_2_code 11 (.iload_n 1) 1 12 := ⟨(by decide +kernel), rfl⟩
theorem P59m2_12 : Dc prog_59_method_2_code 12 (.lshl) 1 13 := ⟨(by decide +kernel), rfl⟩
theorem P59m2_13 : Dc prog_59_method_2_code 13 (.lconst 1) 1 14 := ⟨(by decide +kernel), rfl⟩
theorem P59m2_14 : Dc prog_59_method_2_code 14 (.lsub) 1 15 := ⟨(by decide +kernel), rfl⟩
theorem P59m2_15 : Dc prog_59_method_2_code 15 (.putfield 20) 3 18 := ⟨(by decide +kernel), rfl⟩
theorem P59m2_18 : Dc prog_59_method_2_code 18 (.aload_n 0) 1 19 := ⟨(by decide +kernel), rfl⟩
theorem P59m2_19 : Dc prog_59_method_2_code 19 (.lload_n 2) 1 20 := ⟨(by decide +kernel), rfl⟩
theorem P59m2_20 : Dc prog_59_method_2_code 20 (.putfield 24) 3 23 := ⟨(by decide +kernel), rfl⟩
theorem P59m2_23 : Dc prog_59_method_2_code 23 (.aload_n 0) 1 24 := ⟨(by decide +kernel), rfl⟩
theorem P59m2_24 : Dc prog_59_method_2_code 24 (.aload 4) 2 26 := ⟨(by decide +kernel), rfl⟩
theorem P59m2_26 : Dc prog_59_method_2_code 26 (.putfield 27) 3 29 := ⟨(by decide +kernel), rfl⟩
theorem P59m2_29 : Dc prog_59_method_2_code 29 (.return_) 1 30 := ⟨(by decide +kernel), rfl⟩
theorem ef_P59m2 (m : MethodId) (o : Addr) (f : Int32) (n : Int64) (ws : Addr) : entryFrame m #[(.ref o), (.int f), (.long n), (.ref ws)] 5 = mkF m 0 #[.val (.ref o), .val (.int f), .val (.long n), .second, .val (.ref ws)] [] := by first | (simp [entryFrame, mkF, argsToLocals, Value.category]; done) | rfl
set_option maxRecDepth 65536 in
set_option maxHeartbeats 40000000 in
theorem con_P59m2 (l : Launch) (Z : State) (a0 : Array Value) (hw : Tb tables_1 a0 Z) (o : Addr) (f : Int32) (n : Int64) (ws : Addr) (h0 : Heap) (n0 : Nat) (Z0 : n0 ≤ h0.size) (xs : List Int64) (E_o : Exa Z h0 o "com/example/epsilon_filter/epsilonfilter/filters/PackedArray") (F_vb : Fld Z h0 o "com/example/epsilon_filter/epsilonfilter/filters/PackedArray" "valueBits" "I" (.int 0)) (F_vm : Fld Z h0 o "com/example/epsilon_filter/epsilonfilter/filters/PackedArray" "valueMask" "J" (.long 0)) (F_ln : Fld Z h0 o "com/example/epsilon_filter/epsilonfilter/filters/PackedArray" "length" "J" (.long 0)) (F_ws : Fld Z h0 o "com/example/epsilon_filter/epsilonfilter/filters/PackedArray" "words" "[J" .null) (A_ws : AJ Z h0 ws xs) (ne_o_ws : o ≠ ws) (g_o : n0 ≤ o) :
    Con l Z (⟨"com/example/epsilon_filter/epsilonfilter/filters/PackedArray", "<init>", "(IJ[J)V"⟩ : MethodName) prog_59_method_2_code 5 (none) ({ frames := 1, cells := 0, slots := 0, locals := 12 } : Room) #[(.ref o), (.int f), (.long n), (.ref ws)] h0 n0 (fun v h => h0.size ≤ h.size ∧ v = none ∧ PA Z h o ws f (own_mask f) n xs) := by
  refine Con.of (plainFor_of_name (by decide +kernel)) Z0 ?_
  intro K hl hZ hn cx T0 X0
  subst hl hZ hn
  refine Run.cast (ef_P59m2 K.m o f n ws) ?_
  refine r_aloadN X0 cx P59m2_0 rfl ?_
  refine r_initO X0 cx P59m2_1 (hw.get 10 rfl) (hw.get 11 rfl) (hw.get 12 rfl) rfl (by decide) (leb rfl) (fun T1 X1 => ?_)
  refine r_aloadN X1 cx P59m2_4 rfl ?_
  refine r_iloadN X1 cx P59m2_5 rfl ?_
  refine r_putfield X1 cx P59m2_6 (hw.get 13 rfl) F_vb E_o (Or.inr ⟨(hw.get 14 rfl), rfl, rfl⟩) (hw.get 5 rfl) (ty := .int) (by decide) rfl rfl g_o (fun T2 h2 X2 W2 N2 => ?_)
  replace F_vm := F_vm.other W2 (Or.inr (slot_ne (Or.inr (hw.get 16 rfl)) (Or.inr (hw.get 14 rfl)) (by decide) (t := .long) (t' := .int) (by decide) (by decide)))
  replace F_ln := F_ln.other W2 (Or.inr (slot_ne (Or.inr (hw.get 18 rfl)) (Or.inr (hw.get 14 rfl)) (by decide) (t := .long) (t' := .int) (by decide) (by decide)))
  replace F_ws := F_ws.other W2 (Or.inr (slot_ne (Or.inr (hw.get 20 rfl)) (Or.inr (hw.get 14 rfl)) (by decide) (t := .array .long) (t' := .int) (by decide) (by decide)))
  replace E_o := E_o.wr W2
  replace A_ws := A_ws.other W2 ne_o_ws.symm
  have F_vb := N2
  refine r_aloadN X2 cx P59m2_9 rfl ?_
  refine r_lconst (1) X2 cx P59m2_10 rfl ?_
  refine r_iloadN X2 cx P59m2_11 rfl ?_
  refine r_lshl X2 cx P59m2_12 ?_
  refine r_lconst (1) X2 cx P59m2_13 rfl ?_
  refine r_lsub X2 cx P59m2_14 ?_
  refine r_putfield X2 cx P59m2_15 (hw.get 15 rfl) F_vm E_o (Or.inr ⟨(hw.get 16 rfl), rfl, rfl⟩) (hw.get 5 rfl) (ty := .long) (by decide) rfl rfl g_o (fun T3 h3 X3 W3 N3 => ?_)
  replace F_vb := F_vb.other W3 (Or.inr (slot_ne (Or.inr (hw.get 14 rfl)) (Or.inr (hw.get 16 rfl)) (by decide) (t := .int) (t' := .long) (by decide) (by decide)))
  replace F_ln := F_ln.other W3 (Or.inr (slot_ne (Or.inr (hw.get 18 rfl)) (Or.inr (hw.get 16 rfl)) (by decide) (t := .long) (t' := .long) (by decide) (by decide)))
  replace F_ws := F_ws.other W3 (Or.inr (slot_ne (Or.inr (hw.get 20 rfl)) (Or.inr (hw.get 16 rfl)) (by decide) (t := .array .long) (t' := .long) (by decide) (by decide)))
  replace E_o := E_o.wr W3
  replace A_ws := A_ws.other W3 ne_o_ws.symm
  have F_vm := N3
  refine r_aloadN X3 cx P59m2_18 rfl ?_
  refine r_lloadN X3 cx P59m2_19 rfl ?_
  refine r_putfield X3 cx P59m2_20 (hw.get 17 rfl) F_ln E_o (Or.inr ⟨(hw.get 18 rfl), rfl, rfl⟩) (hw.get 5 rfl) (ty := .long) (by decide) rfl rfl g_o (fun T4 h4 X4 W4 N4 => ?_)
  replace F_vb := F_vb.other W4 (Or.inr (slot_ne (Or.inr (hw.get 14 rfl)) (Or.inr (hw.get 18 rfl)) (by decide) (t := .int) (t' := .long) (by decide) (by decide)))
  replace F_vm := F_vm.other W4 (Or.inr (slot_ne (Or.inr (hw.get 16 rfl)) (Or.inr (hw.get 18 rfl)) (by decide) (t := .long) (t' := .long) (by decide) (by decide)))
  replace F_ws := F_ws.other W4 (Or.inr (slot_ne (Or.inr (hw.get 20 rfl)) (Or.inr (hw.get 18 rfl)) (by decide) (t := .array .long) (t' := .long) (by decide) (by decide)))
  replace E_o := E_o.wr W4
  replace A_ws := A_ws.other W4 ne_o_ws.symm
  have F_ln := N4
  refine r_aloadN X4 cx P59m2_23 rfl ?_
  refine r_aload X4 cx P59m2_24 rfl ?_
  refine r_putfield X4 cx P59m2_26 (hw.get 19 rfl) F_ws E_o (Or.inr ⟨(hw.get 20 rfl), rfl, rfl⟩) (hw.get 5 rfl) (ty := .array .long) (by decide) rfl rfl g_o (fun T5 h5 X5 W5 N5 => ?_)
  replace F_vb := F_vb.other W5 (Or.inr (slot_ne (Or.inr (hw.get 14 rfl)) (Or.inr (hw.get 20 rfl)) (by decide) (t := .int) (t' := .array .long) (by decide) (by decide)))
  replace F_vm := F_vm.other W5 (Or.inr (slot_ne (Or.inr (hw.get 16 rfl)) (Or.inr (hw.get 20 rfl)) (by decide) (t := .long) (t' := .array .long) (by decide) (by decide)))
  replace F_ln := F_ln.other W5 (Or.inr (slot_ne (Or.inr (hw.get 18 rfl)) (Or.inr (hw.get 20 rfl)) (by decide) (t := .long) (t' := .array .long) (by decide) (by decide)))
  replace E_o := E_o.wr W5
  replace A_ws := A_ws.other W5 ne_o_ws.symm
  have F_ws := N5
  refine r_return X5 cx P59m2_29 (by decide) (by decide) ?_
  refine ⟨?_, rfl, E_o, F_vb, F_vm, F_ln, F_ws, A_ws, ne_o_ws⟩
  rw [W5.size, W4.size, W3.size, W2.size]; exact Nat.le_refl _
theorem P59m9_0 : Dc prog_59_method_9_code 0 (.lload_n 1) 1 1 := ⟨(by decide +kernel), rfl⟩
theorem P59m9_1 : Dc prog_59_method_9_code 1 (.aload_n 0) 1 2 := ⟨(by decide +kernel), rfl⟩
theorem P59m9_2 : Dc prog_59_method_9_code 2 (.getfield 16) 3 5 := ⟨(by decide +kernel), rfl⟩
theorem P59m9_5 : Dc prog_59_method_9_code 5 (.i2l) 1 6 := ⟨(by decide +kernel), rfl⟩
theorem P59m9_6 : Dc prog_59_method_9_code 6 (.lmul) 1 7 := ⟨(by decide +kernel), rfl⟩
theorem P59m9_7 : Dc prog_59_method_9_code 7 (.lstore_n 3) 1 8 := ⟨(by decide +kernel), rfl⟩
theorem P59m9_8 : Dc prog_59_method_9_code 8 (.lload_n 3) 1 9 := ⟨(by decide +kernel), rfl⟩
theorem P59m9_9 : Dc prog_59_method_9_code 9 (.bipush 6) 2 11 := ⟨(by decide +kernel), rfl⟩
theorem P59m9_11 : Dc prog_59_method_9_code 11 (.lushr) 1 12 := ⟨(by decide +kernel), rfl⟩
theorem P59m9_12 : Dc prog_59_method_9_code 12 (.l2i) 1 13 := ⟨(by decide +kernel), rfl⟩
theorem P59m9_13 : Dc prog_59_method_9_code 13 (.istore 5) 2 15 := ⟨(by decide +kernel), rfl⟩
theorem P59m9_15 : Dc prog_59_method_9_code 15 (.lload_n 3) 1 16 := ⟨(by decide +kernel), rfl⟩
theorem P59m9_16 : Dc prog_59_method_9_code 16 (.l2i) 1 17 := ⟨(by decide +kernel), rfl⟩
theorem P59m9_17 : Dc prog_59_method_9_code 17 (.bipush 63) 2 19 := ⟨(by decide +kernel), rfl⟩
theorem P59m9_19 : Dc prog_59_method_9_code 19 (.iand) 1 20 := ⟨(by decide +kernel), rfl⟩
theorem P59m9_20 : Dc prog_59_method_9_code 20 (.istore 6) 2 22 := ⟨(by decide +kernel), rfl⟩
theorem P59m9_22 : Dc prog_59_method_9_code 22 (.aload_n 0) 1 23 := ⟨(by decide +kernel), rfl⟩
theorem P59m9_23 : Dc prog_59_method_9_code 23 (.getfield 27) 3 26 := ⟨(by decide +kernel), rfl⟩
theorem P59m9_26 : Dc prog_59_method_9_code 26 (.iload 5) 2 28 := ⟨(by decide +kernel), rfl⟩
theorem P59m9_28 : Dc prog_59_method_9_code 28 (.laload) 1 29 := ⟨(by decide +kernel), rfl⟩
theorem P59m9_29 : Dc prog_59_method_9_code 29 (.iload 6) 2 31 := ⟨(by decide +kernel), rfl⟩
theorem P59m9_31 : Dc prog_59_method_9_code 31 (.lushr) 1 32 := ⟨(by decide +kernel), rfl⟩
theorem P59m9_32 : Dc prog_59_method_9_code 32 (.lstore 7) 2 34 := ⟨(by decide +kernel), rfl⟩
theorem P59m9_34 : Dc prog_59_method_9_code 34 (.iload 6) 2 36 := ⟨(by decide +kernel), rfl⟩
theorem P59m9_36 : Dc prog_59_method_9_code 36 (.aload_n 0) 1 37 := ⟨(by decide +kernel), rfl⟩
theorem P59m9_37 : Dc prog_59_method_9_code 37 (.getfield 16) 3 40 := ⟨(by decide +kernel), rfl⟩
theorem P59m9_40 : Dc prog_59_method_9_code 40 (.iadd) 1 41 := ⟨(by decide +kernel), rfl⟩
theorem P59m9_41 : Dc prog_59_method_9_code 41 (.bipush 64) 2 43 := ⟨(by decide +kernel), rfl⟩
theorem P59m9_43 : Db prog_59_method_9_code 43 (.if_icmp .le 23) (23) 46 66 := ⟨(by decide +kernel), rfl, by decide, by decide⟩
theorem P59m9_46 : Dc prog_59_method_9_code 46 (.lload 7) 2 48 := ⟨(by decide +kernel), rfl⟩
theorem P59m9_48 : Dc prog_59_method_9_code 48 (.aload_n 0) 1 49 := ⟨(by decide +kernel), rfl⟩
theorem P59m9_49 : Dc prog_59_method_9_code 49 (.getfield 27) 3 52 := ⟨(by decide +kernel), rfl⟩
theorem P59m9_52 : Dc prog_59_method_9_code 52 (.iload 5) 2 54 := ⟨(by decide +kernel), rfl⟩
theorem P59m9_54 : Dc prog_59_method_9_code 54 (.iconst 1) 1 55 := ⟨(by decide +kernel), rfl⟩
theorem P59m9_55 : Dc prog_59_method_9_code 55 (.iadd) 1 56 := ⟨(by decide +kernel), rfl⟩
theorem P59m9_56 : Dc prog_59_method_9_code 56 (.laload) 1 57 := ⟨(by decide +kernel), rfl⟩
theorem P59m9_57 : Dc prog_59_method_9_code 57 (.bipush 64) 2 59 := ⟨(by decide +kernel), rfl⟩
theorem P59m9_59 : Dc prog_59_method_9_code 59 (.iload 6) 2 61 := ⟨(by decide +kernel), rfl⟩
theorem P59m9_61 : Dc prog_59_method_9_code 61 (.isub) 1 62 := ⟨(by decide +kernel), rfl⟩
theorem P59m9_62 : Dc prog_59_method_9_code 62 (.lshl) 1 63 := ⟨(by decide +kernel), rfl⟩
theorem P59m9_63 : Dc prog_59_method_9_code 63 (.lor) 1 64 := ⟨(by decide +kernel), rfl⟩
theorem P59m9_64 : Dc prog_59_method_9_code 64 (.lstore 7) 2 66 := ⟨(by decide +kernel), rfl⟩
theorem P59m9_66 : Dc prog_59_method_9_code 66 (.lload 7) 2 68 := ⟨(by decide +kernel), rfl⟩
theorem P59m9_68 : Dc prog_59_method_9_code 68 (.aload_n 0) 1 69 := ⟨(by decide +kernel), rfl⟩
theorem P59m9_69 : Dc prog_59_method_9_code 69 (.getfield 20) 3 72 := ⟨(by decide +kernel), rfl⟩
theorem P59m9_72 : Dc prog_59_method_9_code 72 (.land) 1 73 := ⟨(by decide +kernel), rfl⟩
theorem P59m9_73 : Dc prog_59_method_9_code 73 (.lreturn) 1 74 := ⟨(by decide +kernel), rfl⟩
theorem ef_P59m9 (m : MethodId) (o : Addr) (ix : Int64) : entryFrame m #[(.ref o), (.long ix)] 9 = mkF m 0 #[.val (.ref o), .val (.long ix), .second, .unset, .unset, .unset, .unset, .unset, .unset] [] := by first | (simp [entryFrame, mkF, argsToLocals, Value.category]; done) | rfl
set_option maxRecDepth 65536 in
set_option maxHeartbeats 40000000 in
theorem con_P59m9 (l : Launch) (Z : State) (a0 : Array Value) (hw : Tb tables_1 a0 Z) (o : Addr) (ix : Int64) (h0 : Heap) (n0 : Nat) (Z0 : n0 ≤ h0.size) (ws : Addr) (n : Int64) (xs : List Int64) (i nf : Nat) (B : PA Z h0 o ws (Int32.ofNat nf) (own_mask (Int32.ofNat nf)) n xs) (eix : ix = Int64.ofNat i) (hf1 : 1 ≤ nf) (hf : nf ≤ 63) (hif : i * nf + nf ≤ 192) (hxl : xs.length = 3) :
    Con l Z (⟨"com/example/epsilon_filter/epsilonfilter/filters/PackedArray", "getLong", "(J)J"⟩ : MethodName) prog_59_method_9_code 9 (some (.long)) ({ frames := 0, cells := 0, slots := 0, locals := 0 } : Room) #[(.ref o), (.long ix)] h0 n0 (fun v h => h0 = h ∧ v = some (.long (own_got (xs[i * nf / 64]?.getD 0) (xs[i * nf / 64 + 1]?.getD 0) (Int32.ofNat nf) (Int32.ofNat (i * nf % 64))))) := by
  refine Con.of (plainFor_of_name (by decide +kernel)) Z0 ?_
  intro K hl hZ hn cx T0 X0
  subst hl hZ hn
  refine Run.cast (ef_P59m9 K.m o ix) ?_
  obtain ⟨E_o, F_vb, F_vm, F_ln, F_ws, A_ws, ne_o_ws⟩ := B
  refine r_lloadN X0 cx P59m9_0 rfl ?_
  refine r_aloadN X0 cx P59m9_1 rfl ?_
  refine r_getfield X0 cx P59m9_2 (hw.get 13 rfl) F_vb (fun T1 X1 => ?_)
  refine r_i2l X1 cx P59m9_5 ?_
  refine r_lmul X1 cx P59m9_6 ?_
  refine r_lstoreN (fun zz => #[.val (.ref o), .val (.long ix), .second, .val (.long zz), .second, .unset, .unset, .unset, .unset]) X1 cx P59m9_7 (fun _ => rfl) (fun bit e_bit => ?_)
  obtain ⟨p, hp⟩ : ∃ p : Nat, p = i * nf := ⟨_, rfl⟩
  have ebit : bit = Int64.ofNat p := by rw [e_bit, eix, (own_nd ⟨nf, by omega⟩ hf1).2.1, hp, Int64.ofNat_mul]
  rw [← hp] at hif ⊢
  have hpp := own_p ⟨p, by omega⟩
  simp only at hpp
  clear e_bit
  refine r_lloadN X1 cx P59m9_8 rfl ?_
  refine r_bipush (6) X1 cx P59m9_9 rfl ?_
  refine r_lushr X1 cx P59m9_11 ?_
  refine r_l2i X1 cx P59m9_12 ?_
  refine r_istore (fun zz => #[.val (.ref o), .val (.long ix), .second, .val (.long bit), .second, .val (.int zz), .unset, .unset, .unset]) X1 cx P59m9_13 (fun _ => rfl) (fun wd e_wd => ?_)
  have ewd : wd = Int32.ofNat (p / 64) := by rw [e_wd, ebit]; exact hpp.1
  refine r_lloadN X1 cx P59m9_15 rfl ?_
  refine r_l2i X1 cx P59m9_16 ?_
  refine r_bipush (63) X1 cx P59m9_17 rfl ?_
  refine r_iand X1 cx P59m9_19 ?_
  refine r_istore (fun zz => #[.val (.ref o), .val (.long ix), .second, .val (.long bit), .second, .val (.int wd), .val (.int zz), .unset, .unset]) X1 cx P59m9_20 (fun _ => rfl) (fun sh e_sh => ?_)
  have esh : sh = Int32.ofNat (p % 64) := by rw [e_sh, ebit]; exact hpp.2.1
  have hm64 : p % 64 < 64 := Nat.mod_lt _ (by decide)
  refine r_aloadN X1 cx P59m9_22 rfl ?_
  refine r_getfield X1 cx P59m9_23 (hw.get 19 rfl) F_ws (fun T2 X2 => ?_)
  refine r_iload X2 cx P59m9_26 rfl ?_
  refine r_laload X2 cx P59m9_28 A_ws (p / 64) ewd (v := (xs[p / 64]?.getD 0)) (own_gdL (by omega)) ?_
  refine r_iload X2 cx P59m9_29 rfl ?_
  refine r_lushr X2 cx P59m9_31 ?_
  refine r_lstore (fun zz => #[.val (.ref o), .val (.long ix), .second, .val (.long bit), .second, .val (.int wd), .val (.int sh), .val (.long zz), .second]) X2 cx P59m9_32 (fun _ => rfl) (fun va e_va => ?_)
  refine r_iload X2 cx P59m9_34 rfl ?_
  refine r_aloadN X2 cx P59m9_36 rfl ?_
  refine r_getfield X2 cx P59m9_37 (hw.get 13 rfl) F_vb (fun T3 X3 => ?_)
  refine r_iadd X3 cx P59m9_40 ?_
  refine r_bipush (64) X3 cx P59m9_41 rfl ?_
  refine r_icmple X3 cx P59m9_43 (fun c43 => ?_) (fun c43 => ?_)
  · refine r_lload X3 cx P59m9_66 rfl ?_
    refine r_aloadN X3 cx P59m9_68 rfl ?_
    refine r_getfield X3 cx P59m9_69 (hw.get 15 rfl) F_vm (fun T4 X4 => ?_)
    refine r_land X4 cx P59m9_72 ?_
    refine r_lreturn X4 cx P59m9_73 (by decide) (by decide) ?_
    refine ⟨rfl, ?_⟩
    unfold own_got
    rw [esh] at c43
    first | (rw [if_pos c43, e_va, esh]) | (rw [if_neg (fun q => q c43), e_vb, e_va, esh])
  · refine r_lload X3 cx P59m9_46 rfl ?_
    refine r_aloadN X3 cx P59m9_48 rfl ?_
    refine r_getfield X3 cx P59m9_49 (hw.get 19 rfl) F_ws (fun T4 X4 => ?_)
    refine r_iload X4 cx P59m9_52 rfl ?_
    refine r_iconst (1) X4 cx P59m9_54 rfl ?_
    refine r_iadd X4 cx P59m9_55 ?_
    refine r_laload X4 cx P59m9_56 A_ws (p / 64 + 1) (by rw [ewd]; exact (Int32.ofNat_add _ 1).symm) (v := (xs[p / 64 + 1]?.getD 0)) (own_gdL (by rw [esh, own_lt64 hm64 (by omega)] at c43; omega)) ?_
    refine r_bipush (64) X4 cx P59m9_57 rfl ?_
    refine r_iload X4 cx P59m9_59 rfl ?_
    refine r_isub X4 cx P59m9_61 ?_
    refine r_lshl X4 cx P59m9_62 ?_
    refine r_lor X4 cx P59m9_63 ?_
    refine r_lstore (fun zz => #[.val (.ref o), .val (.long ix), .second, .val (.long bit), .second, .val (.int wd), .val (.int sh), .val (.long zz), .second]) X4 cx P59m9_64 (fun _ => rfl) (fun vb e_vb => ?_)
    refine r_lload X4 cx P59m9_66 rfl ?_
    refine r_aloadN X4 cx P59m9_68 rfl ?_
    refine r_getfield X4 cx P59m9_69 (hw.get 15 rfl) F_vm (fun T5 X5 => ?_)
    refine r_land X5 cx P59m9_72 ?_
    refine r_lreturn X5 cx P59m9_73 (by decide) (by decide) ?_
    refine ⟨rfl, ?_⟩
    unfold own_got
    rw [esh] at c43
    first | (rw [if_pos c43, e_va, esh]) | (rw [if_neg (fun q => q c43), e_vb, e_va, esh])
theorem L_0 : Dc code 0 (.iconst 1) 1 1 := ⟨at_0, rfl⟩
theorem L_1 : Dc code 1 (.iload_n 0) 1 2 := ⟨at_1, rfl⟩
theorem L_2 : Dc code 2 (.ldc 7) 2 4 := ⟨at_2, rfl⟩
theorem L_4 : Dc code 4 (.iand) 1 5 := ⟨at_4, rfl⟩
theorem L_5 : Dc code 5 (.bipush 63) 2 7 := ⟨at_5, rfl⟩
theorem L_7 : Dc code 7 (.irem) 1 8 := ⟨at_7, rfl⟩
theorem L_8 : Dc code 8 (.iadd) 1 9 := ⟨at_8, rfl⟩
theorem L_9 : Dc code 9 (.istore 9) 2 11 := ⟨at_9, rfl⟩
theorem L_11 : Dc code 11 (.ldc2_w 8) 3 14 := ⟨at_11, rfl⟩
theorem L_14 : Dc code 14 (.iload 9) 2 16 := ⟨at_14, rfl⟩
theorem L_16 : Dc code 16 (.i2l) 1 17 := ⟨at_16, rfl⟩
theorem L_17 : Dc code 17 (.ldiv) 1 18 := ⟨at_17, rfl⟩
theorem L_18 : Dc code 18 (.lstore 10) 2 20 := ⟨at_18, rfl⟩
theorem L_20 : Dc code 20 (.lload_n 1) 1 21 := ⟨at_20, rfl⟩
theorem L_21 : Dc code 21 (.ldc2_w 10) 3 24 := ⟨at_21, rfl⟩
theorem L_24 : Dc code 24 (.land) 1 25 := ⟨at_24, rfl⟩
theorem L_25 : Dc code 25 (.lload 10) 2 27 := ⟨at_25, rfl⟩
theorem L_27 : Dc code 27 (.lrem) 1 28 := ⟨at_27, rfl⟩
theorem L_28 : Dc code 28 (.lstore 12) 2 30 := ⟨at_28, rfl⟩
theorem L_30 : Dc code 30 (.iconst 3) 1 31 := ⟨at_30, rfl⟩
theorem L_31 : Dc code 31 (.newarray .long) 2 33 := ⟨at_31, rfl⟩
theorem L_33 : Dc code 33 (.dup) 1 34 := ⟨at_33, rfl⟩
theorem L_34 : Dc code 34 (.iconst 0) 1 35 := ⟨at_34, rfl⟩
theorem L_35 : Dc code 35 (.lload_n 3) 1 36 := ⟨at_35, rfl⟩
theorem L_36 : Dc code 36 (.lastore) 1 37 := ⟨at_36, rfl⟩
theorem L_37 : Dc code 37 (.dup) 1 38 := ⟨at_37, rfl⟩
theorem L_38 : Dc code 38 (.iconst 1) 1 39 := ⟨at_38, rfl⟩
theorem L_39 : Dc code 39 (.lload 5) 2 41 := ⟨at_39, rfl⟩
theorem L_41 : Dc code 41 (.lastore) 1 42 := ⟨at_41, rfl⟩
theorem L_42 : Dc code 42 (.dup) 1 43 := ⟨at_42, rfl⟩
theorem L_43 : Dc code 43 (.iconst 2) 1 44 := ⟨at_43, rfl⟩
theorem L_44 : Dc code 44 (.lload 7) 2 46 := ⟨at_44, rfl⟩
theorem L_46 : Dc code 46 (.lastore) 1 47 := ⟨at_46, rfl⟩
theorem L_47 : Dc code 47 (.astore 14) 2 49 := ⟨at_47, rfl⟩
theorem L_49 : Dc code 49 (.new 12) 3 52 := ⟨at_49, rfl⟩
theorem L_52 : Dc code 52 (.dup) 1 53 := ⟨at_52, rfl⟩
theorem L_53 : Dc code 53 (.iload 9) 2 55 := ⟨at_53, rfl⟩
theorem L_55 : Dc code 55 (.lload 10) 2 57 := ⟨at_55, rfl⟩
theorem L_57 : Dc code 57 (.aload 14) 2 59 := ⟨at_57, rfl⟩
theorem L_59 : Dc code 59 (.invokespecial 14) 3 62 := ⟨at_59, rfl⟩
theorem L_62 : Dc code 62 (.astore 15) 2 64 := ⟨at_62, rfl⟩
theorem L_64 : Dc code 64 (.aload 15) 2 66 := ⟨at_64, rfl⟩
theorem L_66 : Dc code 66 (.lload 12) 2 68 := ⟨at_66, rfl⟩
theorem L_68 : Dc code 68 (.invokevirtual 17) 3 71 := ⟨at_68, rfl⟩
theorem L_71 : Dc code 71 (.lstore 16) 2 73 := ⟨at_71, rfl⟩
theorem L_73 : Dc code 73 (.lload 12) 2 75 := ⟨at_73, rfl⟩
theorem L_75 : Dc code 75 (.iload 9) 2 77 := ⟨at_75, rfl⟩
theorem L_77 : Dc code 77 (.i2l) 1 78 := ⟨at_77, rfl⟩
theorem L_78 : Dc code 78 (.lmul) 1 79 := ⟨at_78, rfl⟩
theorem L_79 : Dc code 79 (.lstore 18) 2 81 := ⟨at_79, rfl⟩
theorem L_81 : Dc code 81 (.lload 18) 2 83 := ⟨at_81, rfl⟩
theorem L_83 : Dc code 83 (.ldc2_w 21) 3 86 := ⟨at_83, rfl⟩
theorem L_86 : Dc code 86 (.ldiv) 1 87 := ⟨at_86, rfl⟩
theorem L_87 : Dc code 87 (.l2i) 1 88 := ⟨at_87, rfl⟩
theorem L_88 : Dc code 88 (.istore 20) 2 90 := ⟨at_88, rfl⟩
theorem L_90 : Dc code 90 (.lload 18) 2 92 := ⟨at_90, rfl⟩
theorem L_92 : Dc code 92 (.ldc2_w 21) 3 95 := ⟨at_92, rfl⟩
theorem L_95 : Dc code 95 (.lrem) 1 96 := ⟨at_95, rfl⟩
theorem L_96 : Dc code 96 (.l2i) 1 97 := ⟨at_96, rfl⟩
theorem L_97 : Dc code 97 (.istore 21) 2 99 := ⟨at_97, rfl⟩
theorem L_99 : Dc code 99 (.lconst 1) 1 100 := ⟨at_99, rfl⟩
theorem L_100 : Dc code 100 (.iload 9) 2 102 := ⟨at_100, rfl⟩
theorem L_102 : Dc code 102 (.lshl) 1 103 := ⟨at_102, rfl⟩
theorem L_103 : Dc code 103 (.lconst 1) 1 104 := ⟨at_103, rfl⟩
theorem L_104 : Dc code 104 (.lsub) 1 105 := ⟨at_104, rfl⟩
theorem L_105 : Dc code 105 (.lstore 22) 2 107 := ⟨at_105, rfl⟩
theorem L_107 : Dc code 107 (.iload 21) 2 109 := ⟨at_107, rfl⟩
theorem L_109 : Dc code 109 (.iload 9) 2 111 := ⟨at_109, rfl⟩
theorem L_111 : Dc code 111 (.iadd) 1 112 := ⟨at_111, rfl⟩
theorem L_112 : Dc code 112 (.bipush 64) 2 114 := ⟨at_112, rfl⟩
theorem L_114 : Db code 114 (.if_icmp .gt 19) (19) 117 133 := ⟨at_114, rfl, by decide, by decide⟩
theorem L_117 : Dc code 117 (.aload 14) 2 119 := ⟨at_117, rfl⟩
theorem L_119 : Dc code 119 (.iload 20) 2 121 := ⟨at_119, rfl⟩
theorem L_121 : Dc code 121 (.laload) 1 122 := ⟨at_121, rfl⟩
theorem L_122 : Dc code 122 (.iload 21) 2 124 := ⟨at_122, rfl⟩
theorem L_124 : Dc code 124 (.lushr) 1 125 := ⟨at_124, rfl⟩
theorem L_125 : Dc code 125 (.lload 22) 2 127 := ⟨at_125, rfl⟩
theorem L_127 : Dc code 127 (.land) 1 128 := ⟨at_127, rfl⟩
theorem L_128 : Dc code 128 (.lstore 24) 2 130 := ⟨at_128, rfl⟩
theorem L_130 : Db code 130 (.goto 53) (53) 133 183 := ⟨at_130, rfl, by decide, by decide⟩
theorem L_133 : Dc code 133 (.bipush 64) 2 135 := ⟨at_133, rfl⟩
theorem L_135 : Dc code 135 (.iload 21) 2 137 := ⟨at_135, rfl⟩
theorem L_137 : Dc code 137 (.isub) 1 138 := ⟨at_137, rfl⟩
theorem L_138 : Dc code 138 (.istore 26) 2 140 := ⟨at_138, rfl⟩
theorem L_140 : Dc code 140 (.iload 9) 2 142 := ⟨at_140, rfl⟩
theorem L_142 : Dc code 142 (.iload 26) 2 144 := ⟨at_142, rfl⟩
theorem L_144 : Dc code 144 (.isub) 1 145 := ⟨at_144, rfl⟩
theorem L_145 : Dc code 145 (.istore 27) 2 147 := ⟨at_145, rfl⟩
theorem L_147 : Dc code 147 (.aload 14) 2 149 := ⟨at_147, rfl⟩
theorem L_149 : Dc code 149 (.iload 20) 2 151 := ⟨at_149, rfl⟩
theorem L_151 : Dc code 151 (.laload) 1 152 := ⟨at_151, rfl⟩
theorem L_152 : Dc code 152 (.iload 21) 2 154 := ⟨at_152, rfl⟩
theorem L_154 : Dc code 154 (.lushr) 1 155 := ⟨at_154, rfl⟩
theorem L_155 : Dc code 155 (.lstore 28) 2 157 := ⟨at_155, rfl⟩
theorem L_157 : Dc code 157 (.aload 14) 2 159 := ⟨at_157, rfl⟩
theorem L_159 : Dc code 159 (.iload 20) 2 161 := ⟨at_159, rfl⟩
theorem L_161 : Dc code 161 (.iconst 1) 1 162 := ⟨at_161, rfl⟩
theorem L_162 : Dc code 162 (.iadd) 1 163 := ⟨at_162, rfl⟩
theorem L_163 : Dc code 163 (.laload) 1 164 := ⟨at_163, rfl⟩
theorem L_164 : Dc code 164 (.lconst 1) 1 165 := ⟨at_164, rfl⟩
theorem L_165 : Dc code 165 (.iload 27) 2 167 := ⟨at_165, rfl⟩
theorem L_167 : Dc code 167 (.lshl) 1 168 := ⟨at_167, rfl⟩
theorem L_168 : Dc code 168 (.lconst 1) 1 169 := ⟨at_168, rfl⟩
theorem L_169 : Dc code 169 (.lsub) 1 170 := ⟨at_169, rfl⟩
theorem L_170 : Dc code 170 (.land) 1 171 := ⟨at_170, rfl⟩
theorem L_171 : Dc code 171 (.lstore 30) 2 173 := ⟨at_171, rfl⟩
theorem L_173 : Dc code 173 (.lload 28) 2 175 := ⟨at_173, rfl⟩
theorem L_175 : Dc code 175 (.lload 30) 2 177 := ⟨at_175, rfl⟩
theorem L_177 : Dc code 177 (.iload 26) 2 179 := ⟨at_177, rfl⟩
theorem L_179 : Dc code 179 (.lshl) 1 180 := ⟨at_179, rfl⟩
theorem L_180 : Dc code 180 (.lor) 1 181 := ⟨at_180, rfl⟩
theorem L_181 : Dc code 181 (.lstore 24) 2 183 := ⟨at_181, rfl⟩
theorem L_183 : Dc code 183 (.aload 14) 2 185 := ⟨at_183, rfl⟩
theorem L_185 : Dc code 185 (.iconst 0) 1 186 := ⟨at_185, rfl⟩
theorem L_186 : Dc code 186 (.laload) 1 187 := ⟨at_186, rfl⟩
theorem L_187 : Dc code 187 (.lload_n 3) 1 188 := ⟨at_187, rfl⟩
theorem L_188 : Dc code 188 (.lcmp) 1 189 := ⟨at_188, rfl⟩
theorem L_189 : Db code 189 (.ifCond .ne 27) (27) 192 216 := ⟨at_189, rfl, by decide, by decide⟩
theorem L_192 : Dc code 192 (.aload 14) 2 194 := ⟨at_192, rfl⟩
theorem L_194 : Dc code 194 (.iconst 1) 1 195 := ⟨at_194, rfl⟩
theorem L_195 : Dc code 195 (.laload) 1 196 := ⟨at_195, rfl⟩
theorem L_196 : Dc code 196 (.lload 5) 2 198 := ⟨at_196, rfl⟩
theorem L_198 : Dc code 198 (.lcmp) 1 199 := ⟨at_198, rfl⟩
theorem L_199 : Db code 199 (.ifCond .ne 17) (17) 202 216 := ⟨at_199, rfl, by decide, by decide⟩
theorem L_202 : Dc code 202 (.aload 14) 2 204 := ⟨at_202, rfl⟩
theorem L_204 : Dc code 204 (.iconst 2) 1 205 := ⟨at_204, rfl⟩
theorem L_205 : Dc code 205 (.laload) 1 206 := ⟨at_205, rfl⟩
theorem L_206 : Dc code 206 (.lload 7) 2 208 := ⟨at_206, rfl⟩
theorem L_208 : Dc code 208 (.lcmp) 1 209 := ⟨at_208, rfl⟩
theorem L_209 : Db code 209 (.ifCond .ne 7) (7) 212 216 := ⟨at_209, rfl, by decide, by decide⟩
theorem L_212 : Dc code 212 (.iconst 1) 1 213 := ⟨at_212, rfl⟩
theorem L_213 : Db code 213 (.goto 4) (4) 216 217 := ⟨at_213, rfl, by decide, by decide⟩
theorem L_216 : Dc code 216 (.iconst 0) 1 217 := ⟨at_216, rfl⟩
theorem L_217 : Dc code 217 (.istore 26) 2 219 := ⟨at_217, rfl⟩
theorem L_219 : Dc code 219 (.lload 16) 2 221 := ⟨at_219, rfl⟩
theorem L_221 : Dc code 221 (.lload 24) 2 223 := ⟨at_221, rfl⟩
theorem L_223 : Dc code 223 (.lcmp) 1 224 := ⟨at_223, rfl⟩
theorem L_224 : Db code 224 (.ifCond .ne 12) (12) 227 236 := ⟨at_224, rfl, by decide, by decide⟩
theorem L_227 : Dc code 227 (.iload 26) 2 229 := ⟨at_227, rfl⟩
theorem L_229 : Db code 229 (.ifCond .eq 7) (7) 232 236 := ⟨at_229, rfl, by decide, by decide⟩
theorem L_232 : Dc code 232 (.iconst 1) 1 233 := ⟨at_232, rfl⟩
theorem L_233 : Db code 233 (.goto 4) (4) 236 237 := ⟨at_233, rfl, by decide, by decide⟩
theorem L_236 : Dc code 236 (.iconst 0) 1 237 := ⟨at_236, rfl⟩
theorem L_237 : Dc code 237 (.ireturn) 1 238 := ⟨at_237, rfl⟩
theorem ef_L (m : MethodId) (i0 : Int32) (i1 : Int64) (i2 : Int64) (i3 : Int64) (i4 : Int64) : entryFrame m #[(.int i0), (.long i1), (.long i2), (.long i3), (.long i4)] maxLocals = mkF m 0 #[.val (.int i0), .val (.long i1), .second, .val (.long i2), .second, .val (.long i3), .second, .val (.long i4), .second, .unset, .unset, .unset, .unset, .unset, .unset, .unset, .unset, .unset, .unset, .unset, .unset, .unset, .unset, .unset, .unset, .unset, .unset, .unset, .unset, .unset, .unset, .unset] [] := by first | (simp [entryFrame, mkF, argsToLocals, Value.category, maxLocals]; done) | rfl
set_option maxRecDepth 65536 in
set_option maxHeartbeats 40000000 in
theorem con_L (l : Launch) (Z : State) (a0 : Array Value) (hw : Tb tables_1 a0 Z) (i0 : Int32) (i1 : Int64) (i2 : Int64) (i3 : Int64) (i4 : Int64) (h0 : Heap) (n0 : Nat) (Z0 : n0 ≤ h0.size)  :
    Con l Z x code maxLocals ret room_1 #[(.int i0), (.long i1), (.long i2), (.long i3), (.long i4)] h0 n0 (fun v _ => v = some (.int 1)) := by
  refine Con.of (plainFor_of_name (by decide +kernel)) Z0 ?_
  intro K hl hZ hn cx T0 X0
  subst hl hZ hn
  refine Run.cast (ef_L K.m i0 i1 i2 i3 i4) ?_
  refine r_iconst (1) X0 cx L_0 rfl ?_
  refine r_iloadN X0 cx L_1 rfl ?_
  refine r_ldc X0 cx L_2 (hw.get 0 rfl) ?_
  refine r_iand X0 cx L_4 ?_
  refine r_bipush (63) X0 cx L_5 rfl ?_
  refine r_irem X0 cx L_7 (by decide) ?_
  refine r_iadd X0 cx L_8 ?_
  refine r_istore (fun zz => #[.val (.int i0), .val (.long i1), .second, .val (.long i2), .second, .val (.long i3), .second, .val (.long i4), .second, .val (.int zz), .unset, .unset, .unset, .unset, .unset, .unset, .unset, .unset, .unset, .unset, .unset, .unset, .unset, .unset, .unset, .unset, .unset, .unset, .unset, .unset, .unset, .unset]) X0 cx L_9 (fun _ => rfl) (fun f e_f => ?_)
  obtain ⟨nf, hf1, hf, q⟩ := own_f i0
  have ef : f = Int32.ofNat nf := e_f.trans q
  clear q e_f
  obtain ⟨hnn, hnc, hnz, hn1', hn192⟩ := own_nd ⟨nf, by omega⟩ hf1
  simp only at hnn hnc hnz hn1' hn192
  have hn0 : Int32.toInt64 f ≠ 0 := by rw [ef]; exact hnz
  refine r_ldc2 X0 cx L_11 (hw.get 1 rfl) ?_
  refine r_iload X0 cx L_14 rfl ?_
  refine r_i2l X0 cx L_16 ?_
  refine r_ldiv X0 cx L_17 hn0 ?_
  refine r_lstore (fun zz => #[.val (.int i0), .val (.long i1), .second, .val (.long i2), .second, .val (.long i3), .second, .val (.long i4), .second, .val (.int f), .val (.long zz), .second, .unset, .unset, .unset, .unset, .unset, .unset, .unset, .unset, .unset, .unset, .unset, .unset, .unset, .unset, .unset, .unset, .unset, .unset, .unset, .unset]) X0 cx L_18 (fun _ => rfl) (fun n e_n => ?_)
  have en : n = Int64.ofNat (192 / nf) := by rw [e_n, ef]; exact hnn
  clear e_n
  have hn1 : n ≠ 0 := by
    rw [en]; intro q
    have := congrArg Int64.toInt q
    rw [Int64.toInt_ofNat_of_lt (by omega)] at this
    have h0 : (0 : Int64).toInt = 0 := rfl
    omega
  obtain ⟨i, hi, qi⟩ := own_i i1 hn1' hn192
  refine r_lloadN X0 cx L_20 rfl ?_
  refine r_ldc2 X0 cx L_21 (hw.get 2 rfl) ?_
  refine r_land X0 cx L_24 ?_
  refine r_lload X0 cx L_25 rfl ?_
  refine r_lrem X0 cx L_27 hn1 ?_
  refine r_lstore (fun zz => #[.val (.int i0), .val (.long i1), .second, .val (.long i2), .second, .val (.long i3), .second, .val (.long i4), .second, .val (.int f), .val (.long n), .second, .val (.long zz), .second, .unset, .unset, .unset, .unset, .unset, .unset, .unset, .unset, .unset, .unset, .unset, .unset, .unset, .unset, .unset, .unset, .unset, .unset]) X0 cx L_28 (fun _ => rfl) (fun ix e_ix => ?_)
  have eix : ix = Int64.ofNat i := by rw [e_ix, en]; exact qi
  clear e_ix qi
  have hif := own_if hi
  refine r_iconst (3) X0 cx L_30 rfl ?_
  refine r_newarray X0 cx L_31 (hw.get 3 rfl) (3) 3 rfl (Nat.le_refl _) (by decide) (by decide) (by decide) (fun T1 h1 ws ea1 g_ws X1 Ex1 A1 => ?_)
  have A_ws : AJ K.Z h1 ws [0, 0, 0] := AJ.new A1
  refine r_dup X1 cx L_33 rfl ?_
  refine r_iconst (0) X1 cx L_34 rfl ?_
  refine r_lloadN X1 cx L_35 rfl ?_
  refine r_lastore X1 cx L_36 A_ws (0) rfl (ltb rfl) g_ws (fun T2 h2 X2 W2 N2 => ?_)
  have A_ws : AJ K.Z h2 ws [i2, 0, 0] := N2
  refine r_dup X2 cx L_37 rfl ?_
  refine r_iconst (1) X2 cx L_38 rfl ?_
  refine r_lload X2 cx L_39 rfl ?_
  refine r_lastore X2 cx L_41 A_ws (1) rfl (ltb rfl) g_ws (fun T3 h3 X3 W3 N3 => ?_)
  have A_ws : AJ K.Z h3 ws [i2, i3, 0] := N3
  refine r_dup X3 cx L_42 rfl ?_
  refine r_iconst (2) X3 cx L_43 rfl ?_
  refine r_lload X3 cx L_44 rfl ?_
  refine r_lastore X3 cx L_46 A_ws (2) rfl (ltb rfl) g_ws (fun T4 h4 X4 W4 N4 => ?_)
  have A_ws : AJ K.Z h4 ws [i2, i3, i4] := N4
  refine r_astore #[.val (.int i0), .val (.long i1), .second, .val (.long i2), .second, .val (.long i3), .second, .val (.long i4), .second, .val (.int f), .val (.long n), .second, .val (.long ix), .second, .val (.ref ws), .unset, .unset, .unset, .unset, .unset, .unset, .unset, .unset, .unset, .unset, .unset, .unset, .unset, .unset, .unset, .unset, .unset] X4 cx L_47 rfl ?_
  refine r_new X4 cx L_49 (hw.get 4 rfl) (hw.get 5 rfl) (hw.get 6 rfl) (by decide) (by decide) (fun T5 h5 o ea5 g_o X5 Ex5 E_o D5 => ?_)
  have ne_o_ws : o ≠ ws := ne_new ea5 A_ws.lt
  replace A_ws := A_ws.ext Ex5
  have F_valueBits_o := D5 (Or.inr (hw.get 14 rfl)) (ty := .int) (by decide)
  have F_valueMask_o := D5 (Or.inr (hw.get 16 rfl)) (ty := .long) (by decide)
  have F_length_o := D5 (Or.inr (hw.get 18 rfl)) (ty := .long) (by decide)
  have F_words_o := D5 (Or.inr (hw.get 20 rfl)) (ty := .array .long) (by decide)
  refine r_dup X5 cx L_52 rfl ?_
  refine r_iload X5 cx L_53 rfl ?_
  refine r_lload X5 cx L_55 rfl ?_
  refine r_aload X5 cx L_57 rfl ?_
  refine r_special [(.int f), (.long n), (.ref ws)] [(.ref o)] X5 cx L_59 rfl (hw.get 7 rfl) (hw.get 8 rfl) (hw.get 6 rfl) (hw.get 9 rfl) (by decide) (con_P59m2 K.l K.Z a0 hw o f n ws h5 K.n0 X5.ge [i2, i3, i4] E_o F_valueBits_o F_valueMask_o F_length_o F_words_o A_ws ne_o_ws g_o) (lenOf pd_0 rfl) rfl rfl (by decide) (leb rfl) (by decide) (by decide) (fun T6 h6 v6 X6 q6 => ?_) (fun _ _ q => q.1)
  obtain ⟨z6, rfl, B⟩ := q6
  refine r_astore #[.val (.int i0), .val (.long i1), .second, .val (.long i2), .second, .val (.long i3), .second, .val (.long i4), .second, .val (.int f), .val (.long n), .second, .val (.long ix), .second, .val (.ref ws), .val (.ref o), .unset, .unset, .unset, .unset, .unset, .unset, .unset, .unset, .unset, .unset, .unset, .unset, .unset, .unset, .unset, .unset] X6 cx L_62 rfl ?_
  refine r_aload X6 cx L_64 rfl ?_
  refine r_lload X6 cx L_66 rfl ?_
  refine r_virtual [(.long ix)] [] X6 cx L_68 B.1 (hw.get 21 rfl) (hw.get 22 rfl) (hw.get 24 rfl) (hw.get 23 rfl) (hw.get 6 rfl) (hw.get 25 rfl) (by decide) (con_P59m9 K.l K.Z a0 hw o ix h6 K.n0 X6.ge ws n [i2, i3, i4] i nf (ef ▸ B) eix hf1 hf hif rfl) (lenOf pd_1 rfl) rfl rfl (by decide) (leb rfl) (by decide) (by decide) (fun T7 h7 v7 X7 q7 => ?_) (fun _ _ q => Nat.le_of_eq (congrArg Array.size q.1))
  obtain ⟨rfl, rfl⟩ := q7
  obtain ⟨E_o, F_vb, F_vm, F_ln, F_ws, A_ws, -⟩ := B
  refine r_lstore (fun zz => #[.val (.int i0), .val (.long i1), .second, .val (.long i2), .second, .val (.long i3), .second, .val (.long i4), .second, .val (.int f), .val (.long n), .second, .val (.long ix), .second, .val (.ref ws), .val (.ref o), .val (.long zz), .second, .unset, .unset, .unset, .unset, .unset, .unset, .unset, .unset, .unset, .unset, .unset, .unset, .unset, .unset]) X7 cx L_71 (fun _ => rfl) (fun got e_got => ?_)
  refine r_lload X7 cx L_73 rfl ?_
  refine r_iload X7 cx L_75 rfl ?_
  refine r_i2l X7 cx L_77 ?_
  refine r_lmul X7 cx L_78 ?_
  refine r_lstore (fun zz => #[.val (.int i0), .val (.long i1), .second, .val (.long i2), .second, .val (.long i3), .second, .val (.long i4), .second, .val (.int f), .val (.long n), .second, .val (.long ix), .second, .val (.ref ws), .val (.ref o), .val (.long got), .second, .val (.long zz), .second, .unset, .unset, .unset, .unset, .unset, .unset, .unset, .unset, .unset, .unset, .unset, .unset]) X7 cx L_79 (fun _ => rfl) (fun pp e_pp => ?_)
  obtain ⟨p, hp⟩ : ∃ p : Nat, p = i * nf := ⟨_, rfl⟩
  have epp : pp = Int64.ofNat p := by rw [e_pp, eix, ef, hnc, hp, Int64.ofNat_mul]
  rw [← hp] at hif e_got
  have hpp := own_p ⟨p, by omega⟩
  simp only at hpp
  clear e_pp
  refine r_lload X7 cx L_81 rfl ?_
  refine r_ldc2 X7 cx L_83 (hw.get 26 rfl) ?_
  refine r_ldiv X7 cx L_86 (by decide) ?_
  refine r_l2i X7 cx L_87 ?_
  refine r_istore (fun zz => #[.val (.int i0), .val (.long i1), .second, .val (.long i2), .second, .val (.long i3), .second, .val (.long i4), .second, .val (.int f), .val (.long n), .second, .val (.long ix), .second, .val (.ref ws), .val (.ref o), .val (.long got), .second, .val (.long pp), .second, .val (.int zz), .unset, .unset, .unset, .unset, .unset, .unset, .unset, .unset, .unset, .unset, .unset]) X7 cx L_88 (fun _ => rfl) (fun wd e_wd => ?_)
  have ewd : wd = Int32.ofNat (p / 64) := by rw [e_wd, epp]; exact hpp.2.2.1
  refine r_lload X7 cx L_90 rfl ?_
  refine r_ldc2 X7 cx L_92 (hw.get 26 rfl) ?_
  refine r_lrem X7 cx L_95 (by decide) ?_
  refine r_l2i X7 cx L_96 ?_
  refine r_istore (fun zz => #[.val (.int i0), .val (.long i1), .second, .val (.long i2), .second, .val (.long i3), .second, .val (.long i4), .second, .val (.int f), .val (.long n), .second, .val (.long ix), .second, .val (.ref ws), .val (.ref o), .val (.long got), .second, .val (.long pp), .second, .val (.int wd), .val (.int zz), .unset, .unset, .unset, .unset, .unset, .unset, .unset, .unset, .unset, .unset]) X7 cx L_97 (fun _ => rfl) (fun sh e_sh => ?_)
  have esh : sh = Int32.ofNat (p % 64) := by rw [e_sh, epp]; exact hpp.2.2.2
  have hm64 : p % 64 < 64 := Nat.mod_lt _ (by decide)
  refine r_lconst (1) X7 cx L_99 rfl ?_
  refine r_iload X7 cx L_100 rfl ?_
  refine r_lshl X7 cx L_102 ?_
  refine r_lconst (1) X7 cx L_103 rfl ?_
  refine r_lsub X7 cx L_104 ?_
  refine r_lstore (fun zz => #[.val (.int i0), .val (.long i1), .second, .val (.long i2), .second, .val (.long i3), .second, .val (.long i4), .second, .val (.int f), .val (.long n), .second, .val (.long ix), .second, .val (.ref ws), .val (.ref o), .val (.long got), .second, .val (.long pp), .second, .val (.int wd), .val (.int sh), .val (.long zz), .second, .unset, .unset, .unset, .unset, .unset, .unset, .unset, .unset]) X7 cx L_105 (fun _ => rfl) (fun mk e_mk => ?_)
  refine r_iload X7 cx L_107 rfl ?_
  refine r_iload X7 cx L_109 rfl ?_
  refine r_iadd X7 cx L_111 ?_
  refine r_bipush (64) X7 cx L_112 rfl ?_
  refine r_icmpgt X7 cx L_114 (fun c114 => ?_) (fun c114 => ?_)
  · refine r_bipush (64) X7 cx L_133 rfl ?_
    refine r_iload X7 cx L_135 rfl ?_
    refine r_isub X7 cx L_137 ?_
    refine r_istore (fun zz => #[.val (.int i0), .val (.long i1), .second, .val (.long i2), .second, .val (.long i3), .second, .val (.long i4), .second, .val (.int f), .val (.long n), .second, .val (.long ix), .second, .val (.ref ws), .val (.ref o), .val (.long got), .second, .val (.long pp), .second, .val (.int wd), .val (.int sh), .val (.long mk), .second, .unset, .unset, .val (.int zz), .unset, .unset, .unset, .unset, .unset]) X7 cx L_138 (fun _ => rfl) (fun i8 e_i8 => ?_)
    refine r_iload X7 cx L_140 rfl ?_
    refine r_iload X7 cx L_142 rfl ?_
    refine r_isub X7 cx L_144 ?_
    refine r_istore (fun zz => #[.val (.int i0), .val (.long i1), .second, .val (.long i2), .second, .val (.long i3), .second, .val (.long i4), .second, .val (.int f), .val (.long n), .second, .val (.long ix), .second, .val (.ref ws), .val (.ref o), .val (.long got), .second, .val (.long pp), .second, .val (.int wd), .val (.int sh), .val (.long mk), .second, .unset, .unset, .val (.int i8), .val (.int zz), .unset, .unset, .unset, .unset]) X7 cx L_145 (fun _ => rfl) (fun i9 e_i9 => ?_)
    refine r_aload X7 cx L_147 rfl ?_
    refine r_iload X7 cx L_149 rfl ?_
    refine r_laload X7 cx L_151 A_ws (p / 64) ewd (v := ([i2, i3, i4][p / 64]?.getD 0)) (own_gdL (by simp; omega)) ?_
    refine r_iload X7 cx L_152 rfl ?_
    refine r_lushr X7 cx L_154 ?_
    refine r_lstore (fun zz => #[.val (.int i0), .val (.long i1), .second, .val (.long i2), .second, .val (.long i3), .second, .val (.long i4), .second, .val (.int f), .val (.long n), .second, .val (.long ix), .second, .val (.ref ws), .val (.ref o), .val (.long got), .second, .val (.long pp), .second, .val (.int wd), .val (.int sh), .val (.long mk), .second, .unset, .unset, .val (.int i8), .val (.int i9), .val (.long zz), .second, .unset, .unset]) X7 cx L_155 (fun _ => rfl) (fun j10 e_j10 => ?_)
    refine r_aload X7 cx L_157 rfl ?_
    refine r_iload X7 cx L_159 rfl ?_
    refine r_iconst (1) X7 cx L_161 rfl ?_
    refine r_iadd X7 cx L_162 ?_
    refine r_laload X7 cx L_163 A_ws (p / 64 + 1) (by rw [ewd]; exact (Int32.ofNat_add _ 1).symm) (v := ([i2, i3, i4][p / 64 + 1]?.getD 0)) (own_gdL (by rw [esh, ef, own_lt64 hm64 (by omega)] at c114; simp; omega)) ?_
    refine r_lconst (1) X7 cx L_164 rfl ?_
    refine r_iload X7 cx L_165 rfl ?_
    refine r_lshl X7 cx L_167 ?_
    refine r_lconst (1) X7 cx L_168 rfl ?_
    refine r_lsub X7 cx L_169 ?_
    refine r_land X7 cx L_170 ?_
    refine r_lstore (fun zz => #[.val (.int i0), .val (.long i1), .second, .val (.long i2), .second, .val (.long i3), .second, .val (.long i4), .second, .val (.int f), .val (.long n), .second, .val (.long ix), .second, .val (.ref ws), .val (.ref o), .val (.long got), .second, .val (.long pp), .second, .val (.int wd), .val (.int sh), .val (.long mk), .second, .unset, .unset, .val (.int i8), .val (.int i9), .val (.long j10), .second, .val (.long zz), .second]) X7 cx L_171 (fun _ => rfl) (fun j11 e_j11 => ?_)
    refine r_lload X7 cx L_173 rfl ?_
    refine r_lload X7 cx L_175 rfl ?_
    refine r_iload X7 cx L_177 rfl ?_
    refine r_lshl X7 cx L_179 ?_
    refine r_lor X7 cx L_180 ?_
    refine r_lstore (fun zz => #[.val (.int i0), .val (.long i1), .second, .val (.long i2), .second, .val (.long i3), .second, .val (.long i4), .second, .val (.int f), .val (.long n), .second, .val (.long ix), .second, .val (.ref ws), .val (.ref o), .val (.long got), .second, .val (.long pp), .second, .val (.int wd), .val (.int sh), .val (.long mk), .second, .val (.long zz), .second, .val (.int i8), .val (.int i9), .val (.long j10), .second, .val (.long j11), .second]) X7 cx L_181 (fun _ => rfl) (fun j12 e_j12 => ?_)
    refine r_aload X7 cx L_183 rfl ?_
    refine r_iconst (0) X7 cx L_185 rfl ?_
    refine r_laload X7 cx L_186 A_ws (0) rfl (v := i2) rfl ?_
    refine r_lloadN X7 cx L_187 rfl ?_
    refine r_lcmp X7 cx L_188 ?_
    refine r_lcmpne X7 cx L_189 (fun c189 => ?_) (fun c189 => ?_)
    · exact absurd rfl c189
    · refine r_aload X7 cx L_192 rfl ?_
      refine r_iconst (1) X7 cx L_194 rfl ?_
      refine r_laload X7 cx L_195 A_ws (1) rfl (v := i3) rfl ?_
      refine r_lload X7 cx L_196 rfl ?_
      refine r_lcmp X7 cx L_198 ?_
      refine r_lcmpne X7 cx L_199 (fun c199 => ?_) (fun c199 => ?_)
      · exact absurd rfl c199
      · refine r_aload X7 cx L_202 rfl ?_
        refine r_iconst (2) X7 cx L_204 rfl ?_
        refine r_laload X7 cx L_205 A_ws (2) rfl (v := i4) rfl ?_
        refine r_lload X7 cx L_206 rfl ?_
        refine r_lcmp X7 cx L_208 ?_
        refine r_lcmpne X7 cx L_209 (fun c209 => ?_) (fun c209 => ?_)
        · exact absurd rfl c209
        · refine r_iconst (1) X7 cx L_212 rfl ?_
          refine r_goto X7 cx L_213 ?_
          refine r_istore (fun zz => #[.val (.int i0), .val (.long i1), .second, .val (.long i2), .second, .val (.long i3), .second, .val (.long i4), .second, .val (.int f), .val (.long n), .second, .val (.long ix), .second, .val (.ref ws), .val (.ref o), .val (.long got), .second, .val (.long pp), .second, .val (.int wd), .val (.int sh), .val (.long mk), .second, .val (.long j12), .second, .val (.int zz), .val (.int i9), .val (.long j10), .second, .val (.long j11), .second]) X7 cx L_217 (fun _ => rfl) (fun i13 e_i13 => ?_)
          subst e_i13
          refine r_lload X7 cx L_219 rfl ?_
          refine r_lload X7 cx L_221 rfl ?_
          refine r_lcmp X7 cx L_223 ?_
          refine r_lcmpne X7 cx L_224 (fun c224 => ?_) (fun c224 => ?_)
          · exfalso
            apply c224
            rw [esh, ef] at c114
            rw [e_got]
            first
              | (unfold own_got; rw [if_pos c114]; subst_vars; rfl)
              | (rw [own_gotlaw _ _ (by omega) hm64 ((own_lt64 hm64 (by omega)).mp c114)]; subst_vars; rfl)
          · refine r_iload X7 cx L_227 rfl ?_
            refine r_ifeq X7 cx L_229 (fun c => absurd c (by decide)) (fun _ => ?_)
            refine r_iconst (1) X7 cx L_232 rfl ?_
            refine r_goto X7 cx L_233 ?_
            refine r_zreturn X7 cx L_237 (by decide) (by decide) ?_
            rfl
  · refine r_aload X7 cx L_117 rfl ?_
    refine r_iload X7 cx L_119 rfl ?_
    refine r_laload X7 cx L_121 A_ws (p / 64) ewd (v := ([i2, i3, i4][p / 64]?.getD 0)) (own_gdL (by simp; omega)) ?_
    refine r_iload X7 cx L_122 rfl ?_
    refine r_lushr X7 cx L_124 ?_
    refine r_lload X7 cx L_125 rfl ?_
    refine r_land X7 cx L_127 ?_
    refine r_lstore (fun zz => #[.val (.int i0), .val (.long i1), .second, .val (.long i2), .second, .val (.long i3), .second, .val (.long i4), .second, .val (.int f), .val (.long n), .second, .val (.long ix), .second, .val (.ref ws), .val (.ref o), .val (.long got), .second, .val (.long pp), .second, .val (.int wd), .val (.int sh), .val (.long mk), .second, .val (.long zz), .second, .unset, .unset, .unset, .unset, .unset, .unset]) X7 cx L_128 (fun _ => rfl) (fun j8 e_j8 => ?_)
    refine r_goto X7 cx L_130 ?_
    refine r_aload X7 cx L_183 rfl ?_
    refine r_iconst (0) X7 cx L_185 rfl ?_
    refine r_laload X7 cx L_186 A_ws (0) rfl (v := i2) rfl ?_
    refine r_lloadN X7 cx L_187 rfl ?_
    refine r_lcmp X7 cx L_188 ?_
    refine r_lcmpne X7 cx L_189 (fun c189 => ?_) (fun c189 => ?_)
    · exact absurd rfl c189
    · refine r_aload X7 cx L_192 rfl ?_
      refine r_iconst (1) X7 cx L_194 rfl ?_
      refine r_laload X7 cx L_195 A_ws (1) rfl (v := i3) rfl ?_
      refine r_lload X7 cx L_196 rfl ?_
      refine r_lcmp X7 cx L_198 ?_
      refine r_lcmpne X7 cx L_199 (fun c199 => ?_) (fun c199 => ?_)
      · exact absurd rfl c199
      · refine r_aload X7 cx L_202 rfl ?_
        refine r_iconst (2) X7 cx L_204 rfl ?_
        refine r_laload X7 cx L_205 A_ws (2) rfl (v := i4) rfl ?_
        refine r_lload X7 cx L_206 rfl ?_
        refine r_lcmp X7 cx L_208 ?_
        refine r_lcmpne X7 cx L_209 (fun c209 => ?_) (fun c209 => ?_)
        · exact absurd rfl c209
        · refine r_iconst (1) X7 cx L_212 rfl ?_
          refine r_goto X7 cx L_213 ?_
          refine r_istore (fun zz => #[.val (.int i0), .val (.long i1), .second, .val (.long i2), .second, .val (.long i3), .second, .val (.long i4), .second, .val (.int f), .val (.long n), .second, .val (.long ix), .second, .val (.ref ws), .val (.ref o), .val (.long got), .second, .val (.long pp), .second, .val (.int wd), .val (.int sh), .val (.long mk), .second, .val (.long j8), .second, .val (.int zz), .unset, .unset, .unset, .unset, .unset]) X7 cx L_217 (fun _ => rfl) (fun i9 e_i9 => ?_)
          subst e_i9
          refine r_lload X7 cx L_219 rfl ?_
          refine r_lload X7 cx L_221 rfl ?_
          refine r_lcmp X7 cx L_223 ?_
          refine r_lcmpne X7 cx L_224 (fun c224 => ?_) (fun c224 => ?_)
          · exfalso
            apply c224
            rw [esh, ef] at c114
            rw [e_got]
            first
              | (unfold own_got; rw [if_pos c114]; subst_vars; rfl)
              | (rw [own_gotlaw _ _ (by omega) hm64 ((own_lt64 hm64 (by omega)).mp c114)]; subst_vars; rfl)
          · refine r_iload X7 cx L_227 rfl ?_
            refine r_ifeq X7 cx L_229 (fun c => absurd c (by decide)) (fun _ => ?_)
            refine r_iconst (1) X7 cx L_232 rfl ?_
            refine r_goto X7 cx L_233 ?_
            refine r_zreturn X7 cx L_237 (by decide) (by decide) ?_
            rfl
set_option maxRecDepth 65536 in
set_option maxHeartbeats 40000000 in
theorem comes_1 {Post : Tables → Env → Array Value → State → Outcome → State → Prop} (hpost : ∀ tb e args s v u, (limb_1_1.after args s (.returned v) u = true ∧ limb_1_2.after args s (.returned v) u = true ∧ True) → FrameEnd s (.returned v) u (Jvm.fieldLocs frame_1_writes args s ++ Jvm.arrayLocs frame_1_arrays args s ++ Jvm.staticLocs frame_1_statics s) 16 128 → Post tb e args s (.returned v) u) :
    ArmFor flags0 classFile x code maxLocals ret World_1 tables_1 room_1 Calls_1 rest_1 Pre_1 Post := by
  intro l hfl _ _ p e ha hc hk s m args below hf hA hF happ hP
  obtain ⟨hcalls, hrest, hpre⟩ := hP
  obtain ⟨-, -, -, hnamed, -, -, -, hat⟩ := (Spec.applies_iff hf).mp happ
  obtain ⟨hg, hn⟩ := and_e (Cond.before_iff.mp (show (Jvm.Cond.and given_1 narrow_1).before args s = true from hpre))
  obtain ⟨gc, r0⟩ := and_e hg
  obtain ⟨g0, r1⟩ := and_e r0
  obtain ⟨g1, r2⟩ := and_e r1
  obtain ⟨g2, r3⟩ := and_e r2
  obtain ⟨g3, r4⟩ := and_e r3
  obtain ⟨w0, w1, w2, w3, w4, rfl⟩ : ∃ w0 w1 w2 w3 w4 : Value, args = #[w0, w1, w2, w3, w4] := by
    have hs : args.size = 5 := by simpa [Cond.value, given_1] using gc
    obtain ⟨L⟩ := args
    match L, hs with
    | [w0, w1, w2, w3, w4], _ => exact ⟨w0, w1, w2, w3, w4, rfl⟩
  have hw : Tb tables_1 #[w0, w1, w2, w3, w4] s := fun d (hd : d ∈ tables_1) => atoms_spec (ws := Jvm.Cond.code x code maxLocals ret :: tables_1) hat d (List.mem_cons_of_mem _ hd)
  obtain ⟨i0, ei0⟩ := is_v g0
  obtain rfl : w0 = (.int i0) := Option.some.inj ei0
  obtain ⟨i1, ei1⟩ := isL_v g1
  obtain rfl : w1 = (.long i1) := Option.some.inj ei1
  obtain ⟨i2, ei2⟩ := isL_v g2
  obtain rfl : w2 = (.long i2) := Option.some.inj ei2
  obtain ⟨i3, ei3⟩ := isL_v g3
  obtain rfl : w3 = (.long i3) := Option.some.inj ei3
  obtain ⟨i4, ei4⟩ := isL_v r4
  obtain rfl : w4 = (.long i4) := Option.some.inj ei4
  obtain ⟨n, o, h1, h2, h3, _, L, rfl, ⟨rfl, N⟩, hq⟩ := con_L l s _ hw i0 i1 i2 i3 i4 s.heap s.heap.size (Nat.le_refl _) tables_1 p e ha hc hk s m _ below hf ((Spec.applies_iff_loose hf).mp happ).1 ⟨rfl, State.Warmed39.refl s, rfl⟩ trivial
  refine ⟨n, _, h1, h2, h3, hpost _ _ _ _ _ _ ⟨Cond.after_iff.mpr rfl, Cond.after_iff.mpr (eq_i res_at (Term.int_eval (1)) rfl), trivial⟩ ⟨hq.1, hq.2.1, (hq.2.2.sift fun y hy => Or.inr (N y hy)).mono (by decide) (by decide)⟩⟩
theorem main_1_1 : Claimed_1_1 := comes_1 fun _ _ _ _ _ _ h hF => ⟨h.1, hF⟩
theorem main_1_2 : Claimed_1_2 := comes_1 fun _ _ _ _ _ _ h hF => ⟨h.2.1, hF⟩
end Jvm.Pilot.@@N@@
namespace Jvm.Pilot.@@N@@
open Jvm Jvm.ClassFile Sem Op Lib Jvm.Free Jvm.Stand Jvm.Pilot.@@N@@.Jvm.D
/-! MADE BY PROGRAM (witnessworld.py) out of the Statement's table words and the real class files: 11 classes; the members and pool entries that the words name. The judged class is class 1, her method 1. -/
namespace start1
open Jvm.ClassFile
def u (s : String) : CpInfo := .utf8 (stringToUtf16 s)
/-- a pool by its gaps: so many unusable entries, then the entry; so many at the end -/
def gap : Nat → List CpInfo → List CpInfo
  | 0, r => r
  | n + 1, r => .unusable :: gap n r
def poolList (es : List (Nat × CpInfo)) (last : Nat) : List CpInfo := es.foldr (fun e r => gap e.1 (e.2 :: r)) (gap last [])
def pool (es : List (Nat × CpInfo)) (last : Nat) : Array CpInfo := ⟨poolList es last⟩
def fileOf (pool : Array CpInfo) (this : Nat) (attrs : Array Attribute := #[]) (ms : Array MethodInfo := #[]) (fl : Nat := 33) (sup : Nat := 0) (ifs : Array Nat := #[]) (fds : Array FieldInfo := #[]) : ClassFile where
  minorVersion := 0
  majorVersion := 65
  constantPool := pool
  accessFlags := fl
  thisClass := this
  superClass := sup
  interfaces := ifs
  fields := fds
  methods := ms
  attributes := attrs
def plain (name : String) (sup : Option ClassId) : Class where
  name := name
  kind := .ordinary
  loader := none
  accessFlags := 33
  super := sup
  interfaces := #[]
  cf := none
  fields := #[]
  methods := #[]
  instanceTypes := #[]
  staticTypes := #[]
  resolved := #[]
  callSites := []
  init := .initialized
  statics := none
  mirror := none

def pool0 : Array CpInfo := pool [(5, u "<init>"), (0, u "()V"), (1, .class_ 10), (1, u "java/lang/Object")] 113

def k0c0 : Code := { maxStack := 0, maxLocals := 1, code := object_method_1_code, exceptionTable := #[], attributes := #[] }
def k0m0 : Method := { name := "<init>", desc := "()V", sig := { parameters := [], returnType := none }, accessFlags := 1, code := some k0c0 }
/-- java/lang/Object -/
def k0 : Class := { plain "java/lang/Object" none with
  accessFlags := 33
  interfaces := #[]
  cf := some (fileOf pool0 8 #[] #[{ accessFlags := 1, nameIndex := 5, descriptorIndex := 6, attributes := #[] }] 33 0 #[] #[])
  fields := #[]
  methods := #[k0m0]
  instanceTypes := #[]
  staticTypes := #[]
  resolved := Array.replicate 124 none
  statics := none }

def pool1 : Array CpInfo := pool [(2, .class_ 4), (1, u "java/lang/Object"), (0, u "<init>"), (0, u "()V"), (0, .integer 2147483647), (0, .long 192), (1, .long 9223372036854775807), (1, .class_ 13), (0, u "com/example/epsilon_filter/epsilonfilter/filters/PackedArray"), (0, .methodref 12 15), (0, .nameAndType 5 16), (0, u "(IJ[J)V"), (0, .methodref 12 18), (0, .nameAndType 19 20), (0, u "getLong"), (0, u "(J)J"), (0, .long 64), (1, .class_ 24), (0, u "com/example/epsilon_filter/epsilonfilter/filters/PackedArrayGetLongPinLaw"), (2, u "law"), (0, u "(IJJJJ)Z")] 5

def k1m0 : Method := { name := "<init>", desc := "()V", sig := { parameters := [], returnType := none }, accessFlags := 2, code := none }
def k1c1 : Code := { maxStack := 6, maxLocals := 32, code := code, exceptionTable := #[], attributes := #[] }
def k1m1 : Method := { name := "law", desc := "(IJJJJ)Z", sig := { parameters := [.int, .long, .long, .long, .long], returnType := some .boolean }, accessFlags := 9, code := some k1c1 }
/-- com/example/epsilon_filter/epsilonfilter/filters/PackedArrayGetLongPinLaw -/
def k1 : Class := { plain "com/example/epsilon_filter/epsilonfilter/filters/PackedArrayGetLongPinLaw" (some 0) with
  accessFlags := 49
  interfaces := #[]
  cf := some (fileOf pool1 23 #[] #[{ accessFlags := 2, nameIndex := 5, descriptorIndex := 6, attributes := #[] }, { accessFlags := 9, nameIndex := 27, descriptorIndex := 28, attributes := #[] }] 49 2 #[] #[])
  fields := #[]
  methods := #[k1m0, k1m1]
  instanceTypes := #[]
  staticTypes := #[]
  resolved := Array.replicate 34 none
  statics := none }

def pool2 : Array CpInfo := pool [(2, .class_ 4), (1, u "com/example/epsilon_filter/epsilonfilter/filters/PackedArray"), (4, u "<init>"), (0, u "(IJ[J)V"), (0, .methodref 12 13), (0, .class_ 14), (0, .nameAndType 9 15), (0, u "java/lang/Object"), (0, u "()V"), (0, .fieldref 2 17), (0, .nameAndType 18 19), (0, u "valueBits"), (0, u "I"), (0, .fieldref 2 21), (0, .nameAndType 22 23), (0, u "valueMask"), (0, u "J"), (0, .fieldref 2 25), (0, .nameAndType 26 23), (0, u "length"), (0, .fieldref 2 28), (0, .nameAndType 29 30), (0, u "words"), (0, u "[J"), (10, u "getLong"), (0, u "(J)J")] 27

def k2c0 : Code := { maxStack := 5, maxLocals := 5, code := prog_59_method_2_code, exceptionTable := #[], attributes := #[] }
def k2m0 : Method := { name := "<init>", desc := "(IJ[J)V", sig := { parameters := [.int, .long, (.array .long)], returnType := none }, accessFlags := 0, code := some k2c0 }
def k2c1 : Code := { maxStack := 6, maxLocals := 9, code := prog_59_method_9_code, exceptionTable := #[], attributes := #[] }
def k2m1 : Method := { name := "getLong", desc := "(J)J", sig := { parameters := [.long], returnType := some .long }, accessFlags := 0, code := some k2c1 }
/-- com/example/epsilon_filter/epsilonfilter/filters/PackedArray -/
def k2 : Class := { plain "com/example/epsilon_filter/epsilonfilter/filters/PackedArray" (some 0) with
  accessFlags := 48
  interfaces := #[]
  cf := some (fileOf pool2 2 #[] #[{ accessFlags := 0, nameIndex := 9, descriptorIndex := 10, attributes := #[] }, { accessFlags := 0, nameIndex := 41, descriptorIndex := 42, attributes := #[] }] 48 12 #[] #[{ accessFlags := 18, nameIndex := 18, descriptorIndex := 19, attributes := #[] }, { accessFlags := 18, nameIndex := 22, descriptorIndex := 23, attributes := #[] }, { accessFlags := 18, nameIndex := 26, descriptorIndex := 23, attributes := #[] }, { accessFlags := 18, nameIndex := 29, descriptorIndex := 30, attributes := #[] }])
  fields := #[{ name := "valueBits", type := .int, accessFlags := 18, slot := 0, constantValue := 0 }, { name := "valueMask", type := .long, accessFlags := 18, slot := 1, constantValue := 0 }, { name := "length", type := .long, accessFlags := 18, slot := 2, constantValue := 0 }, { name := "words", type := (.array .long), accessFlags := 18, slot := 3, constantValue := 0 }]
  methods := #[k2m0, k2m1]
  instanceTypes := #[.int, .long, .long, (.array .long)]
  staticTypes := #[]
  resolved := Array.replicate 70 none
  statics := none }

def pool3 : Array CpInfo := pool [(1, u "java/lang/Cloneable"), (0, .class_ 1), (0, u "java/lang/Object"), (0, .class_ 3)] 3

/-- java/lang/Cloneable -/
def k3 : Class := { plain "java/lang/Cloneable" (some 0) with
  accessFlags := 1537
  interfaces := #[]
  cf := some (fileOf pool3 2 #[] #[] 1537 4 #[] #[])
  fields := #[]
  methods := #[]
  instanceTypes := #[]
  staticTypes := #[]
  resolved := Array.replicate 8 none
  statics := none }

def pool4 : Array CpInfo := pool [(1, u "java/io/Serializable"), (0, .class_ 1), (0, u "java/lang/Object"), (0, .class_ 3)] 3

/-- java/io/Serializable -/
def k4 : Class := { plain "java/io/Serializable" (some 0) with
  accessFlags := 1537
  interfaces := #[]
  cf := some (fileOf pool4 2 #[] #[] 1537 4 #[] #[])
  fields := #[]
  methods := #[]
  instanceTypes := #[]
  staticTypes := #[]
  resolved := Array.replicate 8 none
  statics := none }

/-- the primitive byte -/
def k5 : Class := { plain "byte" none with kind := .primitive 'B', accessFlags := 0x411 }
/-- [B -/
def k6 : Class := { plain "[B" (some 0) with kind := .array 5 .byte, interfaces := #[3, 4], accessFlags := 1041 }

/-- the primitive int -/
def k7 : Class := { plain "int" none with kind := .primitive 'I', accessFlags := 0x411 }
/-- [I -/
def k8 : Class := { plain "[I" (some 0) with kind := .array 7 .int, interfaces := #[3, 4], accessFlags := 1041 }

/-- the primitive long -/
def k9 : Class := { plain "long" none with kind := .primitive 'J', accessFlags := 0x411 }
/-- [J -/
def k10 : Class := { plain "[J" (some 0) with kind := .array 9 .long, interfaces := #[3, 4], accessFlags := 1041 }

def heap : Heap := #[]
def classes : Array Class := #[k0, k1, k2, k3, k4, k5, k6, k7, k8, k9, k10]
def interned : List (Array UInt16 × Addr) := []
def slotsUsed : Nat := 0
def theMethod : MethodId := ⟨1, 1⟩
def args0 : Array Value := #[.int 5, .long 6, .long 7, .long 8, .long 9]
def aboutOver (below : List Frame) : State where
  vm := { classes := classes, interned := interned.toArray }
  heap := heap
  slotsUsed := slotsUsed
  threads := #[{ frames := .invoking theMethod args0 :: below }]
def below0 : List Frame := [.native { method := ⟨0, 0⟩, args := #[] }]
def about1 : State := aboutOver below0
def p0 : Program := .bare "" "" ""
def e0 : Env := launch0.env 0 0 0
theorem w_frames : about1.frames = Frame.invoking theMethod args0 :: below0 := rfl
set_option maxRecDepth 65536 in
theorem w_args : argsFit about1.vm theMethod args0 = true := by decide +kernel
set_option maxRecDepth 65536 in
theorem w_heap : heapFits about1 = true := by decide +kernel
set_option maxRecDepth 65536 in
theorem w_runnable : about1.curStatus? = some .runnable := by decide +kernel
set_option maxRecDepth 65536 in
theorem w_alone : about1.alone = true := by decide +kernel
set_option maxRecDepth 65536 in
theorem w_named : about1.methodNamed? x = some theMethod := by decide +kernel
set_option maxRecDepth 65536 in
theorem w_hears : about1.hears theMethod below0 = true := by decide +kernel
set_option maxRecDepth 65536 in
theorem w_ripe : about1.ripe theMethod args0 below0 = true := by decide +kernel
theorem w_running : about1.status = .running := rfl
set_option maxRecDepth 65536 in
theorem w_room : about1.hasRoom e0.platform room_1 = true :=
  launch0.hasRoom_least _ room_1 (by decide +kernel) (by decide +kernel) (by decide +kernel) (by decide +kernel) (by decide +kernel) (by decide +kernel)
theorem allAtoms_all (ts : List Jvm.Cond) (a : Array Jvm.Value) (st : Jvm.State) : (allAtoms ts).before a st = ts.all (fun c => c.before a st) := by
  induction ts with
  | nil => rfl
  | cons c t ih =>
    show (Jvm.Cond.and c (allAtoms t)).before a st = _
    rw [Jvm.Cond.before_and, ih, List.all_cons]
def words1 : List Jvm.Cond := Jvm.Cond.code x code maxLocals ret :: tables_1
/-- a 'code' word, met by the world's own term for the bytes: nothing is compared byte by byte -/
theorem code_word {y : MethodName} {bytes : ByteArray} {mx : Nat} {rt : Option FieldType} {a : Array Value} {s : State} {m : MethodId} {meth : Method} {c : Code} (h1 : s.methodNamed? y = some m) (h2 : s.vm.method? m = some meth) (h3 : meth.code = some c) (h4 : c.code = bytes)
    (h5 : (c.maxLocals == mx && c.exceptionTable.isEmpty && decide (c.maxStack ≤ mostOperands) && decide (meth.sig.returnType = rt) && !meth.locks && decide (parseMethodDescriptor y.desc = some meth.sig)) = true) : (Jvm.Cond.code y bytes mx rt).before a s = true := by
  simp only [Bool.and_eq_true, beq_iff_eq, Bool.not_eq_true', decide_eq_true_eq] at h5
  obtain ⟨⟨⟨⟨⟨g1, g2⟩, g3⟩, g4⟩, g5⟩, g6⟩ := h5
  simp [Cond.before, Cond.holds, Cond.value, h1, h2, h3, h4, g1, g2, g3, g4, g5, g6]
def isCode : Jvm.Cond → Bool
  | .code _ _ _ _ => true
  | _ => false
theorem all_split {L : List Jvm.Cond} {P : Jvm.Cond → Bool} (h1 : L.all (fun c => isCode c || P c) = true) (h2 : ∀ c ∈ L.filter isCode, P c = true) : L.all P = true := by
  refine List.all_eq_true.mpr fun c hc => ?_
  have h := List.all_eq_true.mp h1 c hc
  rcases Bool.eq_false_or_eq_true (isCode c) with hi | hi
  · exact h2 c (List.mem_filter.mpr ⟨hc, hi⟩)
  · simpa [hi] using h
set_option maxRecDepth 65536 in
theorem w_c0 : (Jvm.Cond.code x code maxLocals ret).before args0 about1 = true := code_word (m := ⟨1, 1⟩) (meth := k1m1) (c := k1c1) (by decide +kernel) rfl rfl rfl (by decide +kernel)
set_option maxRecDepth 65536 in
theorem w_c1 : (Jvm.Cond.code ({ cls := "com/example/epsilon_filter/epsilonfilter/filters/PackedArray", name := "<init>", desc := "(IJ[J)V" } : Jvm.MethodName) prog_59_method_2_code (5 : Nat) (Option.none : Option Jvm.ClassFile.FieldType)).before args0 about1 = true := code_word (m := ⟨2, 0⟩) (meth := k2m0) (c := k2c0) (by decide +kernel) rfl rfl rfl (by decide +kernel)
set_option maxRecDepth 65536 in
theorem w_c2 : (Jvm.Cond.code ({ cls := "java/lang/Object", name := "<init>", desc := "()V" } : Jvm.MethodName) object_method_1_code (1 : Nat) (Option.none : Option Jvm.ClassFile.FieldType)).before args0 about1 = true := code_word (m := ⟨0, 0⟩) (meth := k0m0) (c := k0c0) (by decide +kernel) rfl rfl rfl (by decide +kernel)
set_option maxRecDepth 65536 in
theorem w_c3 : (Jvm.Cond.code ({ cls := "com/example/epsilon_filter/epsilonfilter/filters/PackedArray", name := "getLong", desc := "(J)J" } : Jvm.MethodName) prog_59_method_9_code (9 : Nat) (Option.some Jvm.ClassFile.FieldType.long)).before args0 about1 = true := code_word (m := ⟨2, 1⟩) (meth := k2m1) (c := k2c1) (by decide +kernel) rfl rfl rfl (by decide +kernel)
def codes1 : List Jvm.Cond := [Jvm.Cond.code x code maxLocals ret, Jvm.Cond.code ({ cls := "com/example/epsilon_filter/epsilonfilter/filters/PackedArray", name := "<init>", desc := "(IJ[J)V" } : Jvm.MethodName) prog_59_method_2_code (5 : Nat) (Option.none : Option Jvm.ClassFile.FieldType), Jvm.Cond.code ({ cls := "java/lang/Object", name := "<init>", desc := "()V" } : Jvm.MethodName) object_method_1_code (1 : Nat) (Option.none : Option Jvm.ClassFile.FieldType), Jvm.Cond.code ({ cls := "com/example/epsilon_filter/epsilonfilter/filters/PackedArray", name := "getLong", desc := "(J)J" } : Jvm.MethodName) prog_59_method_9_code (9 : Nat) (Option.some Jvm.ClassFile.FieldType.long)]
set_option maxRecDepth 65536 in
theorem codes_eq : words1.filter isCode = codes1 := rfl
theorem w_codes : ∀ c ∈ words1.filter isCode, c.before args0 about1 = true := by
  rw [codes_eq]
  intro c hc
  simp only [codes1, List.mem_cons, List.not_mem_nil, or_false] at hc
  rcases hc with rfl | rfl | rfl | rfl
  · exact w_c0
  · exact w_c1
  · exact w_c2
  · exact w_c3
set_option maxRecDepth 65536 in
theorem w_t1 : (words1.take 24).all (fun c => isCode c || c.before args0 about1) = true := by decide +kernel
set_option maxRecDepth 65536 in
theorem w_t2 : (words1.drop 24).all (fun c => isCode c || c.before args0 about1) = true := by decide +kernel
theorem w_tables : (allAtoms (Jvm.Cond.code x code maxLocals ret :: tables_1)).before args0 about1 = true := by
  rw [allAtoms_all]
  show words1.all (fun c => c.before args0 about1) = true
  refine all_split ?_ w_codes
  rw [← List.take_append_drop 24 words1, List.all_append, w_t1, w_t2]
  rfl
set_option maxRecDepth 65536 in
theorem w_case : (Jvm.Cond.and given_1 narrow_1).before args0 about1 = true := by decide +kernel
theorem w_applies : (headSpec (Jvm.Cond.code x code maxLocals ret :: tables_1) room_1).applies x e0.platform about1 = true :=
  (Spec.applies_iff w_frames).mpr ⟨w_running, w_runnable, w_alone, w_named, w_hears, w_ripe, w_room, w_tables⟩
theorem atStart : AtStart classFile x code maxLocals ret World_1 tables_1 room_1 Calls_1 rest_1 Pre_1 launch0 p0 e0 about1 theMethod args0 below0 :=
  ⟨lists_1, trivial, launch0.admits_env _ _ _, launch0.least_env, fairChoices_fair.cas, fairChoices_fair.clock, w_frames, w_args, w_heap, w_applies, trivial, trivial, w_case⟩
end start1
theorem witness_1 : WitnessClaimed_1 := ⟨start1.p0, start1.e0, start1.about1, start1.theMethod, start1.args0, start1.below0, start1.atStart⟩
end Jvm.Pilot.@@N@@

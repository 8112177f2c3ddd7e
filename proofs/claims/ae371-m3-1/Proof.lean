import JvmDerived
import JvmDerived.Pilot.@@N@@Statement
import JvmDerived.Pilot.@@N@@Code
set_option linter.unusedVariables false
set_option linter.unusedSimpArgs false
namespace Jvm.RoadKit
open Sem ClassFile Op Lib Jvm.Stand Jvm.Free Jvm.LawKit
section New
variable {p : Program} {l : Launch} {e : Env} {R : Room} {s : State} {m : MethodId} {args : Array Value} {below : List Frame} {meth : Method} {c : Code} {T : State} {locs : List Loc} {cells slots : Nat}
theorem retI (X : Stand p l e R s m args below meth c T locs cells slots) (hx : p.tables.exec = Jvm.exec) {pc : Nat} {Ls : Array Slot} {z : Int32} {rest : List Value} (hret : meth.sig.returnType = some .int) (hd : decode c.code pc = .ok (.ireturn, 1)) {fs : List Frame}
    (hl : ∀ (f : JFrame) (acts : List Action), f.method = m → f.locked = none → f.entered = [] → (doReturn e (T.setTop f) acts (some (.int z))).1 = T.setFrames fs) : Steps p.tables e below (T.setTop (mkF m pc Ls (.int z :: rest))) (T.setFrames fs) := by
  have hm' : T.vm.method? m = some meth := X.method'
  have hn : narrow .int (.int z) = .int z := rfl
  show Steps p.tables e below (T.setTop { method := m, pc := pc, locals := Ls, stack := _ :: rest, locked := none }) _
  jvm_step X.here [X.here.top, hx, hd, hm', hret, hn]
  first | (intro acts; rw [hl _ acts rfl rfl rfl]) | rw [hl _ _ rfl rfl rfl]
  exact Steps.refl _
end New
end Jvm.RoadKit
namespace Jvm.Own
open Sem ClassFile Op Lib Jvm.Stand Jvm.Free Jvm.LawKit Jvm.RoadKit
/-- the constants of one body's walk -/
abbrev KT := Program × Launch × Env × Room × State × MethodId × Array Value × List Frame × Method × Code × State × Nat
abbrev KT.p (K : KT) : Program := K.1
abbrev KT.l (K : KT) : Launch := K.2.1
abbrev KT.e (K : KT) : Env := K.2.2.1
abbrev KT.R (K : KT) : Room := K.2.2.2.1
abbrev KT.s (K : KT) : State := K.2.2.2.2.1
abbrev KT.m (K : KT) : MethodId := K.2.2.2.2.2.1
abbrev KT.args (K : KT) : Array Value := K.2.2.2.2.2.2.1
abbrev KT.below (K : KT) : List Frame := K.2.2.2.2.2.2.2.1
abbrev KT.meth (K : KT) : Method := K.2.2.2.2.2.2.2.2.1
abbrev KT.c (K : KT) : Code := K.2.2.2.2.2.2.2.2.2.1
abbrev KT.Z (K : KT) : State := K.2.2.2.2.2.2.2.2.2.2.1
abbrev KT.n0 (K : KT) : Nat := K.2.2.2.2.2.2.2.2.2.2.2
/-- what is known of the body -/
def Cx (K : KT) (y : MethodName) (bytes : ByteArray) (mx : Nat) (rt : Option FieldType) (R : Room) : Prop :=
  K.p.tables.exec = Jvm.exec ∧ K.Z.Warmed39 K.s.vm ∧ K.c.code = bytes ∧ K.c.maxLocals = mx ∧ K.s.vm.findClass y.cls = some K.m.cls ∧ K.meth.sig.returnType = rt ∧ K.meth.locks = false ∧ K.R = R ∧ K.meth.name = y.name
/-- where the walk stands: heap h, so many cells and slots made; nothing old written -/
def Sd (K : KT) (T : State) (h : Heap) (cl sl : Nat) : Prop := ∃ locs, Stand K.p K.l K.e K.R K.s K.m K.args K.below K.meth K.c T locs cl sl ∧ Fr K.n0 locs ∧ K.n0 ≤ h.size ∧ T.heap = h
/-- from here the body comes to its end, and Q holds of what it returns and of the heap then -/
def Run (K : KT) (Q : Option Value → Heap → Prop) (T : State) (g : JFrame) : Prop :=
  ∃ s₂ v L, Steps K.p.tables K.e K.below (T.setTop g) s₂ ∧ s₂.status = .running ∧ Ended s₂ K.below (.returned v) ∧ Q v s₂.heap ∧ Fr K.n0 L ∧ FrameEnd K.s (.returned v) s₂ L K.R.cells K.R.slots
theorem Run.st {K : KT} {Q : Option Value → Heap → Prop} {T T' : State} {g g' : JFrame} (st : ∀ t, Steps K.p.tables K.e K.below (T'.setTop g') t → Steps K.p.tables K.e K.below (T.setTop g) t) (k : Run K Q T' g') : Run K Q T g := by
  obtain ⟨s₂, v, L, h1, h2⟩ := k
  exact ⟨s₂, v, L, st _ h1, h2⟩
theorem Run.cast {K : KT} {Q : Option Value → Heap → Prop} {T : State} {g g' : JFrame} (q : g = g') (k : Run K Q T g') : Run K Q T g := q ▸ k
theorem Run.mono {K : KT} {Q Q' : Option Value → Heap → Prop} {T : State} {g : JFrame} (k : Run K Q T g) (q : ∀ v h, Q v h → Q' v h) : Run K Q' T g := by
  obtain ⟨s₂, v, L, h1, h2, h3, h4, h5⟩ := k
  exact ⟨s₂, v, L, h1, h2, h3, q _ _ h4, h5⟩
/-- the words of a sheet -/
def Tb (ws : List Jvm.Cond) (a0 : Array Value) (Z : State) : Prop := ∀ d ∈ ws, d.before a0 Z = true
theorem Tb.get {ws : List Jvm.Cond} {a0 : Array Value} {Z : State} (hw : Tb ws a0 Z) (i : Nat) {d : Jvm.Cond} (h : ws[i]? = some d) : d.before a0 Z = true := hw d (List.mem_of_getElem? h)
/-- an instruction, its length, the pc behind -/
def Dc (bytes : ByteArray) (pc : Nat) (i : Instr) (n pc' : Nat) : Prop := decode bytes pc = .ok (i, n) ∧ pc + n = pc'
/-- a branch: the pc behind, the pc that it goes to -/
def Db (bytes : ByteArray) (pc : Nat) (i : Instr) (o : Int) (pc' pt : Nat) : Prop := decode bytes pc = .ok (i, 3) ∧ pc + 3 = pc' ∧ 0 ≤ (pc : Int) + o ∧ ((pc : Int) + o).toNat = pt
theorem ne_new {a b : Addr} {h : Heap} (ea : a = h.size) (q : b < h.size) : a ≠ b := by subst ea; exact Nat.ne_of_gt q
theorem fr_new {h0 h : Heap} {a : Addr} (ea : a = h.size) (q : h0.size ≤ h.size) : h0.size ≤ a := ea ▸ q
theorem leb {a b : Nat} (h : Nat.ble a b = true) : a ≤ b := Nat.le_of_ble_eq_true h
theorem ltb {a b : Nat} (h : Nat.ble (a + 1) b = true) : a < b := Nat.le_of_ble_eq_true h
section Rules
variable {K : KT} {Q : Option Value → Heap → Prop} {T : State} {h : Heap} {cl sl : Nat} {y : MethodName} {bytes : ByteArray} {mx : Nat} {rt : Option FieldType} {R : Room} {pc pc' pt : Nat} {L : Array Slot} {S : List Value}
theorem r_top {v v' : Int32} (q : v = v') (k : Run K Q T (mkF K.m pc L (.int v' :: S))) : Run K Q T (mkF K.m pc L (.int v :: S)) := q ▸ k
theorem r_topL {v v' : Int64} (q : v = v') (k : Run K Q T (mkF K.m pc L (.long v' :: S))) : Run K Q T (mkF K.m pc L (.long v :: S)) := q ▸ k
theorem Sd.ge (X : Sd K T h cl sl) : K.n0 ≤ h.size := by obtain ⟨_, _, _, q, _⟩ := X; exact q
theorem r_iloadN {i : Fin 4} {v : Int32} (X : Sd K T h cl sl) (cx : Cx K y bytes mx rt R) (hd : Dc bytes pc (.iload_n i) 1 pc') (hl : L[i.val]? = some (.val (.int v))) (k : Run K Q T (mkF K.m pc' L (.int v :: S))) : Run K Q T (mkF K.m pc L (S)) := by
  obtain ⟨locs, X0, -⟩ := X; obtain ⟨hx, -, hby, -⟩ := cx; obtain ⟨d, rfl⟩ := hd
  exact Run.st (fun t q => XS.iloadN X0.here hx rfl (hb hby d) hl q) k
theorem r_iload {i : Nat} {v : Int32} (X : Sd K T h cl sl) (cx : Cx K y bytes mx rt R) (hd : Dc bytes pc (.iload i) 2 pc') (hl : L[i]? = some (.val (.int v))) (k : Run K Q T (mkF K.m pc' L (.int v :: S))) : Run K Q T (mkF K.m pc L (S)) := by
  obtain ⟨locs, X0, -⟩ := X; obtain ⟨hx, -, hby, -⟩ := cx; obtain ⟨d, rfl⟩ := hd
  exact Run.st (fun t q => XS.iload X0.here hx rfl (hb hby d) hl q) k
theorem r_lloadN {i : Fin 4} {v : Int64} (X : Sd K T h cl sl) (cx : Cx K y bytes mx rt R) (hd : Dc bytes pc (.lload_n i) 1 pc') (hl : L[i.val]? = some (.val (.long v))) (k : Run K Q T (mkF K.m pc' L (.long v :: S))) : Run K Q T (mkF K.m pc L (S)) := by
  obtain ⟨locs, X0, -⟩ := X; obtain ⟨hx, -, hby, -⟩ := cx; obtain ⟨d, rfl⟩ := hd
  exact Run.st (fun t q => XT.lloadN X0.here hx rfl (hb hby d) hl q) k
theorem r_lload {i : Nat} {v : Int64} (X : Sd K T h cl sl) (cx : Cx K y bytes mx rt R) (hd : Dc bytes pc (.lload i) 2 pc') (hl : L[i]? = some (.val (.long v))) (k : Run K Q T (mkF K.m pc' L (.long v :: S))) : Run K Q T (mkF K.m pc L (S)) := by
  obtain ⟨locs, X0, -⟩ := X; obtain ⟨hx, -, hby, -⟩ := cx; obtain ⟨d, rfl⟩ := hd
  exact Run.st (fun t q => XT.lload X0.here hx rfl (hb hby d) hl q) k
theorem r_aloadN {i : Fin 4} {v : Addr} (X : Sd K T h cl sl) (cx : Cx K y bytes mx rt R) (hd : Dc bytes pc (.aload_n i) 1 pc') (hl : L[i.val]? = some (.val (.ref v))) (k : Run K Q T (mkF K.m pc' L (.ref v :: S))) : Run K Q T (mkF K.m pc L (S)) := by
  obtain ⟨locs, X0, -⟩ := X; obtain ⟨hx, -, hby, -⟩ := cx; obtain ⟨d, rfl⟩ := hd
  exact Run.st (fun t q => XS.aloadN X0.here hx rfl (hb hby d) hl rfl q) k
theorem r_aload {i : Nat} {v : Addr} (X : Sd K T h cl sl) (cx : Cx K y bytes mx rt R) (hd : Dc bytes pc (.aload i) 2 pc') (hl : L[i]? = some (.val (.ref v))) (k : Run K Q T (mkF K.m pc' L (.ref v :: S))) : Run K Q T (mkF K.m pc L (S)) := by
  obtain ⟨locs, X0, -⟩ := X; obtain ⟨hx, -, hby, -⟩ := cx; obtain ⟨d, rfl⟩ := hd
  exact Run.st (fun t q => XS.aload X0.here hx rfl (hb hby d) hl rfl q) k
theorem r_iconst {i : Int} (v : Int32) (X : Sd K T h cl sl) (cx : Cx K y bytes mx rt R) (hd : Dc bytes pc (.iconst i) 1 pc') (hv : Int32.ofInt i = v) (k : Run K Q T (mkF K.m pc' L (.int v :: S))) : Run K Q T (mkF K.m pc L (S)) := by
  obtain ⟨locs, X0, -⟩ := X; obtain ⟨hx, -, hby, -⟩ := cx; obtain ⟨d, rfl⟩ := hd
  exact Run.st (fun t q => XT.iconstV X0.here hx rfl v (hb hby d) hv q) k
theorem r_bipush {i : Int} (v : Int32) (X : Sd K T h cl sl) (cx : Cx K y bytes mx rt R) (hd : Dc bytes pc (.bipush i) 2 pc') (hv : (Int8.ofInt i).toInt32 = v) (k : Run K Q T (mkF K.m pc' L (.int v :: S))) : Run K Q T (mkF K.m pc L (S)) := by
  obtain ⟨locs, X0, -⟩ := X; obtain ⟨hx, -, hby, -⟩ := cx; obtain ⟨d, rfl⟩ := hd
  exact Run.st (fun t q => XT.bipushV X0.here hx rfl v (hb hby d) hv q) k
theorem r_sipush {i : Int} (v : Int32) (X : Sd K T h cl sl) (cx : Cx K y bytes mx rt R) (hd : Dc bytes pc (.sipush i) 3 pc') (hv : (Int16.ofInt i).toInt32 = v) (k : Run K Q T (mkF K.m pc' L (.int v :: S))) : Run K Q T (mkF K.m pc L (S)) := by
  obtain ⟨locs, X0, -⟩ := X; obtain ⟨hx, -, hby, -⟩ := cx; obtain ⟨d, rfl⟩ := hd
  exact Run.st (fun t q => XT.sipushV X0.here hx rfl v (hb hby d) hv q) k
theorem r_lconst {i : Fin 2} (v : Int64) (X : Sd K T h cl sl) (cx : Cx K y bytes mx rt R) (hd : Dc bytes pc (.lconst i) 1 pc') (hv : Int64.ofNat i = v) (k : Run K Q T (mkF K.m pc' L (.long v :: S))) : Run K Q T (mkF K.m pc L (S)) := by
  obtain ⟨locs, X0, -⟩ := X; obtain ⟨hx, -, hby, -⟩ := cx; obtain ⟨d, rfl⟩ := hd
  exact Run.st (fun t q => XT.lconstV X0.here hx rfl v (hb hby d) hv q) k
theorem r_iadd {a b : Int32} (X : Sd K T h cl sl) (cx : Cx K y bytes mx rt R) (hd : Dc bytes pc .iadd 1 pc') (k : Run K Q T (mkF K.m pc' L (.int (a + b) :: S))) : Run K Q T (mkF K.m pc L (.int b :: .int a :: S)) := by
  obtain ⟨locs, X0, -⟩ := X; obtain ⟨hx, -, hby, -⟩ := cx; obtain ⟨d, rfl⟩ := hd
  exact Run.st (fun t q => XS.iadd X0.here hx rfl (hb hby d) rfl q) k
theorem r_isub {a b : Int32} (X : Sd K T h cl sl) (cx : Cx K y bytes mx rt R) (hd : Dc bytes pc .isub 1 pc') (k : Run K Q T (mkF K.m pc' L (.int (a - b) :: S))) : Run K Q T (mkF K.m pc L (.int b :: .int a :: S)) := by
  obtain ⟨locs, X0, -⟩ := X; obtain ⟨hx, -, hby, -⟩ := cx; obtain ⟨d, rfl⟩ := hd
  exact Run.st (fun t q => XS.isub X0.here hx rfl (hb hby d) rfl q) k
theorem r_imul {a b : Int32} (X : Sd K T h cl sl) (cx : Cx K y bytes mx rt R) (hd : Dc bytes pc .imul 1 pc') (k : Run K Q T (mkF K.m pc' L (.int (a * b) :: S))) : Run K Q T (mkF K.m pc L (.int b :: .int a :: S)) := by
  obtain ⟨locs, X0, -⟩ := X; obtain ⟨hx, -, hby, -⟩ := cx; obtain ⟨d, rfl⟩ := hd
  exact Run.st (fun t q => XS.imul X0.here hx rfl (hb hby d) rfl q) k
theorem r_iand {a b : Int32} (X : Sd K T h cl sl) (cx : Cx K y bytes mx rt R) (hd : Dc bytes pc .iand 1 pc') (k : Run K Q T (mkF K.m pc' L (.int (a &&& b) :: S))) : Run K Q T (mkF K.m pc L (.int b :: .int a :: S)) := by
  obtain ⟨locs, X0, -⟩ := X; obtain ⟨hx, -, hby, -⟩ := cx; obtain ⟨d, rfl⟩ := hd
  exact Run.st (fun t q => XS.iand X0.here hx rfl (hb hby d) rfl q) k
theorem r_ior {a b : Int32} (X : Sd K T h cl sl) (cx : Cx K y bytes mx rt R) (hd : Dc bytes pc .ior 1 pc') (k : Run K Q T (mkF K.m pc' L (.int (a ||| b) :: S))) : Run K Q T (mkF K.m pc L (.int b :: .int a :: S)) := by
  obtain ⟨locs, X0, -⟩ := X; obtain ⟨hx, -, hby, -⟩ := cx; obtain ⟨d, rfl⟩ := hd
  exact Run.st (fun t q => XT.ior X0.here hx rfl (hb hby d) rfl q) k
theorem r_ixor {a b : Int32} (X : Sd K T h cl sl) (cx : Cx K y bytes mx rt R) (hd : Dc bytes pc .ixor 1 pc') (k : Run K Q T (mkF K.m pc' L (.int (a ^^^ b) :: S))) : Run K Q T (mkF K.m pc L (.int b :: .int a :: S)) := by
  obtain ⟨locs, X0, -⟩ := X; obtain ⟨hx, -, hby, -⟩ := cx; obtain ⟨d, rfl⟩ := hd
  exact Run.st (fun t q => XT.ixor X0.here hx rfl (hb hby d) rfl q) k
theorem r_ishl {a b : Int32} (X : Sd K T h cl sl) (cx : Cx K y bytes mx rt R) (hd : Dc bytes pc .ishl 1 pc') (k : Run K Q T (mkF K.m pc' L (.int (a <<< (b &&& 31)) :: S))) : Run K Q T (mkF K.m pc L (.int b :: .int a :: S)) := by
  obtain ⟨locs, X0, -⟩ := X; obtain ⟨hx, -, hby, -⟩ := cx; obtain ⟨d, rfl⟩ := hd
  exact Run.st (fun t q => XT.ishl X0.here hx rfl (hb hby d) rfl q) k
theorem r_ishr {a b : Int32} (X : Sd K T h cl sl) (cx : Cx K y bytes mx rt R) (hd : Dc bytes pc .ishr 1 pc') (k : Run K Q T (mkF K.m pc' L (.int (a >>> (b &&& 31)) :: S))) : Run K Q T (mkF K.m pc L (.int b :: .int a :: S)) := by
  obtain ⟨locs, X0, -⟩ := X; obtain ⟨hx, -, hby, -⟩ := cx; obtain ⟨d, rfl⟩ := hd
  exact Run.st (fun t q => XT.ishr X0.here hx rfl (hb hby d) rfl q) k
theorem r_iushr {a b : Int32} (X : Sd K T h cl sl) (cx : Cx K y bytes mx rt R) (hd : Dc bytes pc .iushr 1 pc') (k : Run K Q T (mkF K.m pc' L (.int (XT.ushr a b) :: S))) : Run K Q T (mkF K.m pc L (.int b :: .int a :: S)) := by
  obtain ⟨locs, X0, -⟩ := X; obtain ⟨hx, -, hby, -⟩ := cx; obtain ⟨d, rfl⟩ := hd
  exact Run.st (fun t q => XT.iushr X0.here hx rfl (hb hby d) rfl q) k
theorem r_idiv {a b : Int32} (X : Sd K T h cl sl) (cx : Cx K y bytes mx rt R) (hd : Dc bytes pc .idiv 1 pc') (hne : b ≠ 0) (k : Run K Q T (mkF K.m pc' L (.int (a / b) :: S))) : Run K Q T (mkF K.m pc L (.int b :: .int a :: S)) := by
  obtain ⟨locs, X0, -⟩ := X; obtain ⟨hx, -, hby, -⟩ := cx; obtain ⟨d, rfl⟩ := hd
  exact Run.st (fun t q => XS.idiv X0.here hx rfl (hb hby d) rfl hne q) k
theorem r_irem {a b : Int32} (X : Sd K T h cl sl) (cx : Cx K y bytes mx rt R) (hd : Dc bytes pc .irem 1 pc') (hne : b ≠ 0) (k : Run K Q T (mkF K.m pc' L (.int (a - (a / b) * b) :: S))) : Run K Q T (mkF K.m pc L (.int b :: .int a :: S)) := by
  obtain ⟨locs, X0, -⟩ := X; obtain ⟨hx, -, hby, -⟩ := cx; obtain ⟨d, rfl⟩ := hd
  exact Run.st (fun t q => XS.irem X0.here hx rfl (hb hby d) rfl hne q) k
theorem r_ladd {a b : Int64} (X : Sd K T h cl sl) (cx : Cx K y bytes mx rt R) (hd : Dc bytes pc .ladd 1 pc') (k : Run K Q T (mkF K.m pc' L (.long (a + b) :: S))) : Run K Q T (mkF K.m pc L (.long b :: .long a :: S)) := by
  obtain ⟨locs, X0, -⟩ := X; obtain ⟨hx, -, hby, -⟩ := cx; obtain ⟨d, rfl⟩ := hd
  exact Run.st (fun t q => XT.ladd X0.here hx rfl (hb hby d) rfl q) k
theorem r_lsub {a b : Int64} (X : Sd K T h cl sl) (cx : Cx K y bytes mx rt R) (hd : Dc bytes pc .lsub 1 pc') (k : Run K Q T (mkF K.m pc' L (.long (a - b) :: S))) : Run K Q T (mkF K.m pc L (.long b :: .long a :: S)) := by
  obtain ⟨locs, X0, -⟩ := X; obtain ⟨hx, -, hby, -⟩ := cx; obtain ⟨d, rfl⟩ := hd
  exact Run.st (fun t q => XT.lsub X0.here hx rfl (hb hby d) rfl q) k
theorem r_lmul {a b : Int64} (X : Sd K T h cl sl) (cx : Cx K y bytes mx rt R) (hd : Dc bytes pc .lmul 1 pc') (k : Run K Q T (mkF K.m pc' L (.long (a * b) :: S))) : Run K Q T (mkF K.m pc L (.long b :: .long a :: S)) := by
  obtain ⟨locs, X0, -⟩ := X; obtain ⟨hx, -, hby, -⟩ := cx; obtain ⟨d, rfl⟩ := hd
  exact Run.st (fun t q => XT.lmul X0.here hx rfl (hb hby d) rfl q) k
theorem r_land {a b : Int64} (X : Sd K T h cl sl) (cx : Cx K y bytes mx rt R) (hd : Dc bytes pc .land 1 pc') (k : Run K Q T (mkF K.m pc' L (.long (a &&& b) :: S))) : Run K Q T (mkF K.m pc L (.long b :: .long a :: S)) := by
  obtain ⟨locs, X0, -⟩ := X; obtain ⟨hx, -, hby, -⟩ := cx; obtain ⟨d, rfl⟩ := hd
  exact Run.st (fun t q => XT.land X0.here hx rfl (hb hby d) rfl q) k
theorem r_lor {a b : Int64} (X : Sd K T h cl sl) (cx : Cx K y bytes mx rt R) (hd : Dc bytes pc .lor 1 pc') (k : Run K Q T (mkF K.m pc' L (.long (a ||| b) :: S))) : Run K Q T (mkF K.m pc L (.long b :: .long a :: S)) := by
  obtain ⟨locs, X0, -⟩ := X; obtain ⟨hx, -, hby, -⟩ := cx; obtain ⟨d, rfl⟩ := hd
  exact Run.st (fun t q => XT.lor X0.here hx rfl (hb hby d) rfl q) k
theorem r_lxor {a b : Int64} (X : Sd K T h cl sl) (cx : Cx K y bytes mx rt R) (hd : Dc bytes pc .lxor 1 pc') (k : Run K Q T (mkF K.m pc' L (.long (a ^^^ b) :: S))) : Run K Q T (mkF K.m pc L (.long b :: .long a :: S)) := by
  obtain ⟨locs, X0, -⟩ := X; obtain ⟨hx, -, hby, -⟩ := cx; obtain ⟨d, rfl⟩ := hd
  exact Run.st (fun t q => XT.lxor X0.here hx rfl (hb hby d) rfl q) k
theorem r_ldiv {a b : Int64} (X : Sd K T h cl sl) (cx : Cx K y bytes mx rt R) (hd : Dc bytes pc .ldiv 1 pc') (hne : b ≠ 0) (k : Run K Q T (mkF K.m pc' L (.long (a / b) :: S))) : Run K Q T (mkF K.m pc L (.long b :: .long a :: S)) := by
  obtain ⟨locs, X0, -⟩ := X; obtain ⟨hx, -, hby, -⟩ := cx; obtain ⟨d, rfl⟩ := hd
  exact Run.st (fun t q => XT.ldiv X0.here hx rfl (hb hby d) rfl hne q) k
theorem r_lrem {a b : Int64} (X : Sd K T h cl sl) (cx : Cx K y bytes mx rt R) (hd : Dc bytes pc .lrem 1 pc') (hne : b ≠ 0) (k : Run K Q T (mkF K.m pc' L (.long (a - (a / b) * b) :: S))) : Run K Q T (mkF K.m pc L (.long b :: .long a :: S)) := by
  obtain ⟨locs, X0, -⟩ := X; obtain ⟨hx, -, hby, -⟩ := cx; obtain ⟨d, rfl⟩ := hd
  exact Run.st (fun t q => XT.lrem X0.here hx rfl (hb hby d) rfl hne q) k
theorem r_lshl {a : Int64} {b : Int32} (X : Sd K T h cl sl) (cx : Cx K y bytes mx rt R) (hd : Dc bytes pc .lshl 1 pc') (k : Run K Q T (mkF K.m pc' L (.long (a <<< (b.toInt64 &&& 63)) :: S))) : Run K Q T (mkF K.m pc L (.int b :: .long a :: S)) := by
  obtain ⟨locs, X0, -⟩ := X; obtain ⟨hx, -, hby, -⟩ := cx; obtain ⟨d, rfl⟩ := hd
  exact Run.st (fun t q => XT.lshl X0.here hx rfl (hb hby d) rfl q) k
theorem r_lshr {a : Int64} {b : Int32} (X : Sd K T h cl sl) (cx : Cx K y bytes mx rt R) (hd : Dc bytes pc .lshr 1 pc') (k : Run K Q T (mkF K.m pc' L (.long (a >>> (b.toInt64 &&& 63)) :: S))) : Run K Q T (mkF K.m pc L (.int b :: .long a :: S)) := by
  obtain ⟨locs, X0, -⟩ := X; obtain ⟨hx, -, hby, -⟩ := cx; obtain ⟨d, rfl⟩ := hd
  exact Run.st (fun t q => XT.lshr X0.here hx rfl (hb hby d) rfl q) k
theorem r_lushr {a : Int64} {b : Int32} (X : Sd K T h cl sl) (cx : Cx K y bytes mx rt R) (hd : Dc bytes pc .lushr 1 pc') (k : Run K Q T (mkF K.m pc' L (.long (XT.ushrL a b) :: S))) : Run K Q T (mkF K.m pc L (.int b :: .long a :: S)) := by
  obtain ⟨locs, X0, -⟩ := X; obtain ⟨hx, -, hby, -⟩ := cx; obtain ⟨d, rfl⟩ := hd
  exact Run.st (fun t q => XT.lushr X0.here hx rfl (hb hby d) rfl q) k
theorem r_ineg {a : Int32} (X : Sd K T h cl sl) (cx : Cx K y bytes mx rt R) (hd : Dc bytes pc .ineg 1 pc') (k : Run K Q T (mkF K.m pc' L (.int (-a) :: S))) : Run K Q T (mkF K.m pc L (.int a :: S)) := by
  obtain ⟨locs, X0, -⟩ := X; obtain ⟨hx, -, hby, -⟩ := cx; obtain ⟨d, rfl⟩ := hd
  exact Run.st (fun t q => XS.ineg X0.here hx rfl (hb hby d) rfl q) k
theorem r_i2l {a : Int32} (X : Sd K T h cl sl) (cx : Cx K y bytes mx rt R) (hd : Dc bytes pc .i2l 1 pc') (k : Run K Q T (mkF K.m pc' L (.long a.toInt64 :: S))) : Run K Q T (mkF K.m pc L (.int a :: S)) := by
  obtain ⟨locs, X0, -⟩ := X; obtain ⟨hx, -, hby, -⟩ := cx; obtain ⟨d, rfl⟩ := hd
  exact Run.st (fun t q => XT.i2l X0.here hx rfl (hb hby d) rfl q) k
theorem r_l2i {a : Int64} (X : Sd K T h cl sl) (cx : Cx K y bytes mx rt R) (hd : Dc bytes pc .l2i 1 pc') (k : Run K Q T (mkF K.m pc' L (.int a.toInt32 :: S))) : Run K Q T (mkF K.m pc L (.long a :: S)) := by
  obtain ⟨locs, X0, -⟩ := X; obtain ⟨hx, -, hby, -⟩ := cx; obtain ⟨d, rfl⟩ := hd
  exact Run.st (fun t q => XT.l2i X0.here hx rfl (hb hby d) rfl q) k
theorem r_i2b {a : Int32} (X : Sd K T h cl sl) (cx : Cx K y bytes mx rt R) (hd : Dc bytes pc .i2b 1 pc') (k : Run K Q T (mkF K.m pc' L (.int a.toInt8.toInt32 :: S))) : Run K Q T (mkF K.m pc L (.int a :: S)) := by
  obtain ⟨locs, X0, -⟩ := X; obtain ⟨hx, -, hby, -⟩ := cx; obtain ⟨d, rfl⟩ := hd
  exact Run.st (fun t q => XT.i2b X0.here hx rfl (hb hby d) rfl q) k
theorem r_i2s {a : Int32} (X : Sd K T h cl sl) (cx : Cx K y bytes mx rt R) (hd : Dc bytes pc .i2s 1 pc') (k : Run K Q T (mkF K.m pc' L (.int a.toInt16.toInt32 :: S))) : Run K Q T (mkF K.m pc L (.int a :: S)) := by
  obtain ⟨locs, X0, -⟩ := X; obtain ⟨hx, -, hby, -⟩ := cx; obtain ⟨d, rfl⟩ := hd
  exact Run.st (fun t q => XT.i2s X0.here hx rfl (hb hby d) rfl q) k
theorem r_lcmp {a b : Int64} (X : Sd K T h cl sl) (cx : Cx K y bytes mx rt R) (hd : Dc bytes pc .lcmp 1 pc') (k : Run K Q T (mkF K.m pc' L (.int (XT.cmpL a b) :: S))) : Run K Q T (mkF K.m pc L (.long b :: .long a :: S)) := by
  obtain ⟨locs, X0, -⟩ := X; obtain ⟨hx, -, hby, -⟩ := cx; obtain ⟨d, rfl⟩ := hd
  exact Run.st (fun t q => XT.lcmp X0.here hx rfl (hb hby d) rfl q) k
theorem r_dup {v : Value} (X : Sd K T h cl sl) (cx : Cx K y bytes mx rt R) (hd : Dc bytes pc .dup 1 pc') (hc : v.category = 1) (k : Run K Q T (mkF K.m pc' L (v :: v :: S))) : Run K Q T (mkF K.m pc L (v :: S)) := by
  obtain ⟨locs, X0, -⟩ := X; obtain ⟨hx, -, hby, -⟩ := cx; obtain ⟨d, rfl⟩ := hd
  exact Run.st (fun t q => XS.dup X0.here hx rfl (hb hby d) rfl hc q) k
theorem r_pop {v : Value} (X : Sd K T h cl sl) (cx : Cx K y bytes mx rt R) (hd : Dc bytes pc .pop 1 pc') (hc : v.category = 1) (k : Run K Q T (mkF K.m pc' L (S))) : Run K Q T (mkF K.m pc L (v :: S)) := by
  obtain ⟨locs, X0, -⟩ := X; obtain ⟨hx, -, hby, -⟩ := cx; obtain ⟨d, rfl⟩ := hd
  exact Run.st (fun t q => XT.pop X0.here hx rfl (hb hby d) rfl hc q) k
theorem r_dup2 {v w : Value} (X : Sd K T h cl sl) (cx : Cx K y bytes mx rt R) (hd : Dc bytes pc .dup2 1 pc') (hc : v.category = 1) (hc2 : w.category = 1) (k : Run K Q T (mkF K.m pc' L (v :: w :: v :: w :: S))) : Run K Q T (mkF K.m pc L (v :: w :: S)) := by
  obtain ⟨locs, X0, -⟩ := X; obtain ⟨hx, -, hby, -⟩ := cx; obtain ⟨d, rfl⟩ := hd
  exact Run.st (fun t q => XT.dup2 X0.here hx rfl (hb hby d) rfl hc hc2 q) k
theorem r_dup_x1 {v w : Value} (X : Sd K T h cl sl) (cx : Cx K y bytes mx rt R) (hd : Dc bytes pc .dup_x1 1 pc') (hc : v.category = 1) (hc2 : w.category = 1) (k : Run K Q T (mkF K.m pc' L (v :: w :: v :: S))) : Run K Q T (mkF K.m pc L (v :: w :: S)) := by
  obtain ⟨locs, X0, -⟩ := X; obtain ⟨hx, -, hby, -⟩ := cx; obtain ⟨d, rfl⟩ := hd
  exact Run.st (fun t q => XT.dupX1 X0.here hx rfl (hb hby d) rfl hc hc2 q) k
theorem r_istoreN {i : Fin 4} {x : Int32} (L' : Int32 → Array Slot) (X : Sd K T h cl sl) (cx : Cx K y bytes mx rt R) (hd : Dc bytes pc (.istore_n i) 1 pc') (hl : ∀ v, storeLocals L i.val (.int v) = some (L' v)) (k : ∀ v, v = x → Run K Q T (mkF K.m pc' (L' v) S)) : Run K Q T (mkF K.m pc L (.int x :: S)) := by
  obtain ⟨locs, X0, -⟩ := X; obtain ⟨hx, -, hby, -⟩ := cx; obtain ⟨d, rfl⟩ := hd
  exact Run.st (fun t q => XS.istoreN X0.here hx rfl (hb hby d) rfl (hl x) q) (k x rfl)
theorem r_istore {i : Nat} {x : Int32} (L' : Int32 → Array Slot) (X : Sd K T h cl sl) (cx : Cx K y bytes mx rt R) (hd : Dc bytes pc (.istore i) 2 pc') (hl : ∀ v, storeLocals L i (.int v) = some (L' v)) (k : ∀ v, v = x → Run K Q T (mkF K.m pc' (L' v) S)) : Run K Q T (mkF K.m pc L (.int x :: S)) := by
  obtain ⟨locs, X0, -⟩ := X; obtain ⟨hx, -, hby, -⟩ := cx; obtain ⟨d, rfl⟩ := hd
  exact Run.st (fun t q => XS.istore X0.here hx rfl (hb hby d) rfl (hl x) q) (k x rfl)
theorem r_lstoreN {i : Fin 4} {x : Int64} (L' : Int64 → Array Slot) (X : Sd K T h cl sl) (cx : Cx K y bytes mx rt R) (hd : Dc bytes pc (.lstore_n i) 1 pc') (hl : ∀ v, storeLocals L i.val (.long v) = some (L' v)) (k : ∀ v, v = x → Run K Q T (mkF K.m pc' (L' v) S)) : Run K Q T (mkF K.m pc L (.long x :: S)) := by
  obtain ⟨locs, X0, -⟩ := X; obtain ⟨hx, -, hby, -⟩ := cx; obtain ⟨d, rfl⟩ := hd
  exact Run.st (fun t q => XT.lstoreN X0.here hx rfl (hb hby d) rfl (hl x) q) (k x rfl)
theorem r_lstore {i : Nat} {x : Int64} (L' : Int64 → Array Slot) (X : Sd K T h cl sl) (cx : Cx K y bytes mx rt R) (hd : Dc bytes pc (.lstore i) 2 pc') (hl : ∀ v, storeLocals L i (.long v) = some (L' v)) (k : ∀ v, v = x → Run K Q T (mkF K.m pc' (L' v) S)) : Run K Q T (mkF K.m pc L (.long x :: S)) := by
  obtain ⟨locs, X0, -⟩ := X; obtain ⟨hx, -, hby, -⟩ := cx; obtain ⟨d, rfl⟩ := hd
  exact Run.st (fun t q => XT.lstore X0.here hx rfl (hb hby d) rfl (hl x) q) (k x rfl)
theorem r_astoreN {i : Fin 4} {x : Addr} (L' : Array Slot) (X : Sd K T h cl sl) (cx : Cx K y bytes mx rt R) (hd : Dc bytes pc (.astore_n i) 1 pc') (hl : storeLocals L i.val (.ref x) = some L') (k : Run K Q T (mkF K.m pc' L' S)) : Run K Q T (mkF K.m pc L (.ref x :: S)) := by
  obtain ⟨locs, X0, -⟩ := X; obtain ⟨hx, -, hby, -⟩ := cx; obtain ⟨d, rfl⟩ := hd
  exact Run.st (fun t q => XS.astoreN X0.here hx rfl (hb hby d) rfl rfl hl q) k
theorem r_astore {i : Nat} {x : Addr} (L' : Array Slot) (X : Sd K T h cl sl) (cx : Cx K y bytes mx rt R) (hd : Dc bytes pc (.astore i) 2 pc') (hl : storeLocals L i (.ref x) = some L') (k : Run K Q T (mkF K.m pc' L' S)) : Run K Q T (mkF K.m pc L (.ref x :: S)) := by
  obtain ⟨locs, X0, -⟩ := X; obtain ⟨hx, -, hby, -⟩ := cx; obtain ⟨d, rfl⟩ := hd
  exact Run.st (fun t q => XS.astore X0.here hx rfl (hb hby d) rfl rfl hl q) k
theorem r_iinc {i : Nat} {cst : Int} {x : Int32} (w : Int32) (L' : Int32 → Array Slot) (X : Sd K T h cl sl) (cx : Cx K y bytes mx rt R) (hd : Dc bytes pc (.iinc i cst) 3 pc') (hv : Int32.ofInt cst = w) (ho : L[i]? = some (.val (.int x))) (hl : ∀ v, storeLocals L i (.int v) = some (L' v)) (k : ∀ v, v = x + w → Run K Q T (mkF K.m pc' (L' v) S)) : Run K Q T (mkF K.m pc L S) := by
  obtain ⟨locs, X0, -⟩ := X; obtain ⟨hx, -, hby, -⟩ := cx; obtain ⟨d, rfl⟩ := hd
  exact Run.st (fun t q => XT.iincV X0.here hx rfl w (hb hby d) hv ho (hl _) q) (k _ rfl)
theorem r_goto {o : Int} (X : Sd K T h cl sl) (cx : Cx K y bytes mx rt R) (hd : Db bytes pc (.goto o) o pc' pt) (k : Run K Q T (mkF K.m pt L S)) : Run K Q T (mkF K.m pc L S) := by
  obtain ⟨locs, X0, -⟩ := X; obtain ⟨hx, -, hby, -⟩ := cx; obtain ⟨d, -, ho, hp⟩ := hd
  exact Run.st (fun t q => XS.goto X0.here hx rfl (pc0 := pc) rfl (hb hby d) ho hp q) k
theorem r_icmpeq {o : Int} {a b : Int32} (X : Sd K T h cl sl) (cx : Cx K y bytes mx rt R) (hd : Db bytes pc (.if_icmp .eq o) o pc' pt) (k1 : a = b → Run K Q T (mkF K.m pt L S)) (k2 : ¬ a = b → Run K Q T (mkF K.m pc' L S)) : Run K Q T (mkF K.m pc L (.int b :: .int a :: S)) := by
  obtain ⟨locs, X0, -⟩ := X; obtain ⟨hx, -, hby, -⟩ := cx; obtain ⟨d, rfl, ho, hp⟩ := hd
  by_cases q : a = b
  · exact Run.st (fun t u => XS.icmpYes X0.here hx rfl (pc0 := pc) rfl (hb hby d) rfl (XT.ii_eq_t q) ho hp u) (k1 q)
  · exact Run.st (fun t u => XS.icmpNo X0.here hx rfl (hb hby d) rfl (XT.ii_eq_f q) u) (k2 q)
theorem r_ifeq {o : Int} {a : Int32} (X : Sd K T h cl sl) (cx : Cx K y bytes mx rt R) (hd : Db bytes pc (.ifCond .eq o) o pc' pt) (k1 : a = 0 → Run K Q T (mkF K.m pt L S)) (k2 : ¬ a = 0 → Run K Q T (mkF K.m pc' L S)) : Run K Q T (mkF K.m pc L (.int a :: S)) := by
  obtain ⟨locs, X0, -⟩ := X; obtain ⟨hx, -, hby, -⟩ := cx; obtain ⟨d, rfl, ho, hp⟩ := hd
  by_cases q : a = 0
  · exact Run.st (fun t u => XS.ifYes X0.here hx rfl (pc0 := pc) rfl (hb hby d) rfl (XT.i0_eq_t q) ho hp u) (k1 q)
  · exact Run.st (fun t u => XS.ifNo X0.here hx rfl (hb hby d) rfl (XT.i0_eq_f q) u) (k2 q)
theorem r_lcmpeq {o : Int} {a b : Int64} (X : Sd K T h cl sl) (cx : Cx K y bytes mx rt R) (hd : Db bytes pc (.ifCond .eq o) o pc' pt) (k1 : a = b → Run K Q T (mkF K.m pt L S)) (k2 : ¬ a = b → Run K Q T (mkF K.m pc' L S)) : Run K Q T (mkF K.m pc L (.int (XT.cmpL a b) :: S)) := by
  obtain ⟨locs, X0, -⟩ := X; obtain ⟨hx, -, hby, -⟩ := cx; obtain ⟨d, rfl, ho, hp⟩ := hd
  by_cases q : a = b
  · exact Run.st (fun t u => XS.ifYes X0.here hx rfl (pc0 := pc) rfl (hb hby d) rfl (XT.ll_eq_t q) ho hp u) (k1 q)
  · exact Run.st (fun t u => XS.ifNo X0.here hx rfl (hb hby d) rfl (XT.ll_eq_f q) u) (k2 q)
theorem r_icmpne {o : Int} {a b : Int32} (X : Sd K T h cl sl) (cx : Cx K y bytes mx rt R) (hd : Db bytes pc (.if_icmp .ne o) o pc' pt) (k1 : ¬ a = b → Run K Q T (mkF K.m pt L S)) (k2 : a = b → Run K Q T (mkF K.m pc' L S)) : Run K Q T (mkF K.m pc L (.int b :: .int a :: S)) := by
  obtain ⟨locs, X0, -⟩ := X; obtain ⟨hx, -, hby, -⟩ := cx; obtain ⟨d, rfl, ho, hp⟩ := hd
  by_cases q : a = b
  · exact Run.st (fun t u => XS.icmpNo X0.here hx rfl (hb hby d) rfl (XT.ii_ne_f q) u) (k2 q)
  · exact Run.st (fun t u => XS.icmpYes X0.here hx rfl (pc0 := pc) rfl (hb hby d) rfl (XT.ii_ne_t q) ho hp u) (k1 q)
theorem r_ifne {o : Int} {a : Int32} (X : Sd K T h cl sl) (cx : Cx K y bytes mx rt R) (hd : Db bytes pc (.ifCond .ne o) o pc' pt) (k1 : ¬ a = 0 → Run K Q T (mkF K.m pt L S)) (k2 : a = 0 → Run K Q T (mkF K.m pc' L S)) : Run K Q T (mkF K.m pc L (.int a :: S)) := by
  obtain ⟨locs, X0, -⟩ := X; obtain ⟨hx, -, hby, -⟩ := cx; obtain ⟨d, rfl, ho, hp⟩ := hd
  by_cases q : a = 0
  · exact Run.st (fun t u => XS.ifNo X0.here hx rfl (hb hby d) rfl (XT.i0_ne_f q) u) (k2 q)
  · exact Run.st (fun t u => XS.ifYes X0.here hx rfl (pc0 := pc) rfl (hb hby d) rfl (XT.i0_ne_t q) ho hp u) (k1 q)
theorem r_lcmpne {o : Int} {a b : Int64} (X : Sd K T h cl sl) (cx : Cx K y bytes mx rt R) (hd : Db bytes pc (.ifCond .ne o) o pc' pt) (k1 : ¬ a = b → Run K Q T (mkF K.m pt L S)) (k2 : a = b → Run K Q T (mkF K.m pc' L S)) : Run K Q T (mkF K.m pc L (.int (XT.cmpL a b) :: S)) := by
  obtain ⟨locs, X0, -⟩ := X; obtain ⟨hx, -, hby, -⟩ := cx; obtain ⟨d, rfl, ho, hp⟩ := hd
  by_cases q : a = b
  · exact Run.st (fun t u => XS.ifNo X0.here hx rfl (hb hby d) rfl (XT.ll_ne_f q) u) (k2 q)
  · exact Run.st (fun t u => XS.ifYes X0.here hx rfl (pc0 := pc) rfl (hb hby d) rfl (XT.ll_ne_t q) ho hp u) (k1 q)
theorem r_icmplt {o : Int} {a b : Int32} (X : Sd K T h cl sl) (cx : Cx K y bytes mx rt R) (hd : Db bytes pc (.if_icmp .lt o) o pc' pt) (k1 : a < b → Run K Q T (mkF K.m pt L S)) (k2 : ¬ a < b → Run K Q T (mkF K.m pc' L S)) : Run K Q T (mkF K.m pc L (.int b :: .int a :: S)) := by
  obtain ⟨locs, X0, -⟩ := X; obtain ⟨hx, -, hby, -⟩ := cx; obtain ⟨d, rfl, ho, hp⟩ := hd
  by_cases q : a < b
  · exact Run.st (fun t u => XS.icmpYes X0.here hx rfl (pc0 := pc) rfl (hb hby d) rfl (XT.ii_lt_t q) ho hp u) (k1 q)
  · exact Run.st (fun t u => XS.icmpNo X0.here hx rfl (hb hby d) rfl (XT.ii_lt_f q) u) (k2 q)
theorem r_iflt {o : Int} {a : Int32} (X : Sd K T h cl sl) (cx : Cx K y bytes mx rt R) (hd : Db bytes pc (.ifCond .lt o) o pc' pt) (k1 : a < 0 → Run K Q T (mkF K.m pt L S)) (k2 : ¬ a < 0 → Run K Q T (mkF K.m pc' L S)) : Run K Q T (mkF K.m pc L (.int a :: S)) := by
  obtain ⟨locs, X0, -⟩ := X; obtain ⟨hx, -, hby, -⟩ := cx; obtain ⟨d, rfl, ho, hp⟩ := hd
  by_cases q : a < 0
  · exact Run.st (fun t u => XS.ifYes X0.here hx rfl (pc0 := pc) rfl (hb hby d) rfl (XT.i0_lt_t q) ho hp u) (k1 q)
  · exact Run.st (fun t u => XS.ifNo X0.here hx rfl (hb hby d) rfl (XT.i0_lt_f q) u) (k2 q)
theorem r_lcmplt {o : Int} {a b : Int64} (X : Sd K T h cl sl) (cx : Cx K y bytes mx rt R) (hd : Db bytes pc (.ifCond .lt o) o pc' pt) (k1 : a < b → Run K Q T (mkF K.m pt L S)) (k2 : ¬ a < b → Run K Q T (mkF K.m pc' L S)) : Run K Q T (mkF K.m pc L (.int (XT.cmpL a b) :: S)) := by
  obtain ⟨locs, X0, -⟩ := X; obtain ⟨hx, -, hby, -⟩ := cx; obtain ⟨d, rfl, ho, hp⟩ := hd
  by_cases q : a < b
  · exact Run.st (fun t u => XS.ifYes X0.here hx rfl (pc0 := pc) rfl (hb hby d) rfl (XT.ll_lt_t q) ho hp u) (k1 q)
  · exact Run.st (fun t u => XS.ifNo X0.here hx rfl (hb hby d) rfl (XT.ll_lt_f q) u) (k2 q)
theorem r_icmpge {o : Int} {a b : Int32} (X : Sd K T h cl sl) (cx : Cx K y bytes mx rt R) (hd : Db bytes pc (.if_icmp .ge o) o pc' pt) (k1 : ¬ a < b → Run K Q T (mkF K.m pt L S)) (k2 : a < b → Run K Q T (mkF K.m pc' L S)) : Run K Q T (mkF K.m pc L (.int b :: .int a :: S)) := by
  obtain ⟨locs, X0, -⟩ := X; obtain ⟨hx, -, hby, -⟩ := cx; obtain ⟨d, rfl, ho, hp⟩ := hd
  by_cases q : a < b
  · exact Run.st (fun t u => XS.icmpNo X0.here hx rfl (hb hby d) rfl (XT.ii_ge_f q) u) (k2 q)
  · exact Run.st (fun t u => XS.icmpYes X0.here hx rfl (pc0 := pc) rfl (hb hby d) rfl (XT.ii_ge_t q) ho hp u) (k1 q)
theorem r_ifge {o : Int} {a : Int32} (X : Sd K T h cl sl) (cx : Cx K y bytes mx rt R) (hd : Db bytes pc (.ifCond .ge o) o pc' pt) (k1 : ¬ a < 0 → Run K Q T (mkF K.m pt L S)) (k2 : a < 0 → Run K Q T (mkF K.m pc' L S)) : Run K Q T (mkF K.m pc L (.int a :: S)) := by
  obtain ⟨locs, X0, -⟩ := X; obtain ⟨hx, -, hby, -⟩ := cx; obtain ⟨d, rfl, ho, hp⟩ := hd
  by_cases q : a < 0
  · exact Run.st (fun t u => XS.ifNo X0.here hx rfl (hb hby d) rfl (XT.i0_ge_f q) u) (k2 q)
  · exact Run.st (fun t u => XS.ifYes X0.here hx rfl (pc0 := pc) rfl (hb hby d) rfl (XT.i0_ge_t q) ho hp u) (k1 q)
theorem r_lcmpge {o : Int} {a b : Int64} (X : Sd K T h cl sl) (cx : Cx K y bytes mx rt R) (hd : Db bytes pc (.ifCond .ge o) o pc' pt) (k1 : ¬ a < b → Run K Q T (mkF K.m pt L S)) (k2 : a < b → Run K Q T (mkF K.m pc' L S)) : Run K Q T (mkF K.m pc L (.int (XT.cmpL a b) :: S)) := by
  obtain ⟨locs, X0, -⟩ := X; obtain ⟨hx, -, hby, -⟩ := cx; obtain ⟨d, rfl, ho, hp⟩ := hd
  by_cases q : a < b
  · exact Run.st (fun t u => XS.ifNo X0.here hx rfl (hb hby d) rfl (XT.ll_ge_f q) u) (k2 q)
  · exact Run.st (fun t u => XS.ifYes X0.here hx rfl (pc0 := pc) rfl (hb hby d) rfl (XT.ll_ge_t q) ho hp u) (k1 q)
theorem r_icmpgt {o : Int} {a b : Int32} (X : Sd K T h cl sl) (cx : Cx K y bytes mx rt R) (hd : Db bytes pc (.if_icmp .gt o) o pc' pt) (k1 : b < a → Run K Q T (mkF K.m pt L S)) (k2 : ¬ b < a → Run K Q T (mkF K.m pc' L S)) : Run K Q T (mkF K.m pc L (.int b :: .int a :: S)) := by
  obtain ⟨locs, X0, -⟩ := X; obtain ⟨hx, -, hby, -⟩ := cx; obtain ⟨d, rfl, ho, hp⟩ := hd
  by_cases q : b < a
  · exact Run.st (fun t u => XS.icmpYes X0.here hx rfl (pc0 := pc) rfl (hb hby d) rfl (XT.ii_gt_t q) ho hp u) (k1 q)
  · exact Run.st (fun t u => XS.icmpNo X0.here hx rfl (hb hby d) rfl (XT.ii_gt_f q) u) (k2 q)
theorem r_ifgt {o : Int} {a : Int32} (X : Sd K T h cl sl) (cx : Cx K y bytes mx rt R) (hd : Db bytes pc (.ifCond .gt o) o pc' pt) (k1 : 0 < a → Run K Q T (mkF K.m pt L S)) (k2 : ¬ 0 < a → Run K Q T (mkF K.m pc' L S)) : Run K Q T (mkF K.m pc L (.int a :: S)) := by
  obtain ⟨locs, X0, -⟩ := X; obtain ⟨hx, -, hby, -⟩ := cx; obtain ⟨d, rfl, ho, hp⟩ := hd
  by_cases q : 0 < a
  · exact Run.st (fun t u => XS.ifYes X0.here hx rfl (pc0 := pc) rfl (hb hby d) rfl (XT.i0_gt_t q) ho hp u) (k1 q)
  · exact Run.st (fun t u => XS.ifNo X0.here hx rfl (hb hby d) rfl (XT.i0_gt_f q) u) (k2 q)
theorem r_lcmpgt {o : Int} {a b : Int64} (X : Sd K T h cl sl) (cx : Cx K y bytes mx rt R) (hd : Db bytes pc (.ifCond .gt o) o pc' pt) (k1 : b < a → Run K Q T (mkF K.m pt L S)) (k2 : ¬ b < a → Run K Q T (mkF K.m pc' L S)) : Run K Q T (mkF K.m pc L (.int (XT.cmpL a b) :: S)) := by
  obtain ⟨locs, X0, -⟩ := X; obtain ⟨hx, -, hby, -⟩ := cx; obtain ⟨d, rfl, ho, hp⟩ := hd
  by_cases q : b < a
  · exact Run.st (fun t u => XS.ifYes X0.here hx rfl (pc0 := pc) rfl (hb hby d) rfl (XT.ll_gt_t q) ho hp u) (k1 q)
  · exact Run.st (fun t u => XS.ifNo X0.here hx rfl (hb hby d) rfl (XT.ll_gt_f q) u) (k2 q)
theorem r_icmple {o : Int} {a b : Int32} (X : Sd K T h cl sl) (cx : Cx K y bytes mx rt R) (hd : Db bytes pc (.if_icmp .le o) o pc' pt) (k1 : ¬ b < a → Run K Q T (mkF K.m pt L S)) (k2 : b < a → Run K Q T (mkF K.m pc' L S)) : Run K Q T (mkF K.m pc L (.int b :: .int a :: S)) := by
  obtain ⟨locs, X0, -⟩ := X; obtain ⟨hx, -, hby, -⟩ := cx; obtain ⟨d, rfl, ho, hp⟩ := hd
  by_cases q : b < a
  · exact Run.st (fun t u => XS.icmpNo X0.here hx rfl (hb hby d) rfl (XT.ii_le_f q) u) (k2 q)
  · exact Run.st (fun t u => XS.icmpYes X0.here hx rfl (pc0 := pc) rfl (hb hby d) rfl (XT.ii_le_t q) ho hp u) (k1 q)
theorem r_ifle {o : Int} {a : Int32} (X : Sd K T h cl sl) (cx : Cx K y bytes mx rt R) (hd : Db bytes pc (.ifCond .le o) o pc' pt) (k1 : ¬ 0 < a → Run K Q T (mkF K.m pt L S)) (k2 : 0 < a → Run K Q T (mkF K.m pc' L S)) : Run K Q T (mkF K.m pc L (.int a :: S)) := by
  obtain ⟨locs, X0, -⟩ := X; obtain ⟨hx, -, hby, -⟩ := cx; obtain ⟨d, rfl, ho, hp⟩ := hd
  by_cases q : 0 < a
  · exact Run.st (fun t u => XS.ifNo X0.here hx rfl (hb hby d) rfl (XT.i0_le_f q) u) (k2 q)
  · exact Run.st (fun t u => XS.ifYes X0.here hx rfl (pc0 := pc) rfl (hb hby d) rfl (XT.i0_le_t q) ho hp u) (k1 q)
theorem r_lcmple {o : Int} {a b : Int64} (X : Sd K T h cl sl) (cx : Cx K y bytes mx rt R) (hd : Db bytes pc (.ifCond .le o) o pc' pt) (k1 : ¬ b < a → Run K Q T (mkF K.m pt L S)) (k2 : b < a → Run K Q T (mkF K.m pc' L S)) : Run K Q T (mkF K.m pc L (.int (XT.cmpL a b) :: S)) := by
  obtain ⟨locs, X0, -⟩ := X; obtain ⟨hx, -, hby, -⟩ := cx; obtain ⟨d, rfl, ho, hp⟩ := hd
  by_cases q : b < a
  · exact Run.st (fun t u => XS.ifNo X0.here hx rfl (hb hby d) rfl (XT.ll_le_f q) u) (k2 q)
  · exact Run.st (fun t u => XS.ifYes X0.here hx rfl (pc0 := pc) rfl (hb hby d) rfl (XT.ll_le_t q) ho hp u) (k1 q)
theorem r_ldc {i : Nat} {v : Int32} {a0 : Array Value} (X : Sd K T h cl sl) (cx : Cx K y bytes mx rt R) (hd : Dc bytes pc (.ldc i) 2 pc') (w : (Cond.constant y.cls i v).before a0 K.Z = true) (k : Run K Q T (mkF K.m pc' L (.int v :: S))) : Run K Q T (mkF K.m pc L S) := by
  obtain ⟨locs, X0, -⟩ := X; obtain ⟨hx, hZ, hby, -, hown, -⟩ := cx; obtain ⟨d, rfl⟩ := hd
  exact Run.st (fun t q => Jvm.Stand.ldcI X0 hx hown (mv hZ w) rfl (hb hby d) q) k
theorem r_ldcW {i : Nat} {v : Int32} {a0 : Array Value} (X : Sd K T h cl sl) (cx : Cx K y bytes mx rt R) (hd : Dc bytes pc (.ldc_w i) 3 pc') (w : (Cond.constant y.cls i v).before a0 K.Z = true) (k : Run K Q T (mkF K.m pc' L (.int v :: S))) : Run K Q T (mkF K.m pc L S) := by
  obtain ⟨locs, X0, -⟩ := X; obtain ⟨hx, hZ, hby, -, hown, -⟩ := cx; obtain ⟨d, rfl⟩ := hd
  exact Run.st (fun t q => Jvm.Stand.ldcWI X0 hx hown (mv hZ w) rfl (hb hby d) q) k
theorem r_ldc2 {i : Nat} {v : Int64} {a0 : Array Value} (X : Sd K T h cl sl) (cx : Cx K y bytes mx rt R) (hd : Dc bytes pc (.ldc2_w i) 3 pc') (w : (Cond.constantLong y.cls i v).before a0 K.Z = true) (k : Run K Q T (mkF K.m pc' L (.long v :: S))) : Run K Q T (mkF K.m pc L S) := by
  obtain ⟨locs, X0, -⟩ := X; obtain ⟨hx, hZ, hby, -, hown, -⟩ := cx; obtain ⟨d, rfl⟩ := hd
  exact Run.st (fun t q => Jvm.Stand.ldc2J X0 hx hown (mv hZ w) rfl (hb hby d) q) k
theorem fin {v : Option Value} (X : Sd K T h cl sl) (cx : Cx K y bytes mx rt R) (hv : rt = none → v = none) (hc : cl ≤ R.cells) (hs : sl ≤ R.slots) (hq : Q v h) {g : JFrame}
    (st : ∀ fs, (∀ (f : JFrame) (acts : List Action), f.method = K.m → f.locked = none → f.entered = [] → (doReturn K.e (T.setTop f) acts v).1 = T.setFrames fs) → Steps K.p.tables K.e K.below (T.setTop g) (T.setFrames fs)) : Run K Q T g := by
  obtain ⟨locs, X0, N, hz, eT⟩ := X
  obtain ⟨hx, hZ, hby, hml, hown, hret, hlk, hR, hnm⟩ := cx
  obtain ⟨fs, hr, hrun, hended, hW, hsame⟩ := X0.leave (v := v) (fun q => hv (hret.symm.trans q)) hlk
  refine ⟨_, v, locs, st fs hr, hrun, hended, ?_, N, ⟨_, rfl⟩, hW, hsame.mono (by rw [hR]; exact hc) (by rw [hR]; exact hs)⟩
  show Q v T.heap
  rw [eT]; exact hq
theorem r_ireturn {z : Int32} (X : Sd K T h cl sl) (cx : Cx K y bytes mx (some .int) R) (hd : Dc bytes pc .ireturn 1 pc') (hc : cl ≤ R.cells) (hs : sl ≤ R.slots) (hq : Q (some (.int z)) h) : Run K Q T (mkF K.m pc L (.int z :: S)) := by
  refine fin X cx (fun q => nomatch q) hc hs hq fun fs hr => ?_
  obtain ⟨locs, X0, -⟩ := X; obtain ⟨hx, -, hby, -, -, hret, -⟩ := cx; obtain ⟨d, rfl⟩ := hd
  exact retI X0 hx hret (hb hby d) hr
theorem r_zreturn {z : Int32} (X : Sd K T h cl sl) (cx : Cx K y bytes mx (some .boolean) R) (hd : Dc bytes pc .ireturn 1 pc') (hc : cl ≤ R.cells) (hs : sl ≤ R.slots) (hq : Q (some (.int (nar .boolean z))) h) : Run K Q T (mkF K.m pc L (.int z :: S)) := by
  refine fin X cx (fun q => nomatch q) hc hs hq fun fs hr => ?_
  obtain ⟨locs, X0, -⟩ := X; obtain ⟨hx, -, hby, -, -, hret, -⟩ := cx; obtain ⟨d, rfl⟩ := hd
  exact retN X0 hx (t := .boolean) hret (by simp) (hb hby d) hr
theorem r_lreturn {z : Int64} (X : Sd K T h cl sl) (cx : Cx K y bytes mx (some .long) R) (hd : Dc bytes pc .lreturn 1 pc') (hc : cl ≤ R.cells) (hs : sl ≤ R.slots) (hq : Q (some (.long z)) h) : Run K Q T (mkF K.m pc L [.long z]) := by
  refine fin X cx (fun q => nomatch q) hc hs hq fun fs hr => ?_
  obtain ⟨locs, X0, -⟩ := X; obtain ⟨hx, -, hby, -, -, hret, -⟩ := cx; obtain ⟨d, rfl⟩ := hd
  exact X0.lreturnOut hx hret (hb hby d) hr
theorem r_areturn {z : Addr} {ty : FieldType} (X : Sd K T h cl sl) (cx : Cx K y bytes mx (some ty) R) (hty : ty.isReference = true) (hd : Dc bytes pc .areturn 1 pc') (hc : cl ≤ R.cells) (hs : sl ≤ R.slots) (hq : Q (some (.ref z)) h) : Run K Q T (mkF K.m pc L [.ref z]) := by
  refine fin X cx (fun q => nomatch q) hc hs hq fun fs hr => ?_
  obtain ⟨locs, X0, -⟩ := X; obtain ⟨hx, -, hby, -, -, hret, -⟩ := cx; obtain ⟨d, rfl⟩ := hd
  exact X0.areturnOut hx rfl hret hty (hb hby d) hr
theorem r_return (X : Sd K T h cl sl) (cx : Cx K y bytes mx none R) (hd : Dc bytes pc .return_ 1 pc') (hc : cl ≤ R.cells) (hs : sl ≤ R.slots) (hq : Q none h) : Run K Q T (mkF K.m pc L []) := by
  refine fin X cx (fun _ => rfl) hc hs hq fun fs hr => ?_
  obtain ⟨locs, X0, -⟩ := X; obtain ⟨hx, -, hby, -, -, hret, -⟩ := cx; obtain ⟨d, rfl⟩ := hd
  exact X0.returnOut hx hret (hb hby d) hr
/-! fields -/
theorem r_getfield {O n d : String} {i : Nat} {a : Addr} {v : Value} {a0 : Array Value} (X : Sd K T h cl sl) (cx : Cx K y bytes mx rt R) (hd : Dc bytes pc (.getfield i) 3 pc') (w : (Cond.fieldLink y.cls i O n d).before a0 K.Z = true) (F : Fld K.Z h a O n d v) (k : ∀ T', Sd K T' h cl sl → Run K Q T' (mkF K.m pc' L (v :: S))) : Run K Q T (mkF K.m pc L (.ref a :: S)) := by
  obtain ⟨locs, X0, N, hz, eT⟩ := X; obtain ⟨hx, hZ, hby, -, hown, -⟩ := cx; obtain ⟨dd, rfl⟩ := hd
  obtain ⟨T1, X1, e1, st1⟩ := getF X0 hx hZ hown (host := "") (Or.inl w) Via.refl eT F (g := mkF K.m pc L (.ref a :: S)) rfl rfl (hb hby dd)
  exact Run.st st1 (k T1 ⟨locs, X1, N, hz, e1⟩)
theorem r_getfieldN {O n d host : String} {i : Nat} {a : Addr} {v : Value} {a0 : Array Value} (X : Sd K T h cl sl) (cx : Cx K y bytes mx rt R) (hd : Dc bytes pc (.getfield i) 3 pc') (w : (Cond.fieldLinkNest y.cls i O n d host).before a0 K.Z = true) (F : Fld K.Z h a O n d v) (k : ∀ T', Sd K T' h cl sl → Run K Q T' (mkF K.m pc' L (v :: S))) : Run K Q T (mkF K.m pc L (.ref a :: S)) := by
  obtain ⟨locs, X0, N, hz, eT⟩ := X; obtain ⟨hx, hZ, hby, -, hown, -⟩ := cx; obtain ⟨dd, rfl⟩ := hd
  obtain ⟨T1, X1, e1, st1⟩ := getF X0 hx hZ hown (host := host) (Or.inr w) Via.refl eT F (g := mkF K.m pc L (.ref a :: S)) rfl rfl (hb hby dd)
  exact Run.st st1 (k T1 ⟨locs, X1, N, hz, e1⟩)
theorem r_putfield {O n d C : String} {i kk : Nat} {a : Addr} {v old : Value} {ty : FieldType} {a0 : Array Value} (X : Sd K T h cl sl) (cx : Cx K y bytes mx rt R) (hd : Dc bytes pc (.putfield i) 3 pc') (w : (Cond.fieldLink y.cls i O n d).before a0 K.Z = true) (F : Fld K.Z h a O n d old) (E : Exa K.Z h a C) (hL : (Cond.lays C O n d).before a0 K.Z = true ∨ ((Cond.laysFinal C O n d).before a0 K.Z = true ∧ y.cls = O ∧ y.name = "<init>")) (wi : (Cond.instantiable C kk).before a0 K.Z = true)
    (hty : parseFieldDescriptor d = some ty) (hn : narrow ty v = v) (hf : fits ty v = true) (ge : K.n0 ≤ a) (k : ∀ T' h', Sd K T' h' cl sl → Wr h h' a (Jvm.RoadKit.slotOf K.Z O n d) v → Fld K.Z h' a O n d v → Run K Q T' (mkF K.m pc' L S)) : Run K Q T (mkF K.m pc L (v :: .ref a :: S)) := by
  obtain ⟨locs, X0, N, hz, eT⟩ := X; obtain ⟨hx, hZ, hby, -, hown, -, -, -, hnm⟩ := cx; obtain ⟨dd, rfl⟩ := hd
  obtain ⟨T1, h1, X1, e1, W1, st1⟩ := putF X0 hx hZ hown (host := "") (Or.inl w) Via.refl eT F E (hL.imp id fun q => ⟨q.1, q.2.1, hnm.trans q.2.2⟩) wi hty hn hf (g := mkF K.m pc L (v :: .ref a :: S)) rfl rfl (hb hby dd)
  exact Run.st st1 (k T1 h1 ⟨_, X1, Fr.snoc X1 N ge, by rw [W1.size]; exact hz, e1⟩ W1 (F.same W1))
theorem r_new {C : String} {i n : Nat} {a0 : Array Value} (X : Sd K T h cl sl) (cx : Cx K y bytes mx rt R) (hd : Dc bytes pc (.new i) 3 pc') (w : (Cond.classLink y.cls i C).before a0 K.Z = true) (wi : (Cond.instantiable C n).before a0 K.Z = true) (wz : (Cond.initialized C).before a0 K.Z = true) (hc : cl + 1 ≤ R.cells) (hs : sl + n ≤ R.slots)
    (k : ∀ T' h' a, a = h.size → K.n0 ≤ a → Sd K T' h' (cl + 1) (sl + n) → Ext h h' → Exa K.Z h' a C → (∀ {O nm d : String} {ty : FieldType}, Laid K.Z a0 C O nm d → parseFieldDescriptor d = some ty → Fld K.Z h' a O nm d (defaultValue ty)) → Run K Q T' (mkF K.m pc' L (.ref a :: S))) : Run K Q T (mkF K.m pc L S) := by
  obtain ⟨locs, X0, N, hz, eT⟩ := X; obtain ⟨hx, hZ, hby, -, hown, -, -, hR, -⟩ := cx; obtain ⟨dd, rfl⟩ := hd
  obtain ⟨T1, h1, X1, e1, E1, A1, D1, -, st1⟩ := newO X0 hx hZ hown w wi wz eT (g := mkF K.m pc L S) rfl (hb hby dd) (by rw [hR]; exact hc) (by rw [hR]; exact hs)
  exact Run.st st1 (k T1 h1 h.size rfl hz ⟨locs, X1, N, Nat.le_trans hz E1.1, e1⟩ E1 A1 D1)
theorem r_initO {i : Nat} {a : Addr} {a0 : Array Value} (X : Sd K T h cl sl) (cx : Cx K y bytes mx rt R) (hd : Dc bytes pc (.invokespecial i) 3 pc') (w1 : (Cond.methodLink y.cls i Lib.objectInit).before a0 K.Z = true) (w2 : (Cond.instanceMethod Lib.objectInit).before a0 K.Z = true) (w3 : (Cond.code Lib.objectInit ⟨#[0xb1]⟩ 1 none).before a0 K.Z = true) (hsz : L.size = mx) (hf : 1 ≤ R.frames) (hl : (S.map fun v => v.category).sum + 12 ≤ R.locals) (k : ∀ T', Sd K T' h cl sl → Run K Q T' (mkF K.m pc' L S)) : Run K Q T (mkF K.m pc L (.ref a :: S)) := by
  obtain ⟨locs, X0, N, hz, eT⟩ := X; obtain ⟨hx, hZ, hby, hml, hown, -, -, hR, -⟩ := cx; obtain ⟨dd, rfl⟩ := hd
  obtain ⟨T1, X1, e1, st1⟩ := initO X0 hx hZ hown w1 w2 w3 eT (g := mkF K.m pc L (.ref a :: S)) rfl (by rw [hml]; exact hsz) rfl (hb hby dd) (by rw [hR]; exact hf) (W := (S.map fun v => v.category).sum) (by show 2 * 0 + _ ≤ _; omega) (by rw [hR]; exact hl)
  exact Run.st st1 (k T1 ⟨locs, X1, N, hz, e1⟩)
end Rules
/-! arrays: their whole list of values -/
def AV (Z : State) (h : Heap) (a : Addr) (ty : FieldType) (vs : List Value) : Prop := ∃ c : Cell, Arr Z h a c ty ∧ c.slots.toList = vs ∧ vs.length < 2 ^ 31
def AI (ty : FieldType) (Z : State) (h : Heap) (a : Addr) (xs : List Int32) : Prop := AV Z h a ty (xs.map Value.int)
def AJ (Z : State) (h : Heap) (a : Addr) (xs : List Int64) : Prop := AV Z h a .long (xs.map Value.long)
theorem AV.ext {Z : State} {h h' : Heap} {a : Addr} {ty : FieldType} {vs : List Value} (A : AV Z h a ty vs) (E : Ext h h') : AV Z h' a ty vs := by obtain ⟨c, q, r⟩ := A; exact ⟨c, q.ext E, r⟩
theorem AV.other {Z : State} {h h' : Heap} {a b : Addr} {ty : FieldType} {vs : List Value} {sl : Nat} {v : Value} (A : AV Z h a ty vs) (W : Wr h h' b sl v) (q : a ≠ b) : AV Z h' a ty vs := by obtain ⟨c, u, r⟩ := A; exact ⟨c, u.other W q, r⟩
theorem AV.keep {Z : State} {h h' : Heap} {a : Addr} {ty : FieldType} {vs : List Value} {ws : List Addr} (A : AV Z h a ty vs) (k : Keep h h' ws) (q : a ∉ ws) : AV Z h' a ty vs := by obtain ⟨c, u, r⟩ := A; exact ⟨c, ⟨k.2.1 a c u.1 q, u.2⟩, r⟩
theorem AV.lt {Z : State} {h : Heap} {a : Addr} {ty : FieldType} {vs : List Value} (A : AV Z h a ty vs) : a < h.size := by obtain ⟨c, u, r⟩ := A; exact u.lt
theorem AV.len {Z : State} {h : Heap} {a : Addr} {ty : FieldType} {vs : List Value} (A : AV Z h a ty vs) : vs.length < 2 ^ 31 := by obtain ⟨c, u, r, q⟩ := A; exact q
theorem AV.set {Z : State} {h h' : Heap} {a : Addr} {ty : FieldType} {vs : List Value} {n : Nat} {v : Value} (A : AV Z h a ty vs) (W : Wr h h' a n v) : AV Z h' a ty (vs.set n v) := by
  obtain ⟨c, u, r, q⟩ := A
  refine ⟨_, u.same W, ?_, by simpa using q⟩
  subst r
  simp [Cell.setSlot]
section
variable {ty : FieldType} {Z : State} {h h' : Heap} {a b : Addr} {xs : List Int32} {zs : List Int64} {sl : Nat} {v : Value} {ws : List Addr}
theorem AI.ext (A : AI ty Z h a xs) (E : Ext h h') : AI ty Z h' a xs := AV.ext A E
theorem AI.other (A : AI ty Z h a xs) (W : Wr h h' b sl v) (q : a ≠ b) : AI ty Z h' a xs := AV.other A W q
theorem AI.keep (A : AI ty Z h a xs) (k : Keep h h' ws) (q : a ∉ ws) : AI ty Z h' a xs := AV.keep A k q
theorem AI.lt (A : AI ty Z h a xs) : a < h.size := AV.lt A
theorem AI.len (A : AI ty Z h a xs) : xs.length < 2 ^ 31 := by simpa using AV.len A
theorem AI.set {n : Nat} {x : Int32} (A : AI ty Z h a xs) (W : Wr h h' a n (.int x)) : AI ty Z h' a (xs.set n x) := by
  have q := AV.set A W
  show AV Z h' a ty ((xs.set n x).map Value.int)
  rw [List.map_set]; exact q
theorem AJ.ext (A : AJ Z h a zs) (E : Ext h h') : AJ Z h' a zs := AV.ext A E
theorem AJ.other (A : AJ Z h a zs) (W : Wr h h' b sl v) (q : a ≠ b) : AJ Z h' a zs := AV.other A W q
theorem AJ.keep (A : AJ Z h a zs) (k : Keep h h' ws) (q : a ∉ ws) : AJ Z h' a zs := AV.keep A k q
theorem AJ.lt (A : AJ Z h a zs) : a < h.size := AV.lt A
theorem AJ.len (A : AJ Z h a zs) : zs.length < 2 ^ 31 := by simpa using AV.len A
theorem AJ.set {n : Nat} {x : Int64} (A : AJ Z h a zs) (W : Wr h h' a n (.long x)) : AJ Z h' a (zs.set n x) := by
  have q := AV.set A W
  show AV Z h' a .long ((zs.set n x).map Value.long)
  rw [List.map_set]; exact q
end
theorem ofNat_neg {n : Nat} (hn : n < 2 ^ 31) : ¬ Int32.ofNat n < 0 := by
  rw [Int32.lt_iff_toInt_lt, Int32.toInt_ofNat_of_lt hn]
  show ¬ (n : Int) < 0
  omega
theorem ofNat_clamp {n : Nat} (hn : n < 2 ^ 31) : (Int32.ofNat n).toNatClampNeg = n := by
  show (Int32.ofNat n).toInt.toNat = n
  rw [Int32.toInt_ofNat_of_lt hn]; rfl
section Rules
variable {K : KT} {Q : Option Value → Heap → Prop} {T : State} {h : Heap} {cl sl : Nat} {y : MethodName} {bytes : ByteArray} {mx : Nat} {rt : Option FieldType} {R : Room} {pc pc' pt : Nat} {L : Array Slot} {S : List Value}
theorem r_arraylength {ty : FieldType} {vs : List Value} {a : Addr} (X : Sd K T h cl sl) (cx : Cx K y bytes mx rt R) (hd : Dc bytes pc .arraylength 1 pc') (A : AV K.Z h a ty vs) (k : Run K Q T (mkF K.m pc' L (.int (Int32.ofNat vs.length) :: S))) : Run K Q T (mkF K.m pc L (.ref a :: S)) := by
  obtain ⟨locs, X0, N, hz, eT⟩ := X; obtain ⟨hx, hZ, hby, -, hown, -⟩ := cx; obtain ⟨dd, rfl⟩ := hd
  obtain ⟨c, Ar, hc, hlen⟩ := A
  have hs : c.slots.size = vs.length := by rw [← hc]; simp
  refine Run.st (X0.arraylength hx (cell := c) (by rw [eT]; exact Ar.1) (State.isArrayOf_alike hZ.alike Ar.2.1) (g := mkF K.m pc L (.ref a :: S)) rfl (rest := S) rfl (hb hby dd)) ?_
  rw [hs]; exact k
theorem r_alen {ty : FieldType} {xs : List Int32} {a : Addr} (X : Sd K T h cl sl) (cx : Cx K y bytes mx rt R) (hd : Dc bytes pc .arraylength 1 pc') (A : AI ty K.Z h a xs) (n : Nat) (hn : xs.length = n) (k : Run K Q T (mkF K.m pc' L (.int (Int32.ofNat n) :: S))) : Run K Q T (mkF K.m pc L (.ref a :: S)) :=
  r_arraylength X cx hd A (by rw [List.length_map, hn]; exact k)
theorem r_alenJ {xs : List Int64} {a : Addr} (X : Sd K T h cl sl) (cx : Cx K y bytes mx rt R) (hd : Dc bytes pc .arraylength 1 pc') (A : AJ K.Z h a xs) (n : Nat) (hn : xs.length = n) (k : Run K Q T (mkF K.m pc' L (.int (Int32.ofNat n) :: S))) : Run K Q T (mkF K.m pc L (.ref a :: S)) :=
  r_arraylength X cx hd A (by rw [List.length_map, hn]; exact k)
theorem r_iaload {xs : List Int32} {a : Addr} {j : Int32} {v : Int32} (X : Sd K T h cl sl) (cx : Cx K y bytes mx rt R) (hd : Dc bytes pc .iaload 1 pc') (A : AI .int K.Z h a xs) (n : Nat) (hj : j = Int32.ofNat n) (hv : xs[n]? = some v) (k : Run K Q T (mkF K.m pc' L (.int v :: S))) : Run K Q T (mkF K.m pc L (.int j :: .ref a :: S)) := by
  obtain ⟨locs, X0, N, hz, eT⟩ := X; obtain ⟨hx, hZ, hby, -, hown, -⟩ := cx; obtain ⟨dd, rfl⟩ := hd
  obtain ⟨c, Ar, hc, hlen⟩ := A
  have hs : c.slots.size = xs.length := by have := congrArg List.length hc; simpa using this
  have hl : n < xs.length := (List.getElem?_eq_some_iff.mp hv).1
  have hn : n < 2 ^ 31 := by simp at hlen; omega
  subst hj
  have e1 := ofNat_clamp hn
  have hat : c.slots[(Int32.ofNat n).toNatClampNeg]? = some (.int v) := by
    rw [e1, ← Array.getElem?_toList, hc, List.getElem?_map, hv]; rfl
  exact Run.st (X0.iaload hx (cell := c) (by rw [eT]; exact Ar.1) (State.isArrayOf_alike hZ.alike Ar.2.1) Ar.2.2 (by rw [e1, hs]; intro q; rcases q with q | q; exact ofNat_neg hn q; omega) hat (g := mkF K.m pc L (.int (Int32.ofNat n) :: .ref a :: S)) rfl rfl (hb hby dd)) k
theorem r_saload {xs : List Int32} {a : Addr} {j : Int32} {v : Int32} (X : Sd K T h cl sl) (cx : Cx K y bytes mx rt R) (hd : Dc bytes pc .saload 1 pc') (A : AI .short K.Z h a xs) (n : Nat) (hj : j = Int32.ofNat n) (hv : xs[n]? = some v) (k : Run K Q T (mkF K.m pc' L (.int v :: S))) : Run K Q T (mkF K.m pc L (.int j :: .ref a :: S)) := by
  obtain ⟨locs, X0, N, hz, eT⟩ := X; obtain ⟨hx, hZ, hby, -, hown, -⟩ := cx; obtain ⟨dd, rfl⟩ := hd
  obtain ⟨c, Ar, hc, hlen⟩ := A
  have hs : c.slots.size = xs.length := by have := congrArg List.length hc; simpa using this
  have hl : n < xs.length := (List.getElem?_eq_some_iff.mp hv).1
  have hn : n < 2 ^ 31 := by simp at hlen; omega
  subst hj
  have e1 := ofNat_clamp hn
  have hat : c.slots[(Int32.ofNat n).toNatClampNeg]? = some (.int v) := by
    rw [e1, ← Array.getElem?_toList, hc, List.getElem?_map, hv]; rfl
  exact Run.st (X0.saload hx (cell := c) (by rw [eT]; exact Ar.1) (State.isArrayOf_alike hZ.alike Ar.2.1) Ar.2.2 (by rw [e1, hs]; intro q; rcases q with q | q; exact ofNat_neg hn q; omega) hat (g := mkF K.m pc L (.int (Int32.ofNat n) :: .ref a :: S)) rfl rfl (hb hby dd)) k
theorem r_baload {xs : List Int32} {a : Addr} {j : Int32} {v : Int32} (X : Sd K T h cl sl) (cx : Cx K y bytes mx rt R) (hd : Dc bytes pc .baload 1 pc') (A : AI .byte K.Z h a xs) (n : Nat) (hj : j = Int32.ofNat n) (hv : xs[n]? = some v) (k : Run K Q T (mkF K.m pc' L (.int v :: S))) : Run K Q T (mkF K.m pc L (.int j :: .ref a :: S)) := by
  obtain ⟨locs, X0, N, hz, eT⟩ := X; obtain ⟨hx, hZ, hby, -, hown, -⟩ := cx; obtain ⟨dd, rfl⟩ := hd
  obtain ⟨c, Ar, hc, hlen⟩ := A
  have hs : c.slots.size = xs.length := by have := congrArg List.length hc; simpa using this
  have hl : n < xs.length := (List.getElem?_eq_some_iff.mp hv).1
  have hn : n < 2 ^ 31 := by simp at hlen; omega
  subst hj
  have e1 := ofNat_clamp hn
  have hat : c.slots[(Int32.ofNat n).toNatClampNeg]? = some (.int v) := by
    rw [e1, ← Array.getElem?_toList, hc, List.getElem?_map, hv]; rfl
  exact Run.st (X0.baloadBytes hx (cell := c) (by rw [eT]; exact Ar.1) (State.isArrayOf_alike hZ.alike Ar.2.1) Ar.2.2 (by rw [e1, hs]; intro q; rcases q with q | q; exact ofNat_neg hn q; omega) hat (g := mkF K.m pc L (.int (Int32.ofNat n) :: .ref a :: S)) rfl rfl (hb hby dd)) k
theorem r_laload {xs : List Int64} {a : Addr} {j : Int32} {v : Int64} (X : Sd K T h cl sl) (cx : Cx K y bytes mx rt R) (hd : Dc bytes pc .laload 1 pc') (A : AJ K.Z h a xs) (n : Nat) (hj : j = Int32.ofNat n) (hv : xs[n]? = some v) (k : Run K Q T (mkF K.m pc' L (.long v :: S))) : Run K Q T (mkF K.m pc L (.int j :: .ref a :: S)) := by
  obtain ⟨locs, X0, N, hz, eT⟩ := X; obtain ⟨hx, hZ, hby, -, hown, -⟩ := cx; obtain ⟨dd, rfl⟩ := hd
  obtain ⟨c, Ar, hc, hlen⟩ := A
  have hs : c.slots.size = xs.length := by have := congrArg List.length hc; simpa using this
  have hl : n < xs.length := (List.getElem?_eq_some_iff.mp hv).1
  have hn : n < 2 ^ 31 := by simp at hlen; omega
  subst hj
  have e1 := ofNat_clamp hn
  have hat : c.slots[(Int32.ofNat n).toNatClampNeg]? = some (.long v) := by
    rw [e1, ← Array.getElem?_toList, hc, List.getElem?_map, hv]; rfl
  exact Run.st (X0.laload hx (cell := c) (by rw [eT]; exact Ar.1) (State.isArrayOf_alike hZ.alike Ar.2.1) Ar.2.2 (by rw [e1, hs]; intro q; rcases q with q | q; exact ofNat_neg hn q; omega) hat (g := mkF K.m pc L (.int (Int32.ofNat n) :: .ref a :: S)) rfl rfl (hb hby dd)) k
theorem r_iastore {xs : List Int32} {a : Addr} {j : Int32} {x : Int32} (X : Sd K T h cl sl) (cx : Cx K y bytes mx rt R) (hd : Dc bytes pc .iastore 1 pc') (A : AI .int K.Z h a xs) (n : Nat) (hj : j = Int32.ofNat n) (hl : n < xs.length) (ge : K.n0 ≤ a) (k : ∀ T' h', Sd K T' h' cl sl → Wr h h' a n (.int x) → AI .int K.Z h' a (xs.set n x) → Run K Q T' (mkF K.m pc' L S)) : Run K Q T (mkF K.m pc L (.int x :: .int j :: .ref a :: S)) := by
  obtain ⟨locs, X0, N, hz, eT⟩ := X; obtain ⟨hx, hZ, hby, -, hown, -⟩ := cx; obtain ⟨dd, rfl⟩ := hd
  have A0 := A
  obtain ⟨c, Ar, hc, hlen⟩ := A
  have hs : c.slots.size = xs.length := by have := congrArg List.length hc; simpa using this
  have hn : n < 2 ^ 31 := by simp at hlen; omega
  subst hj
  have e1 := ofNat_clamp hn
  obtain ⟨T1, h1, X1, eh1, W1, st1⟩ := stI X0 hx hZ eT Ar (j := Int32.ofNat n) (x := x) (by rw [e1, hs]; intro q; rcases q with q | q; exact ofNat_neg hn q; omega) (g := mkF K.m pc L (.int x :: .int (Int32.ofNat n) :: .ref a :: S)) rfl rfl (hb hby dd)
  have hz1 : K.n0 ≤ h1.size := by rw [W1.size]; exact hz
  have N1 := Fr.snoc X1 N ge
  rw [e1] at W1
  exact Run.st st1 (k T1 h1 ⟨_, X1, N1, hz1, eh1⟩ W1 (AI.set A0 W1))
theorem r_sastore {xs : List Int32} {a : Addr} {j : Int32} {x : Int32} (X : Sd K T h cl sl) (cx : Cx K y bytes mx rt R) (hd : Dc bytes pc .sastore 1 pc') (A : AI .short K.Z h a xs) (n : Nat) (hj : j = Int32.ofNat n) (hl : n < xs.length) (ge : K.n0 ≤ a) (k : ∀ T' h', Sd K T' h' cl sl → Wr h h' a n (.int (nar .short x)) → AI .short K.Z h' a (xs.set n (nar .short x)) → Run K Q T' (mkF K.m pc' L S)) : Run K Q T (mkF K.m pc L (.int x :: .int j :: .ref a :: S)) := by
  obtain ⟨locs, X0, N, hz, eT⟩ := X; obtain ⟨hx, hZ, hby, -, hown, -⟩ := cx; obtain ⟨dd, rfl⟩ := hd
  have A0 := A
  obtain ⟨c, Ar, hc, hlen⟩ := A
  have hs : c.slots.size = xs.length := by have := congrArg List.length hc; simpa using this
  have hn : n < 2 ^ 31 := by simp at hlen; omega
  subst hj
  have e1 := ofNat_clamp hn
  obtain ⟨T1, h1, X1, eh1, W1, st1⟩ := stS X0 hx hZ eT Ar (j := Int32.ofNat n) (x := x) (by rw [e1, hs]; intro q; rcases q with q | q; exact ofNat_neg hn q; omega) (g := mkF K.m pc L (.int x :: .int (Int32.ofNat n) :: .ref a :: S)) rfl rfl (hb hby dd)
  have hz1 : K.n0 ≤ h1.size := by rw [W1.size]; exact hz
  have N1 := Fr.snoc X1 N ge
  rw [e1] at W1
  exact Run.st st1 (k T1 h1 ⟨_, X1, N1, hz1, eh1⟩ W1 (AI.set A0 W1))
theorem r_bastore {xs : List Int32} {a : Addr} {j : Int32} {x : Int32} (X : Sd K T h cl sl) (cx : Cx K y bytes mx rt R) (hd : Dc bytes pc .bastore 1 pc') (A : AI .byte K.Z h a xs) (n : Nat) (hj : j = Int32.ofNat n) (hl : n < xs.length) (ge : K.n0 ≤ a) (k : ∀ T' h', Sd K T' h' cl sl → Wr h h' a n (.int (nar .byte x)) → AI .byte K.Z h' a (xs.set n (nar .byte x)) → Run K Q T' (mkF K.m pc' L S)) : Run K Q T (mkF K.m pc L (.int x :: .int j :: .ref a :: S)) := by
  obtain ⟨locs, X0, N, hz, eT⟩ := X; obtain ⟨hx, hZ, hby, -, hown, -⟩ := cx; obtain ⟨dd, rfl⟩ := hd
  have A0 := A
  obtain ⟨c, Ar, hc, hlen⟩ := A
  have hs : c.slots.size = xs.length := by have := congrArg List.length hc; simpa using this
  have hn : n < 2 ^ 31 := by simp at hlen; omega
  subst hj
  have e1 := ofNat_clamp hn
  obtain ⟨T1, h1, X1, eh1, W1, st1⟩ := stB X0 hx hZ eT Ar (j := Int32.ofNat n) (x := x) (by rw [e1, hs]; intro q; rcases q with q | q; exact ofNat_neg hn q; omega) (g := mkF K.m pc L (.int x :: .int (Int32.ofNat n) :: .ref a :: S)) rfl rfl (hb hby dd)
  have hz1 : K.n0 ≤ h1.size := by rw [W1.size]; exact hz
  have N1 := Fr.snoc X1 N ge
  rw [e1] at W1
  exact Run.st st1 (k T1 h1 ⟨_, X1, N1, hz1, eh1⟩ W1 (AI.set A0 W1))
theorem r_lastore {xs : List Int64} {a : Addr} {j : Int32} {x : Int64} (X : Sd K T h cl sl) (cx : Cx K y bytes mx rt R) (hd : Dc bytes pc .lastore 1 pc') (A : AJ K.Z h a xs) (n : Nat) (hj : j = Int32.ofNat n) (hl : n < xs.length) (ge : K.n0 ≤ a) (k : ∀ T' h', Sd K T' h' cl sl → Wr h h' a n (.long x) → AJ K.Z h' a (xs.set n x) → Run K Q T' (mkF K.m pc' L S)) : Run K Q T (mkF K.m pc L (.long x :: .int j :: .ref a :: S)) := by
  obtain ⟨locs, X0, N, hz, eT⟩ := X; obtain ⟨hx, hZ, hby, -, hown, -⟩ := cx; obtain ⟨dd, rfl⟩ := hd
  have A0 := A
  obtain ⟨c, Ar, hc, hlen⟩ := A
  have hs : c.slots.size = xs.length := by have := congrArg List.length hc; simpa using this
  have hn : n < 2 ^ 31 := by simp at hlen; omega
  subst hj
  have e1 := ofNat_clamp hn
  obtain ⟨T1, h1, X1, eh1, W1, st1⟩ := stJ X0 hx hZ eT Ar (j := Int32.ofNat n) (x := x) (by rw [e1, hs]; intro q; rcases q with q | q; exact ofNat_neg hn q; omega) (g := mkF K.m pc L (.long x :: .int (Int32.ofNat n) :: .ref a :: S)) rfl rfl (hb hby dd)
  have hz1 : K.n0 ≤ h1.size := by rw [W1.size]; exact hz
  have N1 := Fr.snoc X1 N ge
  rw [e1] at W1
  exact Run.st st1 (k T1 h1 ⟨_, X1, N1, hz1, eh1⟩ W1 (AJ.set A0 W1))
theorem r_newarray {aty : ArrayType} {a0 : Array Value} {z : Int32} (X : Sd K T h cl sl) (cx : Cx K y bytes mx rt R) (hd : Dc bytes pc (.newarray aty) 2 pc') (w : (Cond.arrayClass (newarray.typeOf aty)).before a0 K.Z = true) (n cap : Nat) (hj : z = Int32.ofNat n) (hcap : n ≤ cap) (hb8 : cap * 8 ≤ 536870912) (hc : cl + 1 ≤ R.cells) (hs : sl + cap ≤ R.slots)
    (k : ∀ T' h' a, a = h.size → K.n0 ≤ a → Sd K T' h' (cl + 1) (sl + cap) → Ext h h' → AV K.Z h' a (newarray.typeOf aty) (List.replicate n (defaultValue (newarray.typeOf aty))) → Run K Q T' (mkF K.m pc' L (.ref a :: S))) : Run K Q T (mkF K.m pc L (.int z :: S)) := by
  obtain ⟨locs, X0, N, hz, eT⟩ := X; obtain ⟨hx, hZ, hby, -, hown, -, -, hR, -⟩ := cx; obtain ⟨dd, rfl⟩ := hd
  have hn : n < 2 ^ 31 := by omega
  subst hj
  have e1 := ofNat_clamp hn
  obtain ⟨T1, h1, cA, X1, eh1, E1, A1, st1⟩ := newP X0 hx hZ w eT (g := mkF K.m pc L (.int (Int32.ofNat n) :: S)) rfl (hb hby dd) (n := Int32.ofNat n) rfl (ofNat_neg hn) (cap := cap) (by rw [e1]; exact hcap) hb8 (by rw [hR]; exact hc) (by rw [hR]; exact hs)
  refine Run.st st1 (k T1 h1 h.size rfl hz ⟨locs, X1, N, Nat.le_trans hz E1.1, eh1⟩ E1 ⟨_, A1, ?_, by simpa using hn⟩)
  simp [newA, e1]
theorem AI.new {ty : FieldType} {Z : State} {h : Heap} {a : Addr} {n : Nat} (A : AV Z h a ty (List.replicate n (.int 0))) : AI ty Z h a (List.replicate n 0) := by
  show AV Z h a ty _
  rw [List.map_replicate]; exact A
theorem AJ.new {Z : State} {h : Heap} {a : Addr} {n : Nat} (A : AV Z h a .long (List.replicate n (.long 0))) : AJ Z h a (List.replicate n 0) := by
  show AV Z h a .long _
  rw [List.map_replicate]; exact A
end Rules
/-! contracts and calls -/
def Con (l : Launch) (Z : State) (y : MethodName) (bytes : ByteArray) (mx : Nat) (rt : Option FieldType) (rm : Room) (as : Array Value) (h0 : Heap) (n0 : Nat) (Q : Option Value → Heap → Prop) : Prop :=
  ∀ ws, MetFree l y (head1 (Jvm.Cond.code y bytes mx rt :: ws) rm) (fun a U => a = as ∧ Z.Warmed39 U.vm ∧ U.heap = h0) (fun _ _ _ _ _ => True) (fun _ U o U' => ∃ v L, o = .returned v ∧ (Q v U'.heap ∧ Fr n0 L) ∧ FrameEnd U o U' L rm.cells rm.slots)
theorem Con.of {l : Launch} {Z : State} {y : MethodName} {bytes : ByteArray} {mx : Nat} {rt : Option FieldType} {rm : Room} {as : Array Value} {h0 : Heap} {n0 : Nat} {Q : Option Value → Heap → Prop} (hy : plainFor y = true) (Z0 : n0 ≤ h0.size)
    (body : ∀ K : KT, K.l = l → K.Z = Z → K.n0 = n0 → Cx K y bytes mx rt rm → ∀ T, Sd K T h0 0 0 → Run K Q T (entryFrame K.m as mx)) : Con l Z y bytes mx rt rm as h0 n0 Q := by
  intro ws
  refine MetFree.of_bodySF hy hisR ?_
  intro p e s m args below meth c s₁ Bd hml0 hP hK
  obtain ⟨rfl, hZ, hh⟩ := hP
  have hown : s.vm.findClass y.cls = some m.cls := findClass_of_methodNamed Bd.named
  have hnm := (name_of_methodNamed Bd.named Bd.method).1
  have X0 : Stand p l e rm s m args below meth c s₁ [] 0 0 := Stand.of_body Bd
  have e0 : s₁.heap = h0 := by rw [← hh, Bd.state]; rfl
  obtain ⟨s₂, v, L, h1, h2, h3, h4, h5, h6⟩ := body (p, l, e, rm, s, m, args, below, meth, c, Z, n0) rfl rfl rfl ⟨Bd.exec, hZ, Bd.bytes, hml0, hown, Bd.returns, Bd.notSynchronized, rfl, hnm⟩ s₁ ⟨[], X0, Fr.nil n0, Z0, e0⟩
  exact ⟨s₂, _, h1, h2, h3, v, L, rfl, ⟨h4, h5⟩, h6⟩
section Calls
variable {K : KT} {Q : Option Value → Heap → Prop} {T : State} {h : Heap} {cl sl : Nat} {y : MethodName} {bytes : ByteArray} {mx : Nat} {rt : Option FieldType} {R : Room} {pc pc' pt : Nat} {L : Array Slot}
theorem r_static {z : MethodName} {zb : ByteArray} {zm : Nat} {zr : Option FieldType} {rm : Room} {i : Nat} {a0 : Array Value} {Qz : Option Value → Heap → Prop} {St : List Value} (argsL rest : List Value) (X : Sd K T h cl sl) (cx : Cx K y bytes mx rt R) (hd : Dc bytes pc (.invokestatic i) 3 pc')
    (w1 : (Cond.methodLink y.cls i z).before a0 K.Z = true) (w2 : (Cond.static z).before a0 K.Z = true) (w3 : (Cond.initialized z.cls).before a0 K.Z = true) (w4 : (Cond.code z zb zm zr).before a0 K.Z = true) (hm : z.cls ≠ "java/lang/invoke/MethodHandle" ∧ z.cls ≠ "java/lang/invoke/VarHandle")
    (con : Con K.l K.Z z zb zm zr rm argsL.toArray h K.n0 Qz) (hpd : ∀ sig, parseMethodDescriptor z.desc = some sig → argsL.length = sig.parameters.length) (hSt : St = argsL.reverse ++ rest) (hsz : L.size = mx) (hf : rm.frames + 1 ≤ R.frames) (hl : (rest.map fun v => v.category).sum + (zm + 11) + rm.locals ≤ R.locals) (hc : cl + rm.cells ≤ R.cells) (hs : sl + rm.slots ≤ R.slots)
    (k : ∀ T' h' v, Sd K T' h' (cl + rm.cells) (sl + rm.slots) → Qz v h' → Run K Q T' (mkF K.m pc' L (v.toList ++ rest))) (hmono : ∀ v h', Qz v h' → h.size ≤ h'.size) : Run K Q T (mkF K.m pc L St) := by
  obtain ⟨locs, X0, N, hz, eT⟩ := X; obtain ⟨hx, hZ, hby, hml, hown, -, -, hR, -⟩ := cx; obtain ⟨dd, rfl⟩ := hd
  obtain ⟨v, _, ⟨T1, L1, k1, n1⟩, -, X1, ⟨Lc, ⟨hQ, hF⟩, l1, y1, z1⟩, st1⟩ := Jvm.LawKit.callS X0 hx (y := z) hown (mvT hZ w1) (mvT hZ w2) (mvT hZ w3) (mvT hZ w4) hm (backOf (W := (rest.map fun v => v.category).sum) (Q := fun v h L => Qz v h ∧ Fr K.n0 L) (con []) hZ w4 w3 (by rw [hR]; exact hf) (by rw [hR]; exact hl)) (g := mkF K.m pc L St) rfl (by rw [hml]; exact hsz) (argsL := argsL) (rest := rest) hpd hSt (by show 2 * 0 + _ ≤ _; omega) (hb hby dd) (fun _ _ => ⟨rfl, eT, by rw [hR]; exact hc, by rw [hR]; exact hs⟩)
  dsimp only [Pt.U, Pt.locs, Pt.cells, Pt.slots] at X1 l1 y1 z1 st1 hQ
  subst l1 y1 z1
  exact Run.st st1 (k T1 _ v ⟨_, X1, Fr.app N hF, Nat.le_trans hz (hmono _ _ hQ), rfl⟩ hQ)
theorem r_virtual {z : MethodName} {C : String} {zb : ByteArray} {zm : Nat} {zr : Option FieldType} {rm : Room} {i : Nat} {a : Addr} {a0 : Array Value} {Qz : Option Value → Heap → Prop} {St : List Value} (argsL rest : List Value) (X : Sd K T h cl sl) (cx : Cx K y bytes mx rt R) (hd : Dc bytes pc (.invokevirtual i) 3 pc') (E : Exa K.Z h a C)
    (w1 : (Cond.methodLink y.cls i z).before a0 K.Z = true) (w2 : (Cond.declares z).before a0 K.Z = true) (w3 : (Cond.selects C z z).before a0 K.Z = true) (w4 : (Cond.instanceMethod z).before a0 K.Z = true) (w5 : (Cond.initialized z.cls).before a0 K.Z = true) (w6 : (Cond.code z zb zm zr).before a0 K.Z = true) (hm : z.cls ≠ "java/lang/invoke/MethodHandle" ∧ z.cls ≠ "java/lang/invoke/VarHandle")
    (con : Con K.l K.Z z zb zm zr rm (.ref a :: argsL).toArray h K.n0 Qz) (hpd : ∀ sig, parseMethodDescriptor z.desc = some sig → argsL.length = sig.parameters.length) (hSt : St = argsL.reverse ++ .ref a :: rest) (hsz : L.size = mx) (hf : rm.frames + 1 ≤ R.frames) (hl : (rest.map fun v => v.category).sum + (zm + 11) + rm.locals ≤ R.locals) (hc : cl + rm.cells ≤ R.cells) (hs : sl + rm.slots ≤ R.slots)
    (k : ∀ T' h' v, Sd K T' h' (cl + rm.cells) (sl + rm.slots) → Qz v h' → Run K Q T' (mkF K.m pc' L (v.toList ++ rest))) (hmono : ∀ v h', Qz v h' → h.size ≤ h'.size) : Run K Q T (mkF K.m pc L St) := by
  obtain ⟨locs, X0, N, hz, eT⟩ := X; obtain ⟨hx, hZ, hby, hml, hown, -, -, hR, -⟩ := cx; obtain ⟨dd, rfl⟩ := hd
  obtain ⟨cq, kq, qa, qb, qc⟩ := isOf hZ eT E
  obtain ⟨v, _, ⟨T1, L1, k1, n1⟩, -, X1, ⟨Lc, ⟨hQ, hF⟩, l1, y1, z1⟩, st1⟩ := X0.virtualBack hx (y := z) (z := z) hown (mvT hZ w1) (mvT hZ w2) (notFace_of_selects (args := #[]) (mvT hZ w3)) (mvT hZ w3) (mvT hZ w4) hm (backOf (W := (rest.map fun v => v.category).sum) (Q := fun v h L => Qz v h ∧ Fr K.n0 L) (con []) hZ w6 w5 (by rw [hR]; exact hf) (by rw [hR]; exact hl)) qa qc (g := mkF K.m pc L St) rfl (by rw [hml]; exact hsz) (Steps.refl _) (argsL := argsL) (rest := rest) hpd hSt (by show 2 * 0 + _ ≤ _; omega) (hb hby dd) (fun _ _ => ⟨rfl, eT, by rw [hR]; exact hc, by rw [hR]; exact hs⟩)
  dsimp only [Pt.U, Pt.locs, Pt.cells, Pt.slots] at X1 l1 y1 z1 st1 hQ
  subst l1 y1 z1
  exact Run.st (fun t q => st1.trans q) (k T1 _ v ⟨_, X1, Fr.app N hF, Nat.le_trans hz (hmono _ _ hQ), rfl⟩ hQ)
theorem r_private {z z' : MethodName} {C C' : String} {zb : ByteArray} {zm : Nat} {zr : Option FieldType} {rm : Room} {i : Nat} {a : Addr} {a0 : Array Value} {Qz : Option Value → Heap → Prop} {St : List Value} (argsL rest : List Value) (X : Sd K T h cl sl) (cx : Cx K y bytes mx rt R) (hd : Dc bytes pc (.invokevirtual i) 3 pc') (E : Exa K.Z h a C)
    (w1 : (Cond.methodLink y.cls i z).before a0 K.Z = true) (w2 : (Cond.selects C' z' z').before a0 K.Z = true) (w3 : (Cond.instanceMethod z).before a0 K.Z = true) (w4 : (Cond.privateMethod z).before a0 K.Z = true) (w5 : (Cond.initialized z.cls).before a0 K.Z = true) (w6 : (Cond.code z zb zm zr).before a0 K.Z = true) (hzz : z'.cls = z.cls) (hm : z.cls ≠ "java/lang/invoke/MethodHandle" ∧ z.cls ≠ "java/lang/invoke/VarHandle")
    (con : Con K.l K.Z z zb zm zr rm (.ref a :: argsL).toArray h K.n0 Qz) (hpd : ∀ sig, parseMethodDescriptor z.desc = some sig → argsL.length = sig.parameters.length) (hSt : St = argsL.reverse ++ .ref a :: rest) (hsz : L.size = mx) (hf : rm.frames + 1 ≤ R.frames) (hl : (rest.map fun v => v.category).sum + (zm + 11) + rm.locals ≤ R.locals) (hc : cl + rm.cells ≤ R.cells) (hs : sl + rm.slots ≤ R.slots)
    (k : ∀ T' h' v, Sd K T' h' (cl + rm.cells) (sl + rm.slots) → Qz v h' → Run K Q T' (mkF K.m pc' L (v.toList ++ rest))) (hmono : ∀ v h', Qz v h' → h.size ≤ h'.size) : Run K Q T (mkF K.m pc L St) := by
  obtain ⟨locs, X0, N, hz, eT⟩ := X; obtain ⟨hx, hZ, hby, hml, hown, -, -, hR, -⟩ := cx; obtain ⟨dd, rfl⟩ := hd
  obtain ⟨cq, qa, qb⟩ := E.cell
  have u2 : (Cond.selects C' z' z').before K.args K.s = true := mvT hZ w2
  have u3 : (Cond.instanceMethod z).before K.args K.s = true := mvT hZ w3
  obtain ⟨c2, r2, m2, q1, q2, q3, q4, kP, hkP, hkPi⟩ := Cond.selects_spec u2
  have hc2 := findClass_of_methodNamed q3
  rw [hzz] at hc2
  have hpriv := Cond.privateMethod_at (mvP hZ w4 (args := K.args))
  have hsel := selects_self_of_private hc2 hkP hkPi hpriv u3 hm
  obtain ⟨v, _, ⟨T1, L1, k1, n1⟩, -, X1, ⟨Lc, ⟨hQ, hF⟩, l1, y1, z1⟩, st1⟩ := X0.privateBack hx (y := z) hown (mvT hZ w1) u3 hsel hpriv (mvT hZ w6) hm (backOf (W := (rest.map fun v => v.category).sum) (Q := fun v h L => Qz v h ∧ Fr K.n0 L) (con []) hZ w6 w5 (by rw [hR]; exact hf) (by rw [hR]; exact hl)) (g := mkF K.m pc L St) rfl (by rw [hml]; exact hsz) (Steps.refl _) (a := a) (by rw [eT]; exact qa) qb (argsL := argsL) (rest := rest) hpd hSt (by show 2 * 0 + _ ≤ _; omega) (hb hby dd) (fun _ _ => ⟨rfl, eT, by rw [hR]; exact hc, by rw [hR]; exact hs⟩)
  dsimp only [Pt.U, Pt.locs, Pt.cells, Pt.slots] at X1 l1 y1 z1 st1 hQ
  subst l1 y1 z1
  exact Run.st (fun t q => st1.trans q) (k T1 _ v ⟨_, X1, Fr.app N hF, Nat.le_trans hz (hmono _ _ hQ), rfl⟩ hQ)
theorem r_special {z : MethodName} {zb : ByteArray} {zm : Nat} {rm : Room} {i : Nat} {a : Addr} {a0 : Array Value} {Qz : Option Value → Heap → Prop} {St : List Value} (argsL rest : List Value) (X : Sd K T h cl sl) (cx : Cx K y bytes mx rt R) (hd : Dc bytes pc (.invokespecial i) 3 pc') (hzn : z.name = "<init>")
    (w1 : (Cond.methodLink y.cls i z).before a0 K.Z = true) (w2 : (Cond.instanceMethod z).before a0 K.Z = true) (w3 : (Cond.initialized z.cls).before a0 K.Z = true) (w4 : (Cond.code z zb zm none).before a0 K.Z = true) (hm : z.cls ≠ "java/lang/invoke/MethodHandle" ∧ z.cls ≠ "java/lang/invoke/VarHandle")
    (con : Con K.l K.Z z zb zm none rm (.ref a :: argsL).toArray h K.n0 Qz) (hpd : ∀ sig, parseMethodDescriptor z.desc = some sig → argsL.length = sig.parameters.length) (hSt : St = argsL.reverse ++ .ref a :: rest) (hsz : L.size = mx) (hf : rm.frames + 1 ≤ R.frames) (hl : (rest.map fun v => v.category).sum + (zm + 11) + rm.locals ≤ R.locals) (hc : cl + rm.cells ≤ R.cells) (hs : sl + rm.slots ≤ R.slots)
    (k : ∀ T' h' v, Sd K T' h' (cl + rm.cells) (sl + rm.slots) → Qz v h' → Run K Q T' (mkF K.m pc' L (v.toList ++ rest))) (hmono : ∀ v h', Qz v h' → h.size ≤ h'.size) : Run K Q T (mkF K.m pc L St) := by
  obtain ⟨locs, X0, N, hz, eT⟩ := X; obtain ⟨hx, hZ, hby, hml, hown, -, -, hR, -⟩ := cx; obtain ⟨dd, rfl⟩ := hd
  obtain ⟨v, _, ⟨T1, L1, k1, n1⟩, -, X1, ⟨Lc, ⟨hQ, hF⟩, l1, y1, z1⟩, st1⟩ := X0.specialBack hx (y := z) hzn hown (mvT hZ w1) (mvT hZ w2) (mvT hZ w4) hm (backOf (W := (rest.map fun v => v.category).sum) (Q := fun v h L => Qz v h ∧ Fr K.n0 L) (con []) hZ w4 w3 (by rw [hR]; exact hf) (by rw [hR]; exact hl)) (g := mkF K.m pc L St) rfl (by rw [hml]; exact hsz) (Steps.refl _) (a := a) (argsL := argsL) (rest := rest) hpd hSt (by show 2 * 0 + _ ≤ _; omega) (hb hby dd) (fun _ _ => ⟨rfl, eT, by rw [hR]; exact hc, by rw [hR]; exact hs⟩)
  dsimp only [Pt.U, Pt.locs, Pt.cells, Pt.slots] at X1 l1 y1 z1 st1 hQ
  subst l1 y1 z1
  exact Run.st (fun t q => st1.trans q) (k T1 _ v ⟨_, X1, Fr.app N hF, Nat.le_trans hz (hmono _ _ hQ), rfl⟩ hQ)
end Calls
end Jvm.Own
namespace Jvm.Pilot.@@N@@
open Jvm Jvm.ClassFile Sem Op Lib Jvm.Free Jvm.Stand Jvm.LawKit Jvm.RoadKit Bundle Jvm.Own Jvm.Pilot.@@N@@.Jvm.D
theorem pd_0 : parseMethodDescriptor "(II)I" = some ⟨[.int, .int], some (.int)⟩ := by decide +kernel
theorem pd_1 : parseMethodDescriptor "(I)I" = some ⟨[.int], some (.int)⟩ := by decide +kernel
theorem pd_2 : parseMethodDescriptor "(IIIJII)V" = some ⟨[.int, .int, .int, .long, .int, .int], none⟩ := by decide +kernel
theorem pd_3 : parseMethodDescriptor "(IJI)I" = some ⟨[.int, .long, .int], some (.int)⟩ := by decide +kernel
def own_imin (a b : Int32) : Int32 := if b < a then b else a
def own_slot (first : Int32) (offs : Int64) (j sg bits : Int32) : Int32 := if 0 < j then (first + sg * j) ^^^ (Int64.toInt32 (XT.ushrL offs (bits * (j - 1))) &&& (sg - 1)) else first
theorem own_pw : ∀ b : Fin 22, (1 : Int32) <<< (Int32.ofNat b.val &&& 31) = Int32.ofNat (2 ^ b.val) ∧ Int32.ofNat (2 ^ b.val) - 1 = Int32.ofNat (2 ^ b.val - 1) ∧ (2147483647 : Int32) - 4 * Int32.ofNat (2 ^ b.val) + 1 = Int32.ofNat (2147483648 - 4 * 2 ^ b.val) ∧ ¬ Int32.ofNat (2 ^ b.val) = 0 ∧ 2 ^ b.val ≤ 2097152 := by decide +kernel
theorem own_shc : ∀ k : Fin 64, ((Int32.toInt64 (Int32.ofNat k.val) &&& 63).toBitVec.smod 64).toNat = k.val ∧ ((Int32.ofNat k.val).toInt64.toUInt64 &&& Int64.toUInt64 63).toBitVec.toNat % 64 = k.val := by decide +kernel
theorem own_shl (x : Int64) {k : Nat} (hk : k < 64) : (x <<< (Int32.toInt64 (Int32.ofNat k) &&& 63)).toBitVec = x.toBitVec <<< k := by
  rw [Int64.toBitVec_shiftLeft, BitVec.shiftLeft_eq', (own_shc ⟨k, hk⟩).1]
theorem own_us (x : Int64) (y : Int32) (n : Nat) (h : (y.toInt64.toUInt64 &&& Int64.toUInt64 63).toBitVec.toNat % 64 = n) : (XT.ushrL x y).toBitVec = x.toBitVec >>> n := by
  subst h
  show (x.toUInt64 >>> (y.toInt64.toUInt64 &&& Int64.toUInt64 63)).toBitVec = _
  rw [UInt64.toBitVec_shiftRight]
  simp [BitVec.ushiftRight_eq']
theorem own_shr (x : Int64) {k : Nat} (hk : k < 64) : (XT.ushrL x (Int32.ofNat k)).toBitVec = x.toBitVec >>> k := own_us x _ k (own_shc ⟨k, hk⟩).2
theorem own_t64 {m : Nat} (h : m < 2 ^ 31) : Int32.toInt64 (Int32.ofNat m) = Int64.ofNat m := by
  apply Int64.toInt_inj.mp
  rw [Int32.toInt_toInt64, Int32.toInt_ofNat_of_lt h, Int64.toInt_ofNat_of_lt (by omega)]
theorem own_not (x : Int64) {i : Nat} (hi : i < 64) : (x ^^^ -1).toBitVec.getLsbD i = !(x.toBitVec.getLsbD i) := by
  rw [Int64.toBitVec_xor, BitVec.getLsbD_xor]
  have : (-1 : Int64).toBitVec = BitVec.allOnes 64 := by decide
  rw [this, BitVec.getLsbD_allOnes]
  simp [hi]
theorem own_n64 (m i : Nat) : (Int64.ofNat m).toBitVec.getLsbD i = (decide (i < 64) && m.testBit i) := by
  show (BitVec.ofNat 64 m).getLsbD i = _
  rw [BitVec.getLsbD_ofNat]
theorem own_n32 (m i : Nat) : (Int32.ofNat m).toBitVec.getLsbD i = (decide (i < 32) && m.testBit i) := by
  show (BitVec.ofNat 32 m).getLsbD i = _
  rw [BitVec.getLsbD_ofNat]
theorem own_off (o : Int64) {b s g : Nat} (hb : b < 22) (hs : s ≤ 42) (hg : g < 2 ^ b) :
    Int64.toInt32 (XT.ushrL ((o &&& ((Int32.toInt64 (Int32.ofNat (2 ^ b - 1)) <<< (Int32.toInt64 (Int32.ofNat s) &&& 63)) ^^^ -1)) ||| (Int32.toInt64 (Int32.ofNat g) <<< (Int32.toInt64 (Int32.ofNat s) &&& 63))) (Int32.ofNat s)) &&& (Int32.ofNat (2 ^ b) - 1) = Int32.ofNat g := by
  obtain ⟨-, h2, -, -, h5⟩ := own_pw ⟨b, hb⟩
  simp only at h2 h5
  rw [h2, own_t64 (m := 2 ^ b - 1) (by omega), own_t64 (m := g) (by omega)]
  apply Int32.toBitVec_inj.mp
  apply BitVec.eq_of_getLsbD_eq
  intro k hk
  rw [Int32.toBitVec_and, BitVec.getLsbD_and, own_n32, own_n32, Nat.testBit_two_pow_sub_one, Int64.toBitVec_toInt32, BitVec.getLsbD_signExtend, own_shr _ (by omega), BitVec.getLsbD_ushiftRight, Int64.toBitVec_or, Int64.toBitVec_and, BitVec.getLsbD_or, BitVec.getLsbD_and]
  by_cases h : k < b
  · rw [own_not _ (by omega), own_shl _ (by omega), own_shl _ (by omega), BitVec.getLsbD_shiftLeft, BitVec.getLsbD_shiftLeft, own_n64, own_n64, Nat.testBit_two_pow_sub_one]
    have e : s + k - s = k := by omega
    have e2 : ¬ s + k < s := by omega
    have e3 : s + k < 64 := by omega
    have e4 : k < 64 := by omega
    simp [e, e2, e3, e4, h, hk]
  · have e : g.testBit k = false := Nat.testBit_lt_two_pow (Nat.lt_of_lt_of_le hg (Nat.pow_le_pow_right (by decide) (by omega)))
    simp [h, e]
theorem own_tn {n : Nat} (h : n < 2 ^ 32) : (Int32.ofNat n).toBitVec.toNat = n := by
  show (BitVec.ofNat 32 n).toNat = n
  rw [BitVec.toNat_ofNat, Nat.mod_eq_of_lt h]
theorem own_s32 : ∀ b : Fin 22, ((Int32.ofNat b.val &&& 31).toUInt32).toBitVec.toNat % 32 = b.val ∧ ((Int32.ofNat b.val &&& 31).toBitVec.smod 32).toNat = b.val := by decide +kernel
theorem own_ush {f b : Nat} (hf : f < 2 ^ 31) (hb : b < 22) : XT.ushr (Int32.ofNat f) (Int32.ofNat b) = Int32.ofNat (f / 2 ^ b) := by
  apply Int32.toBitVec_inj.mp
  apply BitVec.eq_of_toNat_eq
  have e := (own_s32 ⟨b, hb⟩).1
  simp only at e
  rw [own_tn (Nat.lt_of_le_of_lt (Nat.div_le_self _ _) (by omega))]
  show ((Int32.ofNat f).toUInt32 >>> (Int32.ofNat b &&& 31).toUInt32).toBitVec.toNat = _
  rw [UInt32.toBitVec_shiftRight, BitVec.ushiftRight_eq', BitVec.toNat_ushiftRight]
  have e2 : (((Int32.ofNat b &&& 31).toUInt32).toBitVec % 32#32).toNat = b := by
    rw [BitVec.toNat_umod]; exact e
  have e3 : (Int32.ofNat f).toUInt32.toBitVec.toNat = f := own_tn (by omega)
  rw [e3, Nat.shiftRight_eq_div_pow]
  exact congrArg (fun z => f / 2 ^ z) e2
theorem own_sh32 {m b : Nat} (hb : b < 22) (h : m * 2 ^ b < 2 ^ 32) : (Int32.ofNat m <<< (Int32.ofNat b &&& 31)) = Int32.ofNat (m * 2 ^ b) := by
  apply Int32.toBitVec_inj.mp
  apply BitVec.eq_of_toNat_eq
  have e := (own_s32 ⟨b, hb⟩).2
  simp only at e
  have hm : m < 2 ^ 32 := Nat.lt_of_le_of_lt (Nat.le_mul_of_pos_right _ (Nat.two_pow_pos b)) h
  rw [own_tn h, Int32.toBitVec_shiftLeft, BitVec.shiftLeft_eq', e, BitVec.toNat_shiftLeft, own_tn hm, Nat.shiftLeft_eq, Nat.mod_eq_of_lt h]
theorem own_nat {f b j g : Nat} (hg : g < 2 ^ b) : (f + 2 ^ b * j) ^^^ g = (f / 2 ^ b + j) * 2 ^ b ||| (f % 2 ^ b ^^^ g) := by
  have hm : f % 2 ^ b < 2 ^ b := Nat.mod_lt _ (Nat.two_pow_pos b)
  have e1 : f + 2 ^ b * j = 2 ^ b * (f / 2 ^ b + j) + f % 2 ^ b := by
    have := Nat.div_add_mod f (2 ^ b)
    rw [Nat.mul_add]; omega
  apply Nat.eq_of_testBit_eq
  intro k
  rw [e1, Nat.mul_comm (f / 2 ^ b + j) (2 ^ b), Nat.testBit_xor, Nat.testBit_or, Nat.testBit_xor, Nat.testBit_two_pow_mul_add _ hm, Nat.testBit_two_pow_mul]
  by_cases h : k < b
  · have : ¬ b ≤ k := by omega
    simp [h, this]
  · have h2 : b ≤ k := by omega
    have z1 : g.testBit k = false := Nat.testBit_lt_two_pow (Nat.lt_of_lt_of_le hg (Nat.pow_le_pow_right (by decide) h2))
    have z2 : (f % 2 ^ b).testBit k = false := Nat.testBit_lt_two_pow (Nat.lt_of_lt_of_le hm (Nat.pow_le_pow_right (by decide) h2))
    simp [h, h2, z1, z2]
theorem own_comb {f b j g : Nat} (hb : b < 22) (hf : f + 4 * 2 ^ b ≤ 2147483647) (hj : j ≤ 3) (hg : g < 2 ^ b) :
    (Int32.ofNat f + Int32.ofNat (2 ^ b) * Int32.ofNat j) ^^^ Int32.ofNat g = ((XT.ushr (Int32.ofNat f) (Int32.ofNat b) + Int32.ofNat j) <<< (Int32.ofNat b &&& 31)) ||| ((Int32.ofNat f &&& (Int32.ofNat (2 ^ b) - 1)) ^^^ Int32.ofNat g) := by
  obtain ⟨-, h2, -, -, h5⟩ := own_pw ⟨b, hb⟩
  simp only at h2 h5
  have hlt : f + 2 ^ b * j < 2 ^ 31 := by
    have := Nat.mul_le_mul_left (2 ^ b) hj
    omega
  have e : (f / 2 ^ b + j) * 2 ^ b ≤ f + 2 ^ b * j := by
    rw [Nat.add_mul, Nat.mul_comm j]
    have := Nat.div_mul_le_self f (2 ^ b); omega
  rw [← Int32.ofNat_mul, ← Int32.ofNat_add, own_ush (by omega) hb, ← Int32.ofNat_add, own_sh32 hb (by omega), h2]
  apply Int32.toBitVec_inj.mp
  apply BitVec.eq_of_toNat_eq
  rw [Int32.toBitVec_xor, Int32.toBitVec_or, Int32.toBitVec_xor, Int32.toBitVec_and, BitVec.toNat_xor, BitVec.toNat_or, BitVec.toNat_xor, BitVec.toNat_and, own_tn (by omega), own_tn (by omega), own_tn (by omega), own_tn (by omega), own_tn (by omega), Nat.and_two_pow_sub_one_eq_mod]
  exact own_nat hg
theorem own_irem (x y : Int32) (hx : 0 ≤ x.toInt) (hy : 0 < y.toInt) : (x - x / y * y).toInt = x.toInt % y.toInt := by
  have h1 : (x / y).toInt = x.toInt / y.toInt := by
    rw [Int32.toInt_div, Int.tdiv_eq_ediv_of_nonneg hx]
    have h2 := Int.ediv_nonneg hx (Int.le_of_lt hy)
    have h3 := Int.ediv_le_self y.toInt hx
    have := x.toInt_lt
    exact Int.bmod_eq_of_le (by omega) (by omega)
  have h2 : x.toInt / y.toInt * y.toInt = x.toInt - x.toInt % y.toInt := by
    have := Int.mul_ediv_add_emod x.toInt y.toInt
    rw [Int.mul_comm] at this; omega
  have h3 := Int.emod_nonneg x.toInt (Int.ne_of_gt hy)
  have h4 := Int.emod_lt_of_pos x.toInt hy
  have h5 : x.toInt % y.toInt ≤ x.toInt := by
    have := Int.ediv_nonneg hx (Int.le_of_lt hy)
    have := Int.mul_nonneg this (Int.le_of_lt hy)
    omega
  have := x.toInt_lt
  have hm : (x / y * y).toInt = x.toInt - x.toInt % y.toInt := by
    rw [Int32.toInt_mul, h1, h2]
    exact Int.bmod_eq_of_le (by omega) (by omega)
  rw [Int32.toInt_sub, hm]
  have : x.toInt - (x.toInt - x.toInt % y.toInt) = x.toInt % y.toInt := by omega
  rw [this]
  exact Int.bmod_eq_of_le (by omega) (by omega)
theorem own_and31 (x : Int32) : 0 ≤ (x &&& 2147483647).toInt := by
  have hle : (x &&& 2147483647).toBitVec.toNat ≤ 2147483647 := by
    rw [Int32.toBitVec_and, BitVec.toNat_and]; exact Nat.and_le_right
  show 0 ≤ (x &&& 2147483647).toBitVec.toInt
  rw [BitVec.toInt_eq_toNat_of_lt (by omega)]
  omega
theorem own_ir (x : Int32) {n : Nat} (hx : 0 ≤ x.toInt) (h1 : 1 ≤ n) (h2 : n < 2 ^ 31) : ∃ r : Nat, r < n ∧ x - x / Int32.ofNat n * Int32.ofNat n = Int32.ofNat r := by
  have hn : (Int32.ofNat n).toInt = n := Int32.toInt_ofNat_of_lt (by omega)
  have h := own_irem x (Int32.ofNat n) hx (by omega)
  rw [hn] at h
  have h3 := Int.emod_nonneg x.toInt (show (n : Int) ≠ 0 by omega)
  have h4 := Int.emod_lt_of_pos x.toInt (show (0 : Int) < n by omega)
  generalize x - x / Int32.ofNat n * Int32.ofNat n = r at h
  refine ⟨r.toInt.toNat, by omega, ?_⟩
  apply Int32.toInt_inj.mp
  rw [Int32.toInt_ofNat_of_lt (by omega)]
  omega
theorem own_mk (x : Int32) (m : Nat) (hm : m < 2 ^ 31) : ∃ n : Nat, n ≤ m ∧ x &&& Int32.ofNat m = Int32.ofNat n := by
  refine ⟨(x &&& Int32.ofNat m).toBitVec.toNat, ?_, ?_⟩
  · simp only [Int32.toBitVec_and, BitVec.toNat_and]
    refine Nat.le_trans Nat.and_le_right ?_
    show (BitVec.ofNat 32 m).toNat ≤ m
    rw [BitVec.toNat_ofNat]; exact Nat.mod_le _ _
  · apply Int32.toBitVec_inj.mp
    show _ = BitVec.ofNat 32 _
    rw [BitVec.ofNat_toNat]; simp
theorem own_m3 (x : Int32) : x &&& 3 = 0 ∨ x &&& 3 = 1 ∨ x &&& 3 = 2 ∨ x &&& 3 = 3 := by
  obtain ⟨n, h, e⟩ := own_mk x 3 (by decide)
  have e' : x &&& 3 = Int32.ofNat n := e
  rw [e']
  have : n = 0 ∨ n = 1 ∨ n = 2 ∨ n = 3 := by omega
  rcases this with rfl | rfl | rfl | rfl <;> decide
theorem J29m69_0 : Dc jdk_29_method_69_code 0 (.iload_n 0) 1 1 := ⟨(by decide +kernel), rfl⟩
theorem J29m69_1 : Dc jdk_29_method_69_code 1 (.iload_n 1) 1 2 := ⟨(by decide +kernel), rfl⟩
theorem J29m69_2 : Db jdk_29_method_69_code 2 (.if_icmp .gt 7) (7) 5 9 := ⟨(by decide +kernel), rfl, by decide, by decide⟩
theorem J29m69_5 : Dc jdk_29_method_69_code 5 (.iload_n 0) 1 6 := ⟨(by decide +kernel), rfl⟩
theorem J29m69_6 : Db jdk_29_method_69_code 6 (.goto 4) (4) 9 10 := ⟨(by decide +kernel), rfl, by decide, by decide⟩
theorem J29m69_9 : Dc jdk_29_method_69_code 9 (.iload_n 1) 1 10 := ⟨(by decide +kernel), rfl⟩
theorem J29m69_10 : Dc jdk_29_method_69_code 10 (.ireturn) 1 11 := ⟨(by decide +kernel), rfl⟩
theorem ef_J29m69 (m : MethodId) (a : Int32) (b : Int32) : entryFrame m #[(.int a), (.int b)] 2 = mkF m 0 #[.val (.int a), .val (.int b)] [] := by first | (simp [entryFrame, mkF, argsToLocals, Value.category]; done) | rfl
set_option maxRecDepth 65536 in
set_option maxHeartbeats 40000000 in
theorem con_J29m69 (l : Launch) (Z : State) (a0 : Array Value) (hw : Tb tables_1 a0 Z) (a : Int32) (b : Int32) (h0 : Heap) (n0 : Nat) (Z0 : n0 ≤ h0.size)  :
    Con l Z (⟨"java/lang/Math", "min", "(II)I"⟩ : MethodName) jdk_29_method_69_code 2 (some (.int)) ({ frames := 0, cells := 0, slots := 0, locals := 0 } : Room) #[(.int a), (.int b)] h0 n0 (fun v h => h0 = h ∧ v = some (.int (own_imin a b))) := by
  refine Con.of (by decide +kernel) Z0 ?_
  intro K hl hZ hn cx T0 X0
  subst hl hZ hn
  refine Run.cast (ef_J29m69 K.m a b) ?_
  refine r_iloadN X0 cx J29m69_0 rfl ?_
  refine r_iloadN X0 cx J29m69_1 rfl ?_
  refine r_icmpgt X0 cx J29m69_2 (fun c2 => ?_) (fun c2 => ?_)
  · refine r_iloadN X0 cx J29m69_9 rfl ?_
    refine r_ireturn X0 cx J29m69_10 (by decide) (by decide) ?_
    exact ⟨rfl, by simp [own_imin, c2]⟩
  · refine r_iloadN X0 cx J29m69_5 rfl ?_
    refine r_goto X0 cx J29m69_6 ?_
    refine r_ireturn X0 cx J29m69_10 (by decide) (by decide) ?_
    exact ⟨rfl, by simp [own_imin, c2]⟩
theorem J33m48_0 : Dc jdk_33_method_48_code 0 (.iload_n 0) 1 1 := ⟨(by decide +kernel), rfl⟩
theorem J33m48_1 : Dc jdk_33_method_48_code 1 (.iconst (-1)) 1 2 := ⟨(by decide +kernel), rfl⟩
theorem J33m48_2 : Dc jdk_33_method_48_code 2 (.ixor) 1 3 := ⟨(by decide +kernel), rfl⟩
theorem J33m48_3 : Dc jdk_33_method_48_code 3 (.iload_n 0) 1 4 := ⟨(by decide +kernel), rfl⟩
theorem J33m48_4 : Dc jdk_33_method_48_code 4 (.iconst 1) 1 5 := ⟨(by decide +kernel), rfl⟩
theorem J33m48_5 : Dc jdk_33_method_48_code 5 (.isub) 1 6 := ⟨(by decide +kernel), rfl⟩
theorem J33m48_6 : Dc jdk_33_method_48_code 6 (.iand) 1 7 := ⟨(by decide +kernel), rfl⟩
theorem J33m48_7 : Dc jdk_33_method_48_code 7 (.istore_n 0) 1 8 := ⟨(by decide +kernel), rfl⟩
theorem J33m48_8 : Dc jdk_33_method_48_code 8 (.iload_n 0) 1 9 := ⟨(by decide +kernel), rfl⟩
theorem J33m48_9 : Db jdk_33_method_48_code 9 (.ifCond .gt 8) (8) 12 17 := ⟨(by decide +kernel), rfl, by decide, by decide⟩
theorem J33m48_12 : Dc jdk_33_method_48_code 12 (.iload_n 0) 1 13 := ⟨(by decide +kernel), rfl⟩
theorem J33m48_13 : Dc jdk_33_method_48_code 13 (.bipush 32) 2 15 := ⟨(by decide +kernel), rfl⟩
theorem J33m48_15 : Dc jdk_33_method_48_code 15 (.iand) 1 16 := ⟨(by decide +kernel), rfl⟩
theorem J33m48_16 : Dc jdk_33_method_48_code 16 (.ireturn) 1 17 := ⟨(by decide +kernel), rfl⟩
theorem J33m48_17 : Dc jdk_33_method_48_code 17 (.iconst 1) 1 18 := ⟨(by decide +kernel), rfl⟩
theorem J33m48_18 : Dc jdk_33_method_48_code 18 (.istore_n 1) 1 19 := ⟨(by decide +kernel), rfl⟩
theorem J33m48_19 : Dc jdk_33_method_48_code 19 (.iload_n 0) 1 20 := ⟨(by decide +kernel), rfl⟩
theorem J33m48_20 : Dc jdk_33_method_48_code 20 (.ldc_w 264) 3 23 := ⟨(by decide +kernel), rfl⟩
theorem J33m48_23 : Db jdk_33_method_48_code 23 (.if_icmp .le 11) (11) 26 34 := ⟨(by decide +kernel), rfl, by decide, by decide⟩
theorem J33m48_26 : Dc jdk_33_method_48_code 26 (.iinc 1 16) 3 29 := ⟨(by decide +kernel), rfl⟩
theorem J33m48_29 : Dc jdk_33_method_48_code 29 (.iload_n 0) 1 30 := ⟨(by decide +kernel), rfl⟩
theorem J33m48_30 : Dc jdk_33_method_48_code 30 (.bipush 16) 2 32 := ⟨(by decide +kernel), rfl⟩
theorem J33m48_32 : Dc jdk_33_method_48_code 32 (.iushr) 1 33 := ⟨(by decide +kernel), rfl⟩
theorem J33m48_33 : Dc jdk_33_method_48_code 33 (.istore_n 0) 1 34 := ⟨(by decide +kernel), rfl⟩
theorem J33m48_34 : Dc jdk_33_method_48_code 34 (.iload_n 0) 1 35 := ⟨(by decide +kernel), rfl⟩
theorem J33m48_35 : Dc jdk_33_method_48_code 35 (.sipush 256) 3 38 := ⟨(by decide +kernel), rfl⟩
theorem J33m48_38 : Db jdk_33_method_48_code 38 (.if_icmp .le 11) (11) 41 49 := ⟨(by decide +kernel), rfl, by decide, by decide⟩
theorem J33m48_41 : Dc jdk_33_method_48_code 41 (.iinc 1 8) 3 44 := ⟨(by decide +kernel), rfl⟩
theorem J33m48_44 : Dc jdk_33_method_48_code 44 (.iload_n 0) 1 45 := ⟨(by decide +kernel), rfl⟩
theorem J33m48_45 : Dc jdk_33_method_48_code 45 (.bipush 8) 2 47 := ⟨(by decide +kernel), rfl⟩
theorem J33m48_47 : Dc jdk_33_method_48_code 47 (.iushr) 1 48 := ⟨(by decide +kernel), rfl⟩
theorem J33m48_48 : Dc jdk_33_method_48_code 48 (.istore_n 0) 1 49 := ⟨(by decide +kernel), rfl⟩
theorem J33m48_49 : Dc jdk_33_method_48_code 49 (.iload_n 0) 1 50 := ⟨(by decide +kernel), rfl⟩
theorem J33m48_50 : Dc jdk_33_method_48_code 50 (.bipush 16) 2 52 := ⟨(by decide +kernel), rfl⟩
theorem J33m48_52 : Db jdk_33_method_48_code 52 (.if_icmp .le 10) (10) 55 62 := ⟨(by decide +kernel), rfl, by decide, by decide⟩
theorem J33m48_55 : Dc jdk_33_method_48_code 55 (.iinc 1 4) 3 58 := ⟨(by decide +kernel), rfl⟩
theorem J33m48_58 : Dc jdk_33_method_48_code 58 (.iload_n 0) 1 59 := ⟨(by decide +kernel), rfl⟩
theorem J33m48_59 : Dc jdk_33_method_48_code 59 (.iconst 4) 1 60 := ⟨(by decide +kernel), rfl⟩
theorem J33m48_60 : Dc jdk_33_method_48_code 60 (.iushr) 1 61 := ⟨(by decide +kernel), rfl⟩
theorem J33m48_61 : Dc jdk_33_method_48_code 61 (.istore_n 0) 1 62 := ⟨(by decide +kernel), rfl⟩
theorem J33m48_62 : Dc jdk_33_method_48_code 62 (.iload_n 0) 1 63 := ⟨(by decide +kernel), rfl⟩
theorem J33m48_63 : Dc jdk_33_method_48_code 63 (.iconst 4) 1 64 := ⟨(by decide +kernel), rfl⟩
theorem J33m48_64 : Db jdk_33_method_48_code 64 (.if_icmp .le 10) (10) 67 74 := ⟨(by decide +kernel), rfl, by decide, by decide⟩
theorem J33m48_67 : Dc jdk_33_method_48_code 67 (.iinc 1 2) 3 70 := ⟨(by decide +kernel), rfl⟩
theorem J33m48_70 : Dc jdk_33_method_48_code 70 (.iload_n 0) 1 71 := ⟨(by decide +kernel), rfl⟩
theorem J33m48_71 : Dc jdk_33_method_48_code 71 (.iconst 2) 1 72 := ⟨(by decide +kernel), rfl⟩
theorem J33m48_72 : Dc jdk_33_method_48_code 72 (.iushr) 1 73 := ⟨(by decide +kernel), rfl⟩
theorem J33m48_73 : Dc jdk_33_method_48_code 73 (.istore_n 0) 1 74 := ⟨(by decide +kernel), rfl⟩
theorem J33m48_74 : Dc jdk_33_method_48_code 74 (.iload_n 1) 1 75 := ⟨(by decide +kernel), rfl⟩
theorem J33m48_75 : Dc jdk_33_method_48_code 75 (.iload_n 0) 1 76 := ⟨(by decide +kernel), rfl⟩
theorem J33m48_76 : Dc jdk_33_method_48_code 76 (.iconst 1) 1 77 := ⟨(by decide +kernel), rfl⟩
theorem J33m48_77 : Dc jdk_33_method_48_code 77 (.iushr) 1 78 := ⟨(by decide +kernel), rfl⟩
theorem J33m48_78 : Dc jdk_33_method_48_code 78 (.iadd) 1 79 := ⟨(by decide +kernel), rfl⟩
theorem J33m48_79 : Dc jdk_33_method_48_code 79 (.ireturn) 1 80 := ⟨(by decide +kernel), rfl⟩
theorem ef_J33m48_0 (m : MethodId)  : entryFrame m #[(.int (1 : Int32))] 2 = mkF m 0 #[.val (.int (1 : Int32)), .unset] [] := by first | (simp [entryFrame, mkF, argsToLocals, Value.category]; done) | rfl
set_option maxRecDepth 65536 in
set_option maxHeartbeats 40000000 in
theorem con_J33m48_0 (l : Launch) (Z : State) (a0 : Array Value) (hw : Tb tables_1 a0 Z)  (h0 : Heap) (n0 : Nat) (Z0 : n0 ≤ h0.size)  :
    Con l Z (⟨"java/lang/Integer", "numberOfTrailingZeros", "(I)I"⟩ : MethodName) jdk_33_method_48_code 2 (some (.int)) ({ frames := 0, cells := 0, slots := 0, locals := 0 } : Room) #[(.int (1 : Int32))] h0 n0 (fun v h => h0 = h ∧ v = some (.int 0)) := by
  refine Con.of (plainFor_of_name (by decide +kernel)) Z0 ?_
  intro K hl hZ hn cx T0 X0
  subst hl hZ hn
  refine Run.cast (ef_J33m48_0 K.m ) ?_
  refine r_iloadN X0 cx J33m48_0 rfl ?_
  refine r_iconst (-1) X0 cx J33m48_1 rfl ?_
  refine r_ixor X0 cx J33m48_2 ?_
  refine r_top (v' := -2) (by decide) ?_
  refine r_iloadN X0 cx J33m48_3 rfl ?_
  refine r_iconst (1) X0 cx J33m48_4 rfl ?_
  refine r_isub X0 cx J33m48_5 ?_
  refine r_top (v' := 0) (by decide) ?_
  refine r_iand X0 cx J33m48_6 ?_
  refine r_top (v' := 0) (by decide) ?_
  refine r_istoreN (fun zz => #[.val (.int zz), .unset]) X0 cx J33m48_7 (fun _ => rfl) (fun i1 e_i1 => ?_)
  subst e_i1
  refine r_iloadN X0 cx J33m48_8 rfl ?_
  refine r_ifgt X0 cx J33m48_9 (fun c => absurd c (by decide)) (fun _ => ?_)
  refine r_iloadN X0 cx J33m48_12 rfl ?_
  refine r_bipush (32) X0 cx J33m48_13 rfl ?_
  refine r_iand X0 cx J33m48_15 ?_
  refine r_top (v' := 0) (by decide) ?_
  refine r_ireturn X0 cx J33m48_16 (by decide) (by decide) ?_
  exact ⟨rfl, rfl⟩
theorem ef_J33m48_1 (m : MethodId)  : entryFrame m #[(.int (2 : Int32))] 2 = mkF m 0 #[.val (.int (2 : Int32)), .unset] [] := by first | (simp [entryFrame, mkF, argsToLocals, Value.category]; done) | rfl
set_option maxRecDepth 65536 in
set_option maxHeartbeats 40000000 in
theorem con_J33m48_1 (l : Launch) (Z : State) (a0 : Array Value) (hw : Tb tables_1 a0 Z)  (h0 : Heap) (n0 : Nat) (Z0 : n0 ≤ h0.size)  :
    Con l Z (⟨"java/lang/Integer", "numberOfTrailingZeros", "(I)I"⟩ : MethodName) jdk_33_method_48_code 2 (some (.int)) ({ frames := 0, cells := 0, slots := 0, locals := 0 } : Room) #[(.int (2 : Int32))] h0 n0 (fun v h => h0 = h ∧ v = some (.int 1)) := by
  refine Con.of (plainFor_of_name (by decide +kernel)) Z0 ?_
  intro K hl hZ hn cx T0 X0
  subst hl hZ hn
  refine Run.cast (ef_J33m48_1 K.m ) ?_
  refine r_iloadN X0 cx J33m48_0 rfl ?_
  refine r_iconst (-1) X0 cx J33m48_1 rfl ?_
  refine r_ixor X0 cx J33m48_2 ?_
  refine r_top (v' := -3) (by decide) ?_
  refine r_iloadN X0 cx J33m48_3 rfl ?_
  refine r_iconst (1) X0 cx J33m48_4 rfl ?_
  refine r_isub X0 cx J33m48_5 ?_
  refine r_top (v' := 1) (by decide) ?_
  refine r_iand X0 cx J33m48_6 ?_
  refine r_top (v' := 1) (by decide) ?_
  refine r_istoreN (fun zz => #[.val (.int zz), .unset]) X0 cx J33m48_7 (fun _ => rfl) (fun i1 e_i1 => ?_)
  subst e_i1
  refine r_iloadN X0 cx J33m48_8 rfl ?_
  refine r_ifgt X0 cx J33m48_9 (fun _ => ?_) (fun c => absurd c (by decide))
  refine r_iconst (1) X0 cx J33m48_17 rfl ?_
  refine r_istoreN (fun zz => #[.val (.int (1 : Int32)), .val (.int zz)]) X0 cx J33m48_18 (fun _ => rfl) (fun i2 e_i2 => ?_)
  subst e_i2
  refine r_iloadN X0 cx J33m48_19 rfl ?_
  refine r_ldcW X0 cx J33m48_20 (hw.get 42 rfl) ?_
  refine r_icmple X0 cx J33m48_23 (fun _ => ?_) (fun c => absurd c (by decide))
  refine r_iloadN X0 cx J33m48_34 rfl ?_
  refine r_sipush (256) X0 cx J33m48_35 rfl ?_
  refine r_icmple X0 cx J33m48_38 (fun _ => ?_) (fun c => absurd c (by decide))
  refine r_iloadN X0 cx J33m48_49 rfl ?_
  refine r_bipush (16) X0 cx J33m48_50 rfl ?_
  refine r_icmple X0 cx J33m48_52 (fun _ => ?_) (fun c => absurd c (by decide))
  refine r_iloadN X0 cx J33m48_62 rfl ?_
  refine r_iconst (4) X0 cx J33m48_63 rfl ?_
  refine r_icmple X0 cx J33m48_64 (fun _ => ?_) (fun c => absurd c (by decide))
  refine r_iloadN X0 cx J33m48_74 rfl ?_
  refine r_iloadN X0 cx J33m48_75 rfl ?_
  refine r_iconst (1) X0 cx J33m48_76 rfl ?_
  refine r_iushr X0 cx J33m48_77 ?_
  refine r_top (v' := 0) (by decide) ?_
  refine r_iadd X0 cx J33m48_78 ?_
  refine r_top (v' := 1) (by decide) ?_
  refine r_ireturn X0 cx J33m48_79 (by decide) (by decide) ?_
  exact ⟨rfl, rfl⟩
theorem ef_J33m48_2 (m : MethodId)  : entryFrame m #[(.int (4 : Int32))] 2 = mkF m 0 #[.val (.int (4 : Int32)), .unset] [] := by first | (simp [entryFrame, mkF, argsToLocals, Value.category]; done) | rfl
set_option maxRecDepth 65536 in
set_option maxHeartbeats 40000000 in
theorem con_J33m48_2 (l : Launch) (Z : State) (a0 : Array Value) (hw : Tb tables_1 a0 Z)  (h0 : Heap) (n0 : Nat) (Z0 : n0 ≤ h0.size)  :
    Con l Z (⟨"java/lang/Integer", "numberOfTrailingZeros", "(I)I"⟩ : MethodName) jdk_33_method_48_code 2 (some (.int)) ({ frames := 0, cells := 0, slots := 0, locals := 0 } : Room) #[(.int (4 : Int32))] h0 n0 (fun v h => h0 = h ∧ v = some (.int 2)) := by
  refine Con.of (plainFor_of_name (by decide +kernel)) Z0 ?_
  intro K hl hZ hn cx T0 X0
  subst hl hZ hn
  refine Run.cast (ef_J33m48_2 K.m ) ?_
  refine r_iloadN X0 cx J33m48_0 rfl ?_
  refine r_iconst (-1) X0 cx J33m48_1 rfl ?_
  refine r_ixor X0 cx J33m48_2 ?_
  refine r_top (v' := -5) (by decide) ?_
  refine r_iloadN X0 cx J33m48_3 rfl ?_
  refine r_iconst (1) X0 cx J33m48_4 rfl ?_
  refine r_isub X0 cx J33m48_5 ?_
  refine r_top (v' := 3) (by decide) ?_
  refine r_iand X0 cx J33m48_6 ?_
  refine r_top (v' := 3) (by decide) ?_
  refine r_istoreN (fun zz => #[.val (.int zz), .unset]) X0 cx J33m48_7 (fun _ => rfl) (fun i1 e_i1 => ?_)
  subst e_i1
  refine r_iloadN X0 cx J33m48_8 rfl ?_
  refine r_ifgt X0 cx J33m48_9 (fun _ => ?_) (fun c => absurd c (by decide))
  refine r_iconst (1) X0 cx J33m48_17 rfl ?_
  refine r_istoreN (fun zz => #[.val (.int (3 : Int32)), .val (.int zz)]) X0 cx J33m48_18 (fun _ => rfl) (fun i2 e_i2 => ?_)
  subst e_i2
  refine r_iloadN X0 cx J33m48_19 rfl ?_
  refine r_ldcW X0 cx J33m48_20 (hw.get 42 rfl) ?_
  refine r_icmple X0 cx J33m48_23 (fun _ => ?_) (fun c => absurd c (by decide))
  refine r_iloadN X0 cx J33m48_34 rfl ?_
  refine r_sipush (256) X0 cx J33m48_35 rfl ?_
  refine r_icmple X0 cx J33m48_38 (fun _ => ?_) (fun c => absurd c (by decide))
  refine r_iloadN X0 cx J33m48_49 rfl ?_
  refine r_bipush (16) X0 cx J33m48_50 rfl ?_
  refine r_icmple X0 cx J33m48_52 (fun _ => ?_) (fun c => absurd c (by decide))
  refine r_iloadN X0 cx J33m48_62 rfl ?_
  refine r_iconst (4) X0 cx J33m48_63 rfl ?_
  refine r_icmple X0 cx J33m48_64 (fun _ => ?_) (fun c => absurd c (by decide))
  refine r_iloadN X0 cx J33m48_74 rfl ?_
  refine r_iloadN X0 cx J33m48_75 rfl ?_
  refine r_iconst (1) X0 cx J33m48_76 rfl ?_
  refine r_iushr X0 cx J33m48_77 ?_
  refine r_top (v' := 1) (by decide) ?_
  refine r_iadd X0 cx J33m48_78 ?_
  refine r_top (v' := 2) (by decide) ?_
  refine r_ireturn X0 cx J33m48_79 (by decide) (by decide) ?_
  exact ⟨rfl, rfl⟩
theorem ef_J33m48_3 (m : MethodId)  : entryFrame m #[(.int (8 : Int32))] 2 = mkF m 0 #[.val (.int (8 : Int32)), .unset] [] := by first | (simp [entryFrame, mkF, argsToLocals, Value.category]; done) | rfl
set_option maxRecDepth 65536 in
set_option maxHeartbeats 40000000 in
theorem con_J33m48_3 (l : Launch) (Z : State) (a0 : Array Value) (hw : Tb tables_1 a0 Z)  (h0 : Heap) (n0 : Nat) (Z0 : n0 ≤ h0.size)  :
    Con l Z (⟨"java/lang/Integer", "numberOfTrailingZeros", "(I)I"⟩ : MethodName) jdk_33_method_48_code 2 (some (.int)) ({ frames := 0, cells := 0, slots := 0, locals := 0 } : Room) #[(.int (8 : Int32))] h0 n0 (fun v h => h0 = h ∧ v = some (.int 3)) := by
  refine Con.of (plainFor_of_name (by decide +kernel)) Z0 ?_
  intro K hl hZ hn cx T0 X0
  subst hl hZ hn
  refine Run.cast (ef_J33m48_3 K.m ) ?_
  refine r_iloadN X0 cx J33m48_0 rfl ?_
  refine r_iconst (-1) X0 cx J33m48_1 rfl ?_
  refine r_ixor X0 cx J33m48_2 ?_
  refine r_top (v' := -9) (by decide) ?_
  refine r_iloadN X0 cx J33m48_3 rfl ?_
  refine r_iconst (1) X0 cx J33m48_4 rfl ?_
  refine r_isub X0 cx J33m48_5 ?_
  refine r_top (v' := 7) (by decide) ?_
  refine r_iand X0 cx J33m48_6 ?_
  refine r_top (v' := 7) (by decide) ?_
  refine r_istoreN (fun zz => #[.val (.int zz), .unset]) X0 cx J33m48_7 (fun _ => rfl) (fun i1 e_i1 => ?_)
  subst e_i1
  refine r_iloadN X0 cx J33m48_8 rfl ?_
  refine r_ifgt X0 cx J33m48_9 (fun _ => ?_) (fun c => absurd c (by decide))
  refine r_iconst (1) X0 cx J33m48_17 rfl ?_
  refine r_istoreN (fun zz => #[.val (.int (7 : Int32)), .val (.int zz)]) X0 cx J33m48_18 (fun _ => rfl) (fun i2 e_i2 => ?_)
  subst e_i2
  refine r_iloadN X0 cx J33m48_19 rfl ?_
  refine r_ldcW X0 cx J33m48_20 (hw.get 42 rfl) ?_
  refine r_icmple X0 cx J33m48_23 (fun _ => ?_) (fun c => absurd c (by decide))
  refine r_iloadN X0 cx J33m48_34 rfl ?_
  refine r_sipush (256) X0 cx J33m48_35 rfl ?_
  refine r_icmple X0 cx J33m48_38 (fun _ => ?_) (fun c => absurd c (by decide))
  refine r_iloadN X0 cx J33m48_49 rfl ?_
  refine r_bipush (16) X0 cx J33m48_50 rfl ?_
  refine r_icmple X0 cx J33m48_52 (fun _ => ?_) (fun c => absurd c (by decide))
  refine r_iloadN X0 cx J33m48_62 rfl ?_
  refine r_iconst (4) X0 cx J33m48_63 rfl ?_
  refine r_icmple X0 cx J33m48_64 (fun c => absurd c (by decide)) (fun _ => ?_)
  refine r_iinc (2 : Int32) (fun zz => #[.val (.int (7 : Int32)), .val (.int zz)]) X0 cx J33m48_67 rfl rfl (fun _ => rfl) (fun i3 e_i3 => ?_)
  obtain rfl : i3 = (3 : Int32) := e_i3
  refine r_iloadN X0 cx J33m48_70 rfl ?_
  refine r_iconst (2) X0 cx J33m48_71 rfl ?_
  refine r_iushr X0 cx J33m48_72 ?_
  refine r_top (v' := 1) (by decide) ?_
  refine r_istoreN (fun zz => #[.val (.int zz), .val (.int (3 : Int32))]) X0 cx J33m48_73 (fun _ => rfl) (fun i4 e_i4 => ?_)
  subst e_i4
  refine r_iloadN X0 cx J33m48_74 rfl ?_
  refine r_iloadN X0 cx J33m48_75 rfl ?_
  refine r_iconst (1) X0 cx J33m48_76 rfl ?_
  refine r_iushr X0 cx J33m48_77 ?_
  refine r_top (v' := 0) (by decide) ?_
  refine r_iadd X0 cx J33m48_78 ?_
  refine r_top (v' := 3) (by decide) ?_
  refine r_ireturn X0 cx J33m48_79 (by decide) (by decide) ?_
  exact ⟨rfl, rfl⟩
theorem ef_J33m48_4 (m : MethodId)  : entryFrame m #[(.int (16 : Int32))] 2 = mkF m 0 #[.val (.int (16 : Int32)), .unset] [] := by first | (simp [entryFrame, mkF, argsToLocals, Value.category]; done) | rfl
set_option maxRecDepth 65536 in
set_option maxHeartbeats 40000000 in
theorem con_J33m48_4 (l : Launch) (Z : State) (a0 : Array Value) (hw : Tb tables_1 a0 Z)  (h0 : Heap) (n0 : Nat) (Z0 : n0 ≤ h0.size)  :
    Con l Z (⟨"java/lang/Integer", "numberOfTrailingZeros", "(I)I"⟩ : MethodName) jdk_33_method_48_code 2 (some (.int)) ({ frames := 0, cells := 0, slots := 0, locals := 0 } : Room) #[(.int (16 : Int32))] h0 n0 (fun v h => h0 = h ∧ v = some (.int 4)) := by
  refine Con.of (plainFor_of_name (by decide +kernel)) Z0 ?_
  intro K hl hZ hn cx T0 X0
  subst hl hZ hn
  refine Run.cast (ef_J33m48_4 K.m ) ?_
  refine r_iloadN X0 cx J33m48_0 rfl ?_
  refine r_iconst (-1) X0 cx J33m48_1 rfl ?_
  refine r_ixor X0 cx J33m48_2 ?_
  refine r_top (v' := -17) (by decide) ?_
  refine r_iloadN X0 cx J33m48_3 rfl ?_
  refine r_iconst (1) X0 cx J33m48_4 rfl ?_
  refine r_isub X0 cx J33m48_5 ?_
  refine r_top (v' := 15) (by decide) ?_
  refine r_iand X0 cx J33m48_6 ?_
  refine r_top (v' := 15) (by decide) ?_
  refine r_istoreN (fun zz => #[.val (.int zz), .unset]) X0 cx J33m48_7 (fun _ => rfl) (fun i1 e_i1 => ?_)
  subst e_i1
  refine r_iloadN X0 cx J33m48_8 rfl ?_
  refine r_ifgt X0 cx J33m48_9 (fun _ => ?_) (fun c => absurd c (by decide))
  refine r_iconst (1) X0 cx J33m48_17 rfl ?_
  refine r_istoreN (fun zz => #[.val (.int (15 : Int32)), .val (.int zz)]) X0 cx J33m48_18 (fun _ => rfl) (fun i2 e_i2 => ?_)
  subst e_i2
  refine r_iloadN X0 cx J33m48_19 rfl ?_
  refine r_ldcW X0 cx J33m48_20 (hw.get 42 rfl) ?_
  refine r_icmple X0 cx J33m48_23 (fun _ => ?_) (fun c => absurd c (by decide))
  refine r_iloadN X0 cx J33m48_34 rfl ?_
  refine r_sipush (256) X0 cx J33m48_35 rfl ?_
  refine r_icmple X0 cx J33m48_38 (fun _ => ?_) (fun c => absurd c (by decide))
  refine r_iloadN X0 cx J33m48_49 rfl ?_
  refine r_bipush (16) X0 cx J33m48_50 rfl ?_
  refine r_icmple X0 cx J33m48_52 (fun _ => ?_) (fun c => absurd c (by decide))
  refine r_iloadN X0 cx J33m48_62 rfl ?_
  refine r_iconst (4) X0 cx J33m48_63 rfl ?_
  refine r_icmple X0 cx J33m48_64 (fun c => absurd c (by decide)) (fun _ => ?_)
  refine r_iinc (2 : Int32) (fun zz => #[.val (.int (15 : Int32)), .val (.int zz)]) X0 cx J33m48_67 rfl rfl (fun _ => rfl) (fun i3 e_i3 => ?_)
  obtain rfl : i3 = (3 : Int32) := e_i3
  refine r_iloadN X0 cx J33m48_70 rfl ?_
  refine r_iconst (2) X0 cx J33m48_71 rfl ?_
  refine r_iushr X0 cx J33m48_72 ?_
  refine r_top (v' := 3) (by decide) ?_
  refine r_istoreN (fun zz => #[.val (.int zz), .val (.int (3 : Int32))]) X0 cx J33m48_73 (fun _ => rfl) (fun i4 e_i4 => ?_)
  subst e_i4
  refine r_iloadN X0 cx J33m48_74 rfl ?_
  refine r_iloadN X0 cx J33m48_75 rfl ?_
  refine r_iconst (1) X0 cx J33m48_76 rfl ?_
  refine r_iushr X0 cx J33m48_77 ?_
  refine r_top (v' := 1) (by decide) ?_
  refine r_iadd X0 cx J33m48_78 ?_
  refine r_top (v' := 4) (by decide) ?_
  refine r_ireturn X0 cx J33m48_79 (by decide) (by decide) ?_
  exact ⟨rfl, rfl⟩
theorem ef_J33m48_5 (m : MethodId)  : entryFrame m #[(.int (32 : Int32))] 2 = mkF m 0 #[.val (.int (32 : Int32)), .unset] [] := by first | (simp [entryFrame, mkF, argsToLocals, Value.category]; done) | rfl
set_option maxRecDepth 65536 in
set_option maxHeartbeats 40000000 in
theorem con_J33m48_5 (l : Launch) (Z : State) (a0 : Array Value) (hw : Tb tables_1 a0 Z)  (h0 : Heap) (n0 : Nat) (Z0 : n0 ≤ h0.size)  :
    Con l Z (⟨"java/lang/Integer", "numberOfTrailingZeros", "(I)I"⟩ : MethodName) jdk_33_method_48_code 2 (some (.int)) ({ frames := 0, cells := 0, slots := 0, locals := 0 } : Room) #[(.int (32 : Int32))] h0 n0 (fun v h => h0 = h ∧ v = some (.int 5)) := by
  refine Con.of (plainFor_of_name (by decide +kernel)) Z0 ?_
  intro K hl hZ hn cx T0 X0
  subst hl hZ hn
  refine Run.cast (ef_J33m48_5 K.m ) ?_
  refine r_iloadN X0 cx J33m48_0 rfl ?_
  refine r_iconst (-1) X0 cx J33m48_1 rfl ?_
  refine r_ixor X0 cx J33m48_2 ?_
  refine r_top (v' := -33) (by decide) ?_
  refine r_iloadN X0 cx J33m48_3 rfl ?_
  refine r_iconst (1) X0 cx J33m48_4 rfl ?_
  refine r_isub X0 cx J33m48_5 ?_
  refine r_top (v' := 31) (by decide) ?_
  refine r_iand X0 cx J33m48_6 ?_
  refine r_top (v' := 31) (by decide) ?_
  refine r_istoreN (fun zz => #[.val (.int zz), .unset]) X0 cx J33m48_7 (fun _ => rfl) (fun i1 e_i1 => ?_)
  subst e_i1
  refine r_iloadN X0 cx J33m48_8 rfl ?_
  refine r_ifgt X0 cx J33m48_9 (fun _ => ?_) (fun c => absurd c (by decide))
  refine r_iconst (1) X0 cx J33m48_17 rfl ?_
  refine r_istoreN (fun zz => #[.val (.int (31 : Int32)), .val (.int zz)]) X0 cx J33m48_18 (fun _ => rfl) (fun i2 e_i2 => ?_)
  subst e_i2
  refine r_iloadN X0 cx J33m48_19 rfl ?_
  refine r_ldcW X0 cx J33m48_20 (hw.get 42 rfl) ?_
  refine r_icmple X0 cx J33m48_23 (fun _ => ?_) (fun c => absurd c (by decide))
  refine r_iloadN X0 cx J33m48_34 rfl ?_
  refine r_sipush (256) X0 cx J33m48_35 rfl ?_
  refine r_icmple X0 cx J33m48_38 (fun _ => ?_) (fun c => absurd c (by decide))
  refine r_iloadN X0 cx J33m48_49 rfl ?_
  refine r_bipush (16) X0 cx J33m48_50 rfl ?_
  refine r_icmple X0 cx J33m48_52 (fun c => absurd c (by decide)) (fun _ => ?_)
  refine r_iinc (4 : Int32) (fun zz => #[.val (.int (31 : Int32)), .val (.int zz)]) X0 cx J33m48_55 rfl rfl (fun _ => rfl) (fun i3 e_i3 => ?_)
  obtain rfl : i3 = (5 : Int32) := e_i3
  refine r_iloadN X0 cx J33m48_58 rfl ?_
  refine r_iconst (4) X0 cx J33m48_59 rfl ?_
  refine r_iushr X0 cx J33m48_60 ?_
  refine r_top (v' := 1) (by decide) ?_
  refine r_istoreN (fun zz => #[.val (.int zz), .val (.int (5 : Int32))]) X0 cx J33m48_61 (fun _ => rfl) (fun i4 e_i4 => ?_)
  subst e_i4
  refine r_iloadN X0 cx J33m48_62 rfl ?_
  refine r_iconst (4) X0 cx J33m48_63 rfl ?_
  refine r_icmple X0 cx J33m48_64 (fun _ => ?_) (fun c => absurd c (by decide))
  refine r_iloadN X0 cx J33m48_74 rfl ?_
  refine r_iloadN X0 cx J33m48_75 rfl ?_
  refine r_iconst (1) X0 cx J33m48_76 rfl ?_
  refine r_iushr X0 cx J33m48_77 ?_
  refine r_top (v' := 0) (by decide) ?_
  refine r_iadd X0 cx J33m48_78 ?_
  refine r_top (v' := 5) (by decide) ?_
  refine r_ireturn X0 cx J33m48_79 (by decide) (by decide) ?_
  exact ⟨rfl, rfl⟩
theorem ef_J33m48_6 (m : MethodId)  : entryFrame m #[(.int (64 : Int32))] 2 = mkF m 0 #[.val (.int (64 : Int32)), .unset] [] := by first | (simp [entryFrame, mkF, argsToLocals, Value.category]; done) | rfl
set_option maxRecDepth 65536 in
set_option maxHeartbeats 40000000 in
theorem con_J33m48_6 (l : Launch) (Z : State) (a0 : Array Value) (hw : Tb tables_1 a0 Z)  (h0 : Heap) (n0 : Nat) (Z0 : n0 ≤ h0.size)  :
    Con l Z (⟨"java/lang/Integer", "numberOfTrailingZeros", "(I)I"⟩ : MethodName) jdk_33_method_48_code 2 (some (.int)) ({ frames := 0, cells := 0, slots := 0, locals := 0 } : Room) #[(.int (64 : Int32))] h0 n0 (fun v h => h0 = h ∧ v = some (.int 6)) := by
  refine Con.of (plainFor_of_name (by decide +kernel)) Z0 ?_
  intro K hl hZ hn cx T0 X0
  subst hl hZ hn
  refine Run.cast (ef_J33m48_6 K.m ) ?_
  refine r_iloadN X0 cx J33m48_0 rfl ?_
  refine r_iconst (-1) X0 cx J33m48_1 rfl ?_
  refine r_ixor X0 cx J33m48_2 ?_
  refine r_top (v' := -65) (by decide) ?_
  refine r_iloadN X0 cx J33m48_3 rfl ?_
  refine r_iconst (1) X0 cx J33m48_4 rfl ?_
  refine r_isub X0 cx J33m48_5 ?_
  refine r_top (v' := 63) (by decide) ?_
  refine r_iand X0 cx J33m48_6 ?_
  refine r_top (v' := 63) (by decide) ?_
  refine r_istoreN (fun zz => #[.val (.int zz), .unset]) X0 cx J33m48_7 (fun _ => rfl) (fun i1 e_i1 => ?_)
  subst e_i1
  refine r_iloadN X0 cx J33m48_8 rfl ?_
  refine r_ifgt X0 cx J33m48_9 (fun _ => ?_) (fun c => absurd c (by decide))
  refine r_iconst (1) X0 cx J33m48_17 rfl ?_
  refine r_istoreN (fun zz => #[.val (.int (63 : Int32)), .val (.int zz)]) X0 cx J33m48_18 (fun _ => rfl) (fun i2 e_i2 => ?_)
  subst e_i2
  refine r_iloadN X0 cx J33m48_19 rfl ?_
  refine r_ldcW X0 cx J33m48_20 (hw.get 42 rfl) ?_
  refine r_icmple X0 cx J33m48_23 (fun _ => ?_) (fun c => absurd c (by decide))
  refine r_iloadN X0 cx J33m48_34 rfl ?_
  refine r_sipush (256) X0 cx J33m48_35 rfl ?_
  refine r_icmple X0 cx J33m48_38 (fun _ => ?_) (fun c => absurd c (by decide))
  refine r_iloadN X0 cx J33m48_49 rfl ?_
  refine r_bipush (16) X0 cx J33m48_50 rfl ?_
  refine r_icmple X0 cx J33m48_52 (fun c => absurd c (by decide)) (fun _ => ?_)
  refine r_iinc (4 : Int32) (fun zz => #[.val (.int (63 : Int32)), .val (.int zz)]) X0 cx J33m48_55 rfl rfl (fun _ => rfl) (fun i3 e_i3 => ?_)
  obtain rfl : i3 = (5 : Int32) := e_i3
  refine r_iloadN X0 cx J33m48_58 rfl ?_
  refine r_iconst (4) X0 cx J33m48_59 rfl ?_
  refine r_iushr X0 cx J33m48_60 ?_
  refine r_top (v' := 3) (by decide) ?_
  refine r_istoreN (fun zz => #[.val (.int zz), .val (.int (5 : Int32))]) X0 cx J33m48_61 (fun _ => rfl) (fun i4 e_i4 => ?_)
  subst e_i4
  refine r_iloadN X0 cx J33m48_62 rfl ?_
  refine r_iconst (4) X0 cx J33m48_63 rfl ?_
  refine r_icmple X0 cx J33m48_64 (fun _ => ?_) (fun c => absurd c (by decide))
  refine r_iloadN X0 cx J33m48_74 rfl ?_
  refine r_iloadN X0 cx J33m48_75 rfl ?_
  refine r_iconst (1) X0 cx J33m48_76 rfl ?_
  refine r_iushr X0 cx J33m48_77 ?_
  refine r_top (v' := 1) (by decide) ?_
  refine r_iadd X0 cx J33m48_78 ?_
  refine r_top (v' := 6) (by decide) ?_
  refine r_ireturn X0 cx J33m48_79 (by decide) (by decide) ?_
  exact ⟨rfl, rfl⟩
theorem ef_J33m48_7 (m : MethodId)  : entryFrame m #[(.int (128 : Int32))] 2 = mkF m 0 #[.val (.int (128 : Int32)), .unset] [] := by first | (simp [entryFrame, mkF, argsToLocals, Value.category]; done) | rfl
set_option maxRecDepth 65536 in
set_option maxHeartbeats 40000000 in
theorem con_J33m48_7 (l : Launch) (Z : State) (a0 : Array Value) (hw : Tb tables_1 a0 Z)  (h0 : Heap) (n0 : Nat) (Z0 : n0 ≤ h0.size)  :
    Con l Z (⟨"java/lang/Integer", "numberOfTrailingZeros", "(I)I"⟩ : MethodName) jdk_33_method_48_code 2 (some (.int)) ({ frames := 0, cells := 0, slots := 0, locals := 0 } : Room) #[(.int (128 : Int32))] h0 n0 (fun v h => h0 = h ∧ v = some (.int 7)) := by
  refine Con.of (plainFor_of_name (by decide +kernel)) Z0 ?_
  intro K hl hZ hn cx T0 X0
  subst hl hZ hn
  refine Run.cast (ef_J33m48_7 K.m ) ?_
  refine r_iloadN X0 cx J33m48_0 rfl ?_
  refine r_iconst (-1) X0 cx J33m48_1 rfl ?_
  refine r_ixor X0 cx J33m48_2 ?_
  refine r_top (v' := -129) (by decide) ?_
  refine r_iloadN X0 cx J33m48_3 rfl ?_
  refine r_iconst (1) X0 cx J33m48_4 rfl ?_
  refine r_isub X0 cx J33m48_5 ?_
  refine r_top (v' := 127) (by decide) ?_
  refine r_iand X0 cx J33m48_6 ?_
  refine r_top (v' := 127) (by decide) ?_
  refine r_istoreN (fun zz => #[.val (.int zz), .unset]) X0 cx J33m48_7 (fun _ => rfl) (fun i1 e_i1 => ?_)
  subst e_i1
  refine r_iloadN X0 cx J33m48_8 rfl ?_
  refine r_ifgt X0 cx J33m48_9 (fun _ => ?_) (fun c => absurd c (by decide))
  refine r_iconst (1) X0 cx J33m48_17 rfl ?_
  refine r_istoreN (fun zz => #[.val (.int (127 : Int32)), .val (.int zz)]) X0 cx J33m48_18 (fun _ => rfl) (fun i2 e_i2 => ?_)
  subst e_i2
  refine r_iloadN X0 cx J33m48_19 rfl ?_
  refine r_ldcW X0 cx J33m48_20 (hw.get 42 rfl) ?_
  refine r_icmple X0 cx J33m48_23 (fun _ => ?_) (fun c => absurd c (by decide))
  refine r_iloadN X0 cx J33m48_34 rfl ?_
  refine r_sipush (256) X0 cx J33m48_35 rfl ?_
  refine r_icmple X0 cx J33m48_38 (fun _ => ?_) (fun c => absurd c (by decide))
  refine r_iloadN X0 cx J33m48_49 rfl ?_
  refine r_bipush (16) X0 cx J33m48_50 rfl ?_
  refine r_icmple X0 cx J33m48_52 (fun c => absurd c (by decide)) (fun _ => ?_)
  refine r_iinc (4 : Int32) (fun zz => #[.val (.int (127 : Int32)), .val (.int zz)]) X0 cx J33m48_55 rfl rfl (fun _ => rfl) (fun i3 e_i3 => ?_)
  obtain rfl : i3 = (5 : Int32) := e_i3
  refine r_iloadN X0 cx J33m48_58 rfl ?_
  refine r_iconst (4) X0 cx J33m48_59 rfl ?_
  refine r_iushr X0 cx J33m48_60 ?_
  refine r_top (v' := 7) (by decide) ?_
  refine r_istoreN (fun zz => #[.val (.int zz), .val (.int (5 : Int32))]) X0 cx J33m48_61 (fun _ => rfl) (fun i4 e_i4 => ?_)
  subst e_i4
  refine r_iloadN X0 cx J33m48_62 rfl ?_
  refine r_iconst (4) X0 cx J33m48_63 rfl ?_
  refine r_icmple X0 cx J33m48_64 (fun c => absurd c (by decide)) (fun _ => ?_)
  refine r_iinc (2 : Int32) (fun zz => #[.val (.int (7 : Int32)), .val (.int zz)]) X0 cx J33m48_67 rfl rfl (fun _ => rfl) (fun i5 e_i5 => ?_)
  obtain rfl : i5 = (7 : Int32) := e_i5
  refine r_iloadN X0 cx J33m48_70 rfl ?_
  refine r_iconst (2) X0 cx J33m48_71 rfl ?_
  refine r_iushr X0 cx J33m48_72 ?_
  refine r_top (v' := 1) (by decide) ?_
  refine r_istoreN (fun zz => #[.val (.int zz), .val (.int (7 : Int32))]) X0 cx J33m48_73 (fun _ => rfl) (fun i6 e_i6 => ?_)
  subst e_i6
  refine r_iloadN X0 cx J33m48_74 rfl ?_
  refine r_iloadN X0 cx J33m48_75 rfl ?_
  refine r_iconst (1) X0 cx J33m48_76 rfl ?_
  refine r_iushr X0 cx J33m48_77 ?_
  refine r_top (v' := 0) (by decide) ?_
  refine r_iadd X0 cx J33m48_78 ?_
  refine r_top (v' := 7) (by decide) ?_
  refine r_ireturn X0 cx J33m48_79 (by decide) (by decide) ?_
  exact ⟨rfl, rfl⟩
theorem ef_J33m48_8 (m : MethodId)  : entryFrame m #[(.int (256 : Int32))] 2 = mkF m 0 #[.val (.int (256 : Int32)), .unset] [] := by first | (simp [entryFrame, mkF, argsToLocals, Value.category]; done) | rfl
set_option maxRecDepth 65536 in
set_option maxHeartbeats 40000000 in
theorem con_J33m48_8 (l : Launch) (Z : State) (a0 : Array Value) (hw : Tb tables_1 a0 Z)  (h0 : Heap) (n0 : Nat) (Z0 : n0 ≤ h0.size)  :
    Con l Z (⟨"java/lang/Integer", "numberOfTrailingZeros", "(I)I"⟩ : MethodName) jdk_33_method_48_code 2 (some (.int)) ({ frames := 0, cells := 0, slots := 0, locals := 0 } : Room) #[(.int (256 : Int32))] h0 n0 (fun v h => h0 = h ∧ v = some (.int 8)) := by
  refine Con.of (plainFor_of_name (by decide +kernel)) Z0 ?_
  intro K hl hZ hn cx T0 X0
  subst hl hZ hn
  refine Run.cast (ef_J33m48_8 K.m ) ?_
  refine r_iloadN X0 cx J33m48_0 rfl ?_
  refine r_iconst (-1) X0 cx J33m48_1 rfl ?_
  refine r_ixor X0 cx J33m48_2 ?_
  refine r_top (v' := -257) (by decide) ?_
  refine r_iloadN X0 cx J33m48_3 rfl ?_
  refine r_iconst (1) X0 cx J33m48_4 rfl ?_
  refine r_isub X0 cx J33m48_5 ?_
  refine r_top (v' := 255) (by decide) ?_
  refine r_iand X0 cx J33m48_6 ?_
  refine r_top (v' := 255) (by decide) ?_
  refine r_istoreN (fun zz => #[.val (.int zz), .unset]) X0 cx J33m48_7 (fun _ => rfl) (fun i1 e_i1 => ?_)
  subst e_i1
  refine r_iloadN X0 cx J33m48_8 rfl ?_
  refine r_ifgt X0 cx J33m48_9 (fun _ => ?_) (fun c => absurd c (by decide))
  refine r_iconst (1) X0 cx J33m48_17 rfl ?_
  refine r_istoreN (fun zz => #[.val (.int (255 : Int32)), .val (.int zz)]) X0 cx J33m48_18 (fun _ => rfl) (fun i2 e_i2 => ?_)
  subst e_i2
  refine r_iloadN X0 cx J33m48_19 rfl ?_
  refine r_ldcW X0 cx J33m48_20 (hw.get 42 rfl) ?_
  refine r_icmple X0 cx J33m48_23 (fun _ => ?_) (fun c => absurd c (by decide))
  refine r_iloadN X0 cx J33m48_34 rfl ?_
  refine r_sipush (256) X0 cx J33m48_35 rfl ?_
  refine r_icmple X0 cx J33m48_38 (fun _ => ?_) (fun c => absurd c (by decide))
  refine r_iloadN X0 cx J33m48_49 rfl ?_
  refine r_bipush (16) X0 cx J33m48_50 rfl ?_
  refine r_icmple X0 cx J33m48_52 (fun c => absurd c (by decide)) (fun _ => ?_)
  refine r_iinc (4 : Int32) (fun zz => #[.val (.int (255 : Int32)), .val (.int zz)]) X0 cx J33m48_55 rfl rfl (fun _ => rfl) (fun i3 e_i3 => ?_)
  obtain rfl : i3 = (5 : Int32) := e_i3
  refine r_iloadN X0 cx J33m48_58 rfl ?_
  refine r_iconst (4) X0 cx J33m48_59 rfl ?_
  refine r_iushr X0 cx J33m48_60 ?_
  refine r_top (v' := 15) (by decide) ?_
  refine r_istoreN (fun zz => #[.val (.int zz), .val (.int (5 : Int32))]) X0 cx J33m48_61 (fun _ => rfl) (fun i4 e_i4 => ?_)
  subst e_i4
  refine r_iloadN X0 cx J33m48_62 rfl ?_
  refine r_iconst (4) X0 cx J33m48_63 rfl ?_
  refine r_icmple X0 cx J33m48_64 (fun c => absurd c (by decide)) (fun _ => ?_)
  refine r_iinc (2 : Int32) (fun zz => #[.val (.int (15 : Int32)), .val (.int zz)]) X0 cx J33m48_67 rfl rfl (fun _ => rfl) (fun i5 e_i5 => ?_)
  obtain rfl : i5 = (7 : Int32) := e_i5
  refine r_iloadN X0 cx J33m48_70 rfl ?_
  refine r_iconst (2) X0 cx J33m48_71 rfl ?_
  refine r_iushr X0 cx J33m48_72 ?_
  refine r_top (v' := 3) (by decide) ?_
  refine r_istoreN (fun zz => #[.val (.int zz), .val (.int (7 : Int32))]) X0 cx J33m48_73 (fun _ => rfl) (fun i6 e_i6 => ?_)
  subst e_i6
  refine r_iloadN X0 cx J33m48_74 rfl ?_
  refine r_iloadN X0 cx J33m48_75 rfl ?_
  refine r_iconst (1) X0 cx J33m48_76 rfl ?_
  refine r_iushr X0 cx J33m48_77 ?_
  refine r_top (v' := 1) (by decide) ?_
  refine r_iadd X0 cx J33m48_78 ?_
  refine r_top (v' := 8) (by decide) ?_
  refine r_ireturn X0 cx J33m48_79 (by decide) (by decide) ?_
  exact ⟨rfl, rfl⟩
theorem ef_J33m48_9 (m : MethodId)  : entryFrame m #[(.int (512 : Int32))] 2 = mkF m 0 #[.val (.int (512 : Int32)), .unset] [] := by first | (simp [entryFrame, mkF, argsToLocals, Value.category]; done) | rfl
set_option maxRecDepth 65536 in
set_option maxHeartbeats 40000000 in
theorem con_J33m48_9 (l : Launch) (Z : State) (a0 : Array Value) (hw : Tb tables_1 a0 Z)  (h0 : Heap) (n0 : Nat) (Z0 : n0 ≤ h0.size)  :
    Con l Z (⟨"java/lang/Integer", "numberOfTrailingZeros", "(I)I"⟩ : MethodName) jdk_33_method_48_code 2 (some (.int)) ({ frames := 0, cells := 0, slots := 0, locals := 0 } : Room) #[(.int (512 : Int32))] h0 n0 (fun v h => h0 = h ∧ v = some (.int 9)) := by
  refine Con.of (plainFor_of_name (by decide +kernel)) Z0 ?_
  intro K hl hZ hn cx T0 X0
  subst hl hZ hn
  refine Run.cast (ef_J33m48_9 K.m ) ?_
  refine r_iloadN X0 cx J33m48_0 rfl ?_
  refine r_iconst (-1) X0 cx J33m48_1 rfl ?_
  refine r_ixor X0 cx J33m48_2 ?_
  refine r_top (v' := -513) (by decide) ?_
  refine r_iloadN X0 cx J33m48_3 rfl ?_
  refine r_iconst (1) X0 cx J33m48_4 rfl ?_
  refine r_isub X0 cx J33m48_5 ?_
  refine r_top (v' := 511) (by decide) ?_
  refine r_iand X0 cx J33m48_6 ?_
  refine r_top (v' := 511) (by decide) ?_
  refine r_istoreN (fun zz => #[.val (.int zz), .unset]) X0 cx J33m48_7 (fun _ => rfl) (fun i1 e_i1 => ?_)
  subst e_i1
  refine r_iloadN X0 cx J33m48_8 rfl ?_
  refine r_ifgt X0 cx J33m48_9 (fun _ => ?_) (fun c => absurd c (by decide))
  refine r_iconst (1) X0 cx J33m48_17 rfl ?_
  refine r_istoreN (fun zz => #[.val (.int (511 : Int32)), .val (.int zz)]) X0 cx J33m48_18 (fun _ => rfl) (fun i2 e_i2 => ?_)
  subst e_i2
  refine r_iloadN X0 cx J33m48_19 rfl ?_
  refine r_ldcW X0 cx J33m48_20 (hw.get 42 rfl) ?_
  refine r_icmple X0 cx J33m48_23 (fun _ => ?_) (fun c => absurd c (by decide))
  refine r_iloadN X0 cx J33m48_34 rfl ?_
  refine r_sipush (256) X0 cx J33m48_35 rfl ?_
  refine r_icmple X0 cx J33m48_38 (fun c => absurd c (by decide)) (fun _ => ?_)
  refine r_iinc (8 : Int32) (fun zz => #[.val (.int (511 : Int32)), .val (.int zz)]) X0 cx J33m48_41 rfl rfl (fun _ => rfl) (fun i3 e_i3 => ?_)
  obtain rfl : i3 = (9 : Int32) := e_i3
  refine r_iloadN X0 cx J33m48_44 rfl ?_
  refine r_bipush (8) X0 cx J33m48_45 rfl ?_
  refine r_iushr X0 cx J33m48_47 ?_
  refine r_top (v' := 1) (by decide) ?_
  refine r_istoreN (fun zz => #[.val (.int zz), .val (.int (9 : Int32))]) X0 cx J33m48_48 (fun _ => rfl) (fun i4 e_i4 => ?_)
  subst e_i4
  refine r_iloadN X0 cx J33m48_49 rfl ?_
  refine r_bipush (16) X0 cx J33m48_50 rfl ?_
  refine r_icmple X0 cx J33m48_52 (fun _ => ?_) (fun c => absurd c (by decide))
  refine r_iloadN X0 cx J33m48_62 rfl ?_
  refine r_iconst (4) X0 cx J33m48_63 rfl ?_
  refine r_icmple X0 cx J33m48_64 (fun _ => ?_) (fun c => absurd c (by decide))
  refine r_iloadN X0 cx J33m48_74 rfl ?_
  refine r_iloadN X0 cx J33m48_75 rfl ?_
  refine r_iconst (1) X0 cx J33m48_76 rfl ?_
  refine r_iushr X0 cx J33m48_77 ?_
  refine r_top (v' := 0) (by decide) ?_
  refine r_iadd X0 cx J33m48_78 ?_
  refine r_top (v' := 9) (by decide) ?_
  refine r_ireturn X0 cx J33m48_79 (by decide) (by decide) ?_
  exact ⟨rfl, rfl⟩
theorem ef_J33m48_10 (m : MethodId)  : entryFrame m #[(.int (1024 : Int32))] 2 = mkF m 0 #[.val (.int (1024 : Int32)), .unset] [] := by first | (simp [entryFrame, mkF, argsToLocals, Value.category]; done) | rfl
set_option maxRecDepth 65536 in
set_option maxHeartbeats 40000000 in
theorem con_J33m48_10 (l : Launch) (Z : State) (a0 : Array Value) (hw : Tb tables_1 a0 Z)  (h0 : Heap) (n0 : Nat) (Z0 : n0 ≤ h0.size)  :
    Con l Z (⟨"java/lang/Integer", "numberOfTrailingZeros", "(I)I"⟩ : MethodName) jdk_33_method_48_code 2 (some (.int)) ({ frames := 0, cells := 0, slots := 0, locals := 0 } : Room) #[(.int (1024 : Int32))] h0 n0 (fun v h => h0 = h ∧ v = some (.int 10)) := by
  refine Con.of (plainFor_of_name (by decide +kernel)) Z0 ?_
  intro K hl hZ hn cx T0 X0
  subst hl hZ hn
  refine Run.cast (ef_J33m48_10 K.m ) ?_
  refine r_iloadN X0 cx J33m48_0 rfl ?_
  refine r_iconst (-1) X0 cx J33m48_1 rfl ?_
  refine r_ixor X0 cx J33m48_2 ?_
  refine r_top (v' := -1025) (by decide) ?_
  refine r_iloadN X0 cx J33m48_3 rfl ?_
  refine r_iconst (1) X0 cx J33m48_4 rfl ?_
  refine r_isub X0 cx J33m48_5 ?_
  refine r_top (v' := 1023) (by decide) ?_
  refine r_iand X0 cx J33m48_6 ?_
  refine r_top (v' := 1023) (by decide) ?_
  refine r_istoreN (fun zz => #[.val (.int zz), .unset]) X0 cx J33m48_7 (fun _ => rfl) (fun i1 e_i1 => ?_)
  subst e_i1
  refine r_iloadN X0 cx J33m48_8 rfl ?_
  refine r_ifgt X0 cx J33m48_9 (fun _ => ?_) (fun c => absurd c (by decide))
  refine r_iconst (1) X0 cx J33m48_17 rfl ?_
  refine r_istoreN (fun zz => #[.val (.int (1023 : Int32)), .val (.int zz)]) X0 cx J33m48_18 (fun _ => rfl) (fun i2 e_i2 => ?_)
  subst e_i2
  refine r_iloadN X0 cx J33m48_19 rfl ?_
  refine r_ldcW X0 cx J33m48_20 (hw.get 42 rfl) ?_
  refine r_icmple X0 cx J33m48_23 (fun _ => ?_) (fun c => absurd c (by decide))
  refine r_iloadN X0 cx J33m48_34 rfl ?_
  refine r_sipush (256) X0 cx J33m48_35 rfl ?_
  refine r_icmple X0 cx J33m48_38 (fun c => absurd c (by decide)) (fun _ => ?_)
  refine r_iinc (8 : Int32) (fun zz => #[.val (.int (1023 : Int32)), .val (.int zz)]) X0 cx J33m48_41 rfl rfl (fun _ => rfl) (fun i3 e_i3 => ?_)
  obtain rfl : i3 = (9 : Int32) := e_i3
  refine r_iloadN X0 cx J33m48_44 rfl ?_
  refine r_bipush (8) X0 cx J33m48_45 rfl ?_
  refine r_iushr X0 cx J33m48_47 ?_
  refine r_top (v' := 3) (by decide) ?_
  refine r_istoreN (fun zz => #[.val (.int zz), .val (.int (9 : Int32))]) X0 cx J33m48_48 (fun _ => rfl) (fun i4 e_i4 => ?_)
  subst e_i4
  refine r_iloadN X0 cx J33m48_49 rfl ?_
  refine r_bipush (16) X0 cx J33m48_50 rfl ?_
  refine r_icmple X0 cx J33m48_52 (fun _ => ?_) (fun c => absurd c (by decide))
  refine r_iloadN X0 cx J33m48_62 rfl ?_
  refine r_iconst (4) X0 cx J33m48_63 rfl ?_
  refine r_icmple X0 cx J33m48_64 (fun _ => ?_) (fun c => absurd c (by decide))
  refine r_iloadN X0 cx J33m48_74 rfl ?_
  refine r_iloadN X0 cx J33m48_75 rfl ?_
  refine r_iconst (1) X0 cx J33m48_76 rfl ?_
  refine r_iushr X0 cx J33m48_77 ?_
  refine r_top (v' := 1) (by decide) ?_
  refine r_iadd X0 cx J33m48_78 ?_
  refine r_top (v' := 10) (by decide) ?_
  refine r_ireturn X0 cx J33m48_79 (by decide) (by decide) ?_
  exact ⟨rfl, rfl⟩
theorem ef_J33m48_11 (m : MethodId)  : entryFrame m #[(.int (2048 : Int32))] 2 = mkF m 0 #[.val (.int (2048 : Int32)), .unset] [] := by first | (simp [entryFrame, mkF, argsToLocals, Value.category]; done) | rfl
set_option maxRecDepth 65536 in
set_option maxHeartbeats 40000000 in
theorem con_J33m48_11 (l : Launch) (Z : State) (a0 : Array Value) (hw : Tb tables_1 a0 Z)  (h0 : Heap) (n0 : Nat) (Z0 : n0 ≤ h0.size)  :
    Con l Z (⟨"java/lang/Integer", "numberOfTrailingZeros", "(I)I"⟩ : MethodName) jdk_33_method_48_code 2 (some (.int)) ({ frames := 0, cells := 0, slots := 0, locals := 0 } : Room) #[(.int (2048 : Int32))] h0 n0 (fun v h => h0 = h ∧ v = some (.int 11)) := by
  refine Con.of (plainFor_of_name (by decide +kernel)) Z0 ?_
  intro K hl hZ hn cx T0 X0
  subst hl hZ hn
  refine Run.cast (ef_J33m48_11 K.m ) ?_
  refine r_iloadN X0 cx J33m48_0 rfl ?_
  refine r_iconst (-1) X0 cx J33m48_1 rfl ?_
  refine r_ixor X0 cx J33m48_2 ?_
  refine r_top (v' := -2049) (by decide) ?_
  refine r_iloadN X0 cx J33m48_3 rfl ?_
  refine r_iconst (1) X0 cx J33m48_4 rfl ?_
  refine r_isub X0 cx J33m48_5 ?_
  refine r_top (v' := 2047) (by decide) ?_
  refine r_iand X0 cx J33m48_6 ?_
  refine r_top (v' := 2047) (by decide) ?_
  refine r_istoreN (fun zz => #[.val (.int zz), .unset]) X0 cx J33m48_7 (fun _ => rfl) (fun i1 e_i1 => ?_)
  subst e_i1
  refine r_iloadN X0 cx J33m48_8 rfl ?_
  refine r_ifgt X0 cx J33m48_9 (fun _ => ?_) (fun c => absurd c (by decide))
  refine r_iconst (1) X0 cx J33m48_17 rfl ?_
  refine r_istoreN (fun zz => #[.val (.int (2047 : Int32)), .val (.int zz)]) X0 cx J33m48_18 (fun _ => rfl) (fun i2 e_i2 => ?_)
  subst e_i2
  refine r_iloadN X0 cx J33m48_19 rfl ?_
  refine r_ldcW X0 cx J33m48_20 (hw.get 42 rfl) ?_
  refine r_icmple X0 cx J33m48_23 (fun _ => ?_) (fun c => absurd c (by decide))
  refine r_iloadN X0 cx J33m48_34 rfl ?_
  refine r_sipush (256) X0 cx J33m48_35 rfl ?_
  refine r_icmple X0 cx J33m48_38 (fun c => absurd c (by decide)) (fun _ => ?_)
  refine r_iinc (8 : Int32) (fun zz => #[.val (.int (2047 : Int32)), .val (.int zz)]) X0 cx J33m48_41 rfl rfl (fun _ => rfl) (fun i3 e_i3 => ?_)
  obtain rfl : i3 = (9 : Int32) := e_i3
  refine r_iloadN X0 cx J33m48_44 rfl ?_
  refine r_bipush (8) X0 cx J33m48_45 rfl ?_
  refine r_iushr X0 cx J33m48_47 ?_
  refine r_top (v' := 7) (by decide) ?_
  refine r_istoreN (fun zz => #[.val (.int zz), .val (.int (9 : Int32))]) X0 cx J33m48_48 (fun _ => rfl) (fun i4 e_i4 => ?_)
  subst e_i4
  refine r_iloadN X0 cx J33m48_49 rfl ?_
  refine r_bipush (16) X0 cx J33m48_50 rfl ?_
  refine r_icmple X0 cx J33m48_52 (fun _ => ?_) (fun c => absurd c (by decide))
  refine r_iloadN X0 cx J33m48_62 rfl ?_
  refine r_iconst (4) X0 cx J33m48_63 rfl ?_
  refine r_icmple X0 cx J33m48_64 (fun c => absurd c (by decide)) (fun _ => ?_)
  refine r_iinc (2 : Int32) (fun zz => #[.val (.int (7 : Int32)), .val (.int zz)]) X0 cx J33m48_67 rfl rfl (fun _ => rfl) (fun i5 e_i5 => ?_)
  obtain rfl : i5 = (11 : Int32) := e_i5
  refine r_iloadN X0 cx J33m48_70 rfl ?_
  refine r_iconst (2) X0 cx J33m48_71 rfl ?_
  refine r_iushr X0 cx J33m48_72 ?_
  refine r_top (v' := 1) (by decide) ?_
  refine r_istoreN (fun zz => #[.val (.int zz), .val (.int (11 : Int32))]) X0 cx J33m48_73 (fun _ => rfl) (fun i6 e_i6 => ?_)
  subst e_i6
  refine r_iloadN X0 cx J33m48_74 rfl ?_
  refine r_iloadN X0 cx J33m48_75 rfl ?_
  refine r_iconst (1) X0 cx J33m48_76 rfl ?_
  refine r_iushr X0 cx J33m48_77 ?_
  refine r_top (v' := 0) (by decide) ?_
  refine r_iadd X0 cx J33m48_78 ?_
  refine r_top (v' := 11) (by decide) ?_
  refine r_ireturn X0 cx J33m48_79 (by decide) (by decide) ?_
  exact ⟨rfl, rfl⟩
theorem ef_J33m48_12 (m : MethodId)  : entryFrame m #[(.int (4096 : Int32))] 2 = mkF m 0 #[.val (.int (4096 : Int32)), .unset] [] := by first | (simp [entryFrame, mkF, argsToLocals, Value.category]; done) | rfl
set_option maxRecDepth 65536 in
set_option maxHeartbeats 40000000 in
theorem con_J33m48_12 (l : Launch) (Z : State) (a0 : Array Value) (hw : Tb tables_1 a0 Z)  (h0 : Heap) (n0 : Nat) (Z0 : n0 ≤ h0.size)  :
    Con l Z (⟨"java/lang/Integer", "numberOfTrailingZeros", "(I)I"⟩ : MethodName) jdk_33_method_48_code 2 (some (.int)) ({ frames := 0, cells := 0, slots := 0, locals := 0 } : Room) #[(.int (4096 : Int32))] h0 n0 (fun v h => h0 = h ∧ v = some (.int 12)) := by
  refine Con.of (plainFor_of_name (by decide +kernel)) Z0 ?_
  intro K hl hZ hn cx T0 X0
  subst hl hZ hn
  refine Run.cast (ef_J33m48_12 K.m ) ?_
  refine r_iloadN X0 cx J33m48_0 rfl ?_
  refine r_iconst (-1) X0 cx J33m48_1 rfl ?_
  refine r_ixor X0 cx J33m48_2 ?_
  refine r_top (v' := -4097) (by decide) ?_
  refine r_iloadN X0 cx J33m48_3 rfl ?_
  refine r_iconst (1) X0 cx J33m48_4 rfl ?_
  refine r_isub X0 cx J33m48_5 ?_
  refine r_top (v' := 4095) (by decide) ?_
  refine r_iand X0 cx J33m48_6 ?_
  refine r_top (v' := 4095) (by decide) ?_
  refine r_istoreN (fun zz => #[.val (.int zz), .unset]) X0 cx J33m48_7 (fun _ => rfl) (fun i1 e_i1 => ?_)
  subst e_i1
  refine r_iloadN X0 cx J33m48_8 rfl ?_
  refine r_ifgt X0 cx J33m48_9 (fun _ => ?_) (fun c => absurd c (by decide))
  refine r_iconst (1) X0 cx J33m48_17 rfl ?_
  refine r_istoreN (fun zz => #[.val (.int (4095 : Int32)), .val (.int zz)]) X0 cx J33m48_18 (fun _ => rfl) (fun i2 e_i2 => ?_)
  subst e_i2
  refine r_iloadN X0 cx J33m48_19 rfl ?_
  refine r_ldcW X0 cx J33m48_20 (hw.get 42 rfl) ?_
  refine r_icmple X0 cx J33m48_23 (fun _ => ?_) (fun c => absurd c (by decide))
  refine r_iloadN X0 cx J33m48_34 rfl ?_
  refine r_sipush (256) X0 cx J33m48_35 rfl ?_
  refine r_icmple X0 cx J33m48_38 (fun c => absurd c (by decide)) (fun _ => ?_)
  refine r_iinc (8 : Int32) (fun zz => #[.val (.int (4095 : Int32)), .val (.int zz)]) X0 cx J33m48_41 rfl rfl (fun _ => rfl) (fun i3 e_i3 => ?_)
  obtain rfl : i3 = (9 : Int32) := e_i3
  refine r_iloadN X0 cx J33m48_44 rfl ?_
  refine r_bipush (8) X0 cx J33m48_45 rfl ?_
  refine r_iushr X0 cx J33m48_47 ?_
  refine r_top (v' := 15) (by decide) ?_
  refine r_istoreN (fun zz => #[.val (.int zz), .val (.int (9 : Int32))]) X0 cx J33m48_48 (fun _ => rfl) (fun i4 e_i4 => ?_)
  subst e_i4
  refine r_iloadN X0 cx J33m48_49 rfl ?_
  refine r_bipush (16) X0 cx J33m48_50 rfl ?_
  refine r_icmple X0 cx J33m48_52 (fun _ => ?_) (fun c => absurd c (by decide))
  refine r_iloadN X0 cx J33m48_62 rfl ?_
  refine r_iconst (4) X0 cx J33m48_63 rfl ?_
  refine r_icmple X0 cx J33m48_64 (fun c => absurd c (by decide)) (fun _ => ?_)
  refine r_iinc (2 : Int32) (fun zz => #[.val (.int (15 : Int32)), .val (.int zz)]) X0 cx J33m48_67 rfl rfl (fun _ => rfl) (fun i5 e_i5 => ?_)
  obtain rfl : i5 = (11 : Int32) := e_i5
  refine r_iloadN X0 cx J33m48_70 rfl ?_
  refine r_iconst (2) X0 cx J33m48_71 rfl ?_
  refine r_iushr X0 cx J33m48_72 ?_
  refine r_top (v' := 3) (by decide) ?_
  refine r_istoreN (fun zz => #[.val (.int zz), .val (.int (11 : Int32))]) X0 cx J33m48_73 (fun _ => rfl) (fun i6 e_i6 => ?_)
  subst e_i6
  refine r_iloadN X0 cx J33m48_74 rfl ?_
  refine r_iloadN X0 cx J33m48_75 rfl ?_
  refine r_iconst (1) X0 cx J33m48_76 rfl ?_
  refine r_iushr X0 cx J33m48_77 ?_
  refine r_top (v' := 1) (by decide) ?_
  refine r_iadd X0 cx J33m48_78 ?_
  refine r_top (v' := 12) (by decide) ?_
  refine r_ireturn X0 cx J33m48_79 (by decide) (by decide) ?_
  exact ⟨rfl, rfl⟩
theorem ef_J33m48_13 (m : MethodId)  : entryFrame m #[(.int (8192 : Int32))] 2 = mkF m 0 #[.val (.int (8192 : Int32)), .unset] [] := by first | (simp [entryFrame, mkF, argsToLocals, Value.category]; done) | rfl
set_option maxRecDepth 65536 in
set_option maxHeartbeats 40000000 in
theorem con_J33m48_13 (l : Launch) (Z : State) (a0 : Array Value) (hw : Tb tables_1 a0 Z)  (h0 : Heap) (n0 : Nat) (Z0 : n0 ≤ h0.size)  :
    Con l Z (⟨"java/lang/Integer", "numberOfTrailingZeros", "(I)I"⟩ : MethodName) jdk_33_method_48_code 2 (some (.int)) ({ frames := 0, cells := 0, slots := 0, locals := 0 } : Room) #[(.int (8192 : Int32))] h0 n0 (fun v h => h0 = h ∧ v = some (.int 13)) := by
  refine Con.of (plainFor_of_name (by decide +kernel)) Z0 ?_
  intro K hl hZ hn cx T0 X0
  subst hl hZ hn
  refine Run.cast (ef_J33m48_13 K.m ) ?_
  refine r_iloadN X0 cx J33m48_0 rfl ?_
  refine r_iconst (-1) X0 cx J33m48_1 rfl ?_
  refine r_ixor X0 cx J33m48_2 ?_
  refine r_top (v' := -8193) (by decide) ?_
  refine r_iloadN X0 cx J33m48_3 rfl ?_
  refine r_iconst (1) X0 cx J33m48_4 rfl ?_
  refine r_isub X0 cx J33m48_5 ?_
  refine r_top (v' := 8191) (by decide) ?_
  refine r_iand X0 cx J33m48_6 ?_
  refine r_top (v' := 8191) (by decide) ?_
  refine r_istoreN (fun zz => #[.val (.int zz), .unset]) X0 cx J33m48_7 (fun _ => rfl) (fun i1 e_i1 => ?_)
  subst e_i1
  refine r_iloadN X0 cx J33m48_8 rfl ?_
  refine r_ifgt X0 cx J33m48_9 (fun _ => ?_) (fun c => absurd c (by decide))
  refine r_iconst (1) X0 cx J33m48_17 rfl ?_
  refine r_istoreN (fun zz => #[.val (.int (8191 : Int32)), .val (.int zz)]) X0 cx J33m48_18 (fun _ => rfl) (fun i2 e_i2 => ?_)
  subst e_i2
  refine r_iloadN X0 cx J33m48_19 rfl ?_
  refine r_ldcW X0 cx J33m48_20 (hw.get 42 rfl) ?_
  refine r_icmple X0 cx J33m48_23 (fun _ => ?_) (fun c => absurd c (by decide))
  refine r_iloadN X0 cx J33m48_34 rfl ?_
  refine r_sipush (256) X0 cx J33m48_35 rfl ?_
  refine r_icmple X0 cx J33m48_38 (fun c => absurd c (by decide)) (fun _ => ?_)
  refine r_iinc (8 : Int32) (fun zz => #[.val (.int (8191 : Int32)), .val (.int zz)]) X0 cx J33m48_41 rfl rfl (fun _ => rfl) (fun i3 e_i3 => ?_)
  obtain rfl : i3 = (9 : Int32) := e_i3
  refine r_iloadN X0 cx J33m48_44 rfl ?_
  refine r_bipush (8) X0 cx J33m48_45 rfl ?_
  refine r_iushr X0 cx J33m48_47 ?_
  refine r_top (v' := 31) (by decide) ?_
  refine r_istoreN (fun zz => #[.val (.int zz), .val (.int (9 : Int32))]) X0 cx J33m48_48 (fun _ => rfl) (fun i4 e_i4 => ?_)
  subst e_i4
  refine r_iloadN X0 cx J33m48_49 rfl ?_
  refine r_bipush (16) X0 cx J33m48_50 rfl ?_
  refine r_icmple X0 cx J33m48_52 (fun c => absurd c (by decide)) (fun _ => ?_)
  refine r_iinc (4 : Int32) (fun zz => #[.val (.int (31 : Int32)), .val (.int zz)]) X0 cx J33m48_55 rfl rfl (fun _ => rfl) (fun i5 e_i5 => ?_)
  obtain rfl : i5 = (13 : Int32) := e_i5
  refine r_iloadN X0 cx J33m48_58 rfl ?_
  refine r_iconst (4) X0 cx J33m48_59 rfl ?_
  refine r_iushr X0 cx J33m48_60 ?_
  refine r_top (v' := 1) (by decide) ?_
  refine r_istoreN (fun zz => #[.val (.int zz), .val (.int (13 : Int32))]) X0 cx J33m48_61 (fun _ => rfl) (fun i6 e_i6 => ?_)
  subst e_i6
  refine r_iloadN X0 cx J33m48_62 rfl ?_
  refine r_iconst (4) X0 cx J33m48_63 rfl ?_
  refine r_icmple X0 cx J33m48_64 (fun _ => ?_) (fun c => absurd c (by decide))
  refine r_iloadN X0 cx J33m48_74 rfl ?_
  refine r_iloadN X0 cx J33m48_75 rfl ?_
  refine r_iconst (1) X0 cx J33m48_76 rfl ?_
  refine r_iushr X0 cx J33m48_77 ?_
  refine r_top (v' := 0) (by decide) ?_
  refine r_iadd X0 cx J33m48_78 ?_
  refine r_top (v' := 13) (by decide) ?_
  refine r_ireturn X0 cx J33m48_79 (by decide) (by decide) ?_
  exact ⟨rfl, rfl⟩
theorem ef_J33m48_14 (m : MethodId)  : entryFrame m #[(.int (16384 : Int32))] 2 = mkF m 0 #[.val (.int (16384 : Int32)), .unset] [] := by first | (simp [entryFrame, mkF, argsToLocals, Value.category]; done) | rfl
set_option maxRecDepth 65536 in
set_option maxHeartbeats 40000000 in
theorem con_J33m48_14 (l : Launch) (Z : State) (a0 : Array Value) (hw : Tb tables_1 a0 Z)  (h0 : Heap) (n0 : Nat) (Z0 : n0 ≤ h0.size)  :
    Con l Z (⟨"java/lang/Integer", "numberOfTrailingZeros", "(I)I"⟩ : MethodName) jdk_33_method_48_code 2 (some (.int)) ({ frames := 0, cells := 0, slots := 0, locals := 0 } : Room) #[(.int (16384 : Int32))] h0 n0 (fun v h => h0 = h ∧ v = some (.int 14)) := by
  refine Con.of (plainFor_of_name (by decide +kernel)) Z0 ?_
  intro K hl hZ hn cx T0 X0
  subst hl hZ hn
  refine Run.cast (ef_J33m48_14 K.m ) ?_
  refine r_iloadN X0 cx J33m48_0 rfl ?_
  refine r_iconst (-1) X0 cx J33m48_1 rfl ?_
  refine r_ixor X0 cx J33m48_2 ?_
  refine r_top (v' := -16385) (by decide) ?_
  refine r_iloadN X0 cx J33m48_3 rfl ?_
  refine r_iconst (1) X0 cx J33m48_4 rfl ?_
  refine r_isub X0 cx J33m48_5 ?_
  refine r_top (v' := 16383) (by decide) ?_
  refine r_iand X0 cx J33m48_6 ?_
  refine r_top (v' := 16383) (by decide) ?_
  refine r_istoreN (fun zz => #[.val (.int zz), .unset]) X0 cx J33m48_7 (fun _ => rfl) (fun i1 e_i1 => ?_)
  subst e_i1
  refine r_iloadN X0 cx J33m48_8 rfl ?_
  refine r_ifgt X0 cx J33m48_9 (fun _ => ?_) (fun c => absurd c (by decide))
  refine r_iconst (1) X0 cx J33m48_17 rfl ?_
  refine r_istoreN (fun zz => #[.val (.int (16383 : Int32)), .val (.int zz)]) X0 cx J33m48_18 (fun _ => rfl) (fun i2 e_i2 => ?_)
  subst e_i2
  refine r_iloadN X0 cx J33m48_19 rfl ?_
  refine r_ldcW X0 cx J33m48_20 (hw.get 42 rfl) ?_
  refine r_icmple X0 cx J33m48_23 (fun _ => ?_) (fun c => absurd c (by decide))
  refine r_iloadN X0 cx J33m48_34 rfl ?_
  refine r_sipush (256) X0 cx J33m48_35 rfl ?_
  refine r_icmple X0 cx J33m48_38 (fun c => absurd c (by decide)) (fun _ => ?_)
  refine r_iinc (8 : Int32) (fun zz => #[.val (.int (16383 : Int32)), .val (.int zz)]) X0 cx J33m48_41 rfl rfl (fun _ => rfl) (fun i3 e_i3 => ?_)
  obtain rfl : i3 = (9 : Int32) := e_i3
  refine r_iloadN X0 cx J33m48_44 rfl ?_
  refine r_bipush (8) X0 cx J33m48_45 rfl ?_
  refine r_iushr X0 cx J33m48_47 ?_
  refine r_top (v' := 63) (by decide) ?_
  refine r_istoreN (fun zz => #[.val (.int zz), .val (.int (9 : Int32))]) X0 cx J33m48_48 (fun _ => rfl) (fun i4 e_i4 => ?_)
  subst e_i4
  refine r_iloadN X0 cx J33m48_49 rfl ?_
  refine r_bipush (16) X0 cx J33m48_50 rfl ?_
  refine r_icmple X0 cx J33m48_52 (fun c => absurd c (by decide)) (fun _ => ?_)
  refine r_iinc (4 : Int32) (fun zz => #[.val (.int (63 : Int32)), .val (.int zz)]) X0 cx J33m48_55 rfl rfl (fun _ => rfl) (fun i5 e_i5 => ?_)
  obtain rfl : i5 = (13 : Int32) := e_i5
  refine r_iloadN X0 cx J33m48_58 rfl ?_
  refine r_iconst (4) X0 cx J33m48_59 rfl ?_
  refine r_iushr X0 cx J33m48_60 ?_
  refine r_top (v' := 3) (by decide) ?_
  refine r_istoreN (fun zz => #[.val (.int zz), .val (.int (13 : Int32))]) X0 cx J33m48_61 (fun _ => rfl) (fun i6 e_i6 => ?_)
  subst e_i6
  refine r_iloadN X0 cx J33m48_62 rfl ?_
  refine r_iconst (4) X0 cx J33m48_63 rfl ?_
  refine r_icmple X0 cx J33m48_64 (fun _ => ?_) (fun c => absurd c (by decide))
  refine r_iloadN X0 cx J33m48_74 rfl ?_
  refine r_iloadN X0 cx J33m48_75 rfl ?_
  refine r_iconst (1) X0 cx J33m48_76 rfl ?_
  refine r_iushr X0 cx J33m48_77 ?_
  refine r_top (v' := 1) (by decide) ?_
  refine r_iadd X0 cx J33m48_78 ?_
  refine r_top (v' := 14) (by decide) ?_
  refine r_ireturn X0 cx J33m48_79 (by decide) (by decide) ?_
  exact ⟨rfl, rfl⟩
theorem ef_J33m48_15 (m : MethodId)  : entryFrame m #[(.int (32768 : Int32))] 2 = mkF m 0 #[.val (.int (32768 : Int32)), .unset] [] := by first | (simp [entryFrame, mkF, argsToLocals, Value.category]; done) | rfl
set_option maxRecDepth 65536 in
set_option maxHeartbeats 40000000 in
theorem con_J33m48_15 (l : Launch) (Z : State) (a0 : Array Value) (hw : Tb tables_1 a0 Z)  (h0 : Heap) (n0 : Nat) (Z0 : n0 ≤ h0.size)  :
    Con l Z (⟨"java/lang/Integer", "numberOfTrailingZeros", "(I)I"⟩ : MethodName) jdk_33_method_48_code 2 (some (.int)) ({ frames := 0, cells := 0, slots := 0, locals := 0 } : Room) #[(.int (32768 : Int32))] h0 n0 (fun v h => h0 = h ∧ v = some (.int 15)) := by
  refine Con.of (plainFor_of_name (by decide +kernel)) Z0 ?_
  intro K hl hZ hn cx T0 X0
  subst hl hZ hn
  refine Run.cast (ef_J33m48_15 K.m ) ?_
  refine r_iloadN X0 cx J33m48_0 rfl ?_
  refine r_iconst (-1) X0 cx J33m48_1 rfl ?_
  refine r_ixor X0 cx J33m48_2 ?_
  refine r_top (v' := -32769) (by decide) ?_
  refine r_iloadN X0 cx J33m48_3 rfl ?_
  refine r_iconst (1) X0 cx J33m48_4 rfl ?_
  refine r_isub X0 cx J33m48_5 ?_
  refine r_top (v' := 32767) (by decide) ?_
  refine r_iand X0 cx J33m48_6 ?_
  refine r_top (v' := 32767) (by decide) ?_
  refine r_istoreN (fun zz => #[.val (.int zz), .unset]) X0 cx J33m48_7 (fun _ => rfl) (fun i1 e_i1 => ?_)
  subst e_i1
  refine r_iloadN X0 cx J33m48_8 rfl ?_
  refine r_ifgt X0 cx J33m48_9 (fun _ => ?_) (fun c => absurd c (by decide))
  refine r_iconst (1) X0 cx J33m48_17 rfl ?_
  refine r_istoreN (fun zz => #[.val (.int (32767 : Int32)), .val (.int zz)]) X0 cx J33m48_18 (fun _ => rfl) (fun i2 e_i2 => ?_)
  subst e_i2
  refine r_iloadN X0 cx J33m48_19 rfl ?_
  refine r_ldcW X0 cx J33m48_20 (hw.get 42 rfl) ?_
  refine r_icmple X0 cx J33m48_23 (fun _ => ?_) (fun c => absurd c (by decide))
  refine r_iloadN X0 cx J33m48_34 rfl ?_
  refine r_sipush (256) X0 cx J33m48_35 rfl ?_
  refine r_icmple X0 cx J33m48_38 (fun c => absurd c (by decide)) (fun _ => ?_)
  refine r_iinc (8 : Int32) (fun zz => #[.val (.int (32767 : Int32)), .val (.int zz)]) X0 cx J33m48_41 rfl rfl (fun _ => rfl) (fun i3 e_i3 => ?_)
  obtain rfl : i3 = (9 : Int32) := e_i3
  refine r_iloadN X0 cx J33m48_44 rfl ?_
  refine r_bipush (8) X0 cx J33m48_45 rfl ?_
  refine r_iushr X0 cx J33m48_47 ?_
  refine r_top (v' := 127) (by decide) ?_
  refine r_istoreN (fun zz => #[.val (.int zz), .val (.int (9 : Int32))]) X0 cx J33m48_48 (fun _ => rfl) (fun i4 e_i4 => ?_)
  subst e_i4
  refine r_iloadN X0 cx J33m48_49 rfl ?_
  refine r_bipush (16) X0 cx J33m48_50 rfl ?_
  refine r_icmple X0 cx J33m48_52 (fun c => absurd c (by decide)) (fun _ => ?_)
  refine r_iinc (4 : Int32) (fun zz => #[.val (.int (127 : Int32)), .val (.int zz)]) X0 cx J33m48_55 rfl rfl (fun _ => rfl) (fun i5 e_i5 => ?_)
  obtain rfl : i5 = (13 : Int32) := e_i5
  refine r_iloadN X0 cx J33m48_58 rfl ?_
  refine r_iconst (4) X0 cx J33m48_59 rfl ?_
  refine r_iushr X0 cx J33m48_60 ?_
  refine r_top (v' := 7) (by decide) ?_
  refine r_istoreN (fun zz => #[.val (.int zz), .val (.int (13 : Int32))]) X0 cx J33m48_61 (fun _ => rfl) (fun i6 e_i6 => ?_)
  subst e_i6
  refine r_iloadN X0 cx J33m48_62 rfl ?_
  refine r_iconst (4) X0 cx J33m48_63 rfl ?_
  refine r_icmple X0 cx J33m48_64 (fun c => absurd c (by decide)) (fun _ => ?_)
  refine r_iinc (2 : Int32) (fun zz => #[.val (.int (7 : Int32)), .val (.int zz)]) X0 cx J33m48_67 rfl rfl (fun _ => rfl) (fun i7 e_i7 => ?_)
  obtain rfl : i7 = (15 : Int32) := e_i7
  refine r_iloadN X0 cx J33m48_70 rfl ?_
  refine r_iconst (2) X0 cx J33m48_71 rfl ?_
  refine r_iushr X0 cx J33m48_72 ?_
  refine r_top (v' := 1) (by decide) ?_
  refine r_istoreN (fun zz => #[.val (.int zz), .val (.int (15 : Int32))]) X0 cx J33m48_73 (fun _ => rfl) (fun i8 e_i8 => ?_)
  subst e_i8
  refine r_iloadN X0 cx J33m48_74 rfl ?_
  refine r_iloadN X0 cx J33m48_75 rfl ?_
  refine r_iconst (1) X0 cx J33m48_76 rfl ?_
  refine r_iushr X0 cx J33m48_77 ?_
  refine r_top (v' := 0) (by decide) ?_
  refine r_iadd X0 cx J33m48_78 ?_
  refine r_top (v' := 15) (by decide) ?_
  refine r_ireturn X0 cx J33m48_79 (by decide) (by decide) ?_
  exact ⟨rfl, rfl⟩
theorem ef_J33m48_16 (m : MethodId)  : entryFrame m #[(.int (65536 : Int32))] 2 = mkF m 0 #[.val (.int (65536 : Int32)), .unset] [] := by first | (simp [entryFrame, mkF, argsToLocals, Value.category]; done) | rfl
set_option maxRecDepth 65536 in
set_option maxHeartbeats 40000000 in
theorem con_J33m48_16 (l : Launch) (Z : State) (a0 : Array Value) (hw : Tb tables_1 a0 Z)  (h0 : Heap) (n0 : Nat) (Z0 : n0 ≤ h0.size)  :
    Con l Z (⟨"java/lang/Integer", "numberOfTrailingZeros", "(I)I"⟩ : MethodName) jdk_33_method_48_code 2 (some (.int)) ({ frames := 0, cells := 0, slots := 0, locals := 0 } : Room) #[(.int (65536 : Int32))] h0 n0 (fun v h => h0 = h ∧ v = some (.int 16)) := by
  refine Con.of (plainFor_of_name (by decide +kernel)) Z0 ?_
  intro K hl hZ hn cx T0 X0
  subst hl hZ hn
  refine Run.cast (ef_J33m48_16 K.m ) ?_
  refine r_iloadN X0 cx J33m48_0 rfl ?_
  refine r_iconst (-1) X0 cx J33m48_1 rfl ?_
  refine r_ixor X0 cx J33m48_2 ?_
  refine r_top (v' := -65537) (by decide) ?_
  refine r_iloadN X0 cx J33m48_3 rfl ?_
  refine r_iconst (1) X0 cx J33m48_4 rfl ?_
  refine r_isub X0 cx J33m48_5 ?_
  refine r_top (v' := 65535) (by decide) ?_
  refine r_iand X0 cx J33m48_6 ?_
  refine r_top (v' := 65535) (by decide) ?_
  refine r_istoreN (fun zz => #[.val (.int zz), .unset]) X0 cx J33m48_7 (fun _ => rfl) (fun i1 e_i1 => ?_)
  subst e_i1
  refine r_iloadN X0 cx J33m48_8 rfl ?_
  refine r_ifgt X0 cx J33m48_9 (fun _ => ?_) (fun c => absurd c (by decide))
  refine r_iconst (1) X0 cx J33m48_17 rfl ?_
  refine r_istoreN (fun zz => #[.val (.int (65535 : Int32)), .val (.int zz)]) X0 cx J33m48_18 (fun _ => rfl) (fun i2 e_i2 => ?_)
  subst e_i2
  refine r_iloadN X0 cx J33m48_19 rfl ?_
  refine r_ldcW X0 cx J33m48_20 (hw.get 42 rfl) ?_
  refine r_icmple X0 cx J33m48_23 (fun _ => ?_) (fun c => absurd c (by decide))
  refine r_iloadN X0 cx J33m48_34 rfl ?_
  refine r_sipush (256) X0 cx J33m48_35 rfl ?_
  refine r_icmple X0 cx J33m48_38 (fun c => absurd c (by decide)) (fun _ => ?_)
  refine r_iinc (8 : Int32) (fun zz => #[.val (.int (65535 : Int32)), .val (.int zz)]) X0 cx J33m48_41 rfl rfl (fun _ => rfl) (fun i3 e_i3 => ?_)
  obtain rfl : i3 = (9 : Int32) := e_i3
  refine r_iloadN X0 cx J33m48_44 rfl ?_
  refine r_bipush (8) X0 cx J33m48_45 rfl ?_
  refine r_iushr X0 cx J33m48_47 ?_
  refine r_top (v' := 255) (by decide) ?_
  refine r_istoreN (fun zz => #[.val (.int zz), .val (.int (9 : Int32))]) X0 cx J33m48_48 (fun _ => rfl) (fun i4 e_i4 => ?_)
  subst e_i4
  refine r_iloadN X0 cx J33m48_49 rfl ?_
  refine r_bipush (16) X0 cx J33m48_50 rfl ?_
  refine r_icmple X0 cx J33m48_52 (fun c => absurd c (by decide)) (fun _ => ?_)
  refine r_iinc (4 : Int32) (fun zz => #[.val (.int (255 : Int32)), .val (.int zz)]) X0 cx J33m48_55 rfl rfl (fun _ => rfl) (fun i5 e_i5 => ?_)
  obtain rfl : i5 = (13 : Int32) := e_i5
  refine r_iloadN X0 cx J33m48_58 rfl ?_
  refine r_iconst (4) X0 cx J33m48_59 rfl ?_
  refine r_iushr X0 cx J33m48_60 ?_
  refine r_top (v' := 15) (by decide) ?_
  refine r_istoreN (fun zz => #[.val (.int zz), .val (.int (13 : Int32))]) X0 cx J33m48_61 (fun _ => rfl) (fun i6 e_i6 => ?_)
  subst e_i6
  refine r_iloadN X0 cx J33m48_62 rfl ?_
  refine r_iconst (4) X0 cx J33m48_63 rfl ?_
  refine r_icmple X0 cx J33m48_64 (fun c => absurd c (by decide)) (fun _ => ?_)
  refine r_iinc (2 : Int32) (fun zz => #[.val (.int (15 : Int32)), .val (.int zz)]) X0 cx J33m48_67 rfl rfl (fun _ => rfl) (fun i7 e_i7 => ?_)
  obtain rfl : i7 = (15 : Int32) := e_i7
  refine r_iloadN X0 cx J33m48_70 rfl ?_
  refine r_iconst (2) X0 cx J33m48_71 rfl ?_
  refine r_iushr X0 cx J33m48_72 ?_
  refine r_top (v' := 3) (by decide) ?_
  refine r_istoreN (fun zz => #[.val (.int zz), .val (.int (15 : Int32))]) X0 cx J33m48_73 (fun _ => rfl) (fun i8 e_i8 => ?_)
  subst e_i8
  refine r_iloadN X0 cx J33m48_74 rfl ?_
  refine r_iloadN X0 cx J33m48_75 rfl ?_
  refine r_iconst (1) X0 cx J33m48_76 rfl ?_
  refine r_iushr X0 cx J33m48_77 ?_
  refine r_top (v' := 1) (by decide) ?_
  refine r_iadd X0 cx J33m48_78 ?_
  refine r_top (v' := 16) (by decide) ?_
  refine r_ireturn X0 cx J33m48_79 (by decide) (by decide) ?_
  exact ⟨rfl, rfl⟩
theorem ef_J33m48_17 (m : MethodId)  : entryFrame m #[(.int (131072 : Int32))] 2 = mkF m 0 #[.val (.int (131072 : Int32)), .unset] [] := by first | (simp [entryFrame, mkF, argsToLocals, Value.category]; done) | rfl
set_option maxRecDepth 65536 in
set_option maxHeartbeats 40000000 in
theorem con_J33m48_17 (l : Launch) (Z : State) (a0 : Array Value) (hw : Tb tables_1 a0 Z)  (h0 : Heap) (n0 : Nat) (Z0 : n0 ≤ h0.size)  :
    Con l Z (⟨"java/lang/Integer", "numberOfTrailingZeros", "(I)I"⟩ : MethodName) jdk_33_method_48_code 2 (some (.int)) ({ frames := 0, cells := 0, slots := 0, locals := 0 } : Room) #[(.int (131072 : Int32))] h0 n0 (fun v h => h0 = h ∧ v = some (.int 17)) := by
  refine Con.of (plainFor_of_name (by decide +kernel)) Z0 ?_
  intro K hl hZ hn cx T0 X0
  subst hl hZ hn
  refine Run.cast (ef_J33m48_17 K.m ) ?_
  refine r_iloadN X0 cx J33m48_0 rfl ?_
  refine r_iconst (-1) X0 cx J33m48_1 rfl ?_
  refine r_ixor X0 cx J33m48_2 ?_
  refine r_top (v' := -131073) (by decide) ?_
  refine r_iloadN X0 cx J33m48_3 rfl ?_
  refine r_iconst (1) X0 cx J33m48_4 rfl ?_
  refine r_isub X0 cx J33m48_5 ?_
  refine r_top (v' := 131071) (by decide) ?_
  refine r_iand X0 cx J33m48_6 ?_
  refine r_top (v' := 131071) (by decide) ?_
  refine r_istoreN (fun zz => #[.val (.int zz), .unset]) X0 cx J33m48_7 (fun _ => rfl) (fun i1 e_i1 => ?_)
  subst e_i1
  refine r_iloadN X0 cx J33m48_8 rfl ?_
  refine r_ifgt X0 cx J33m48_9 (fun _ => ?_) (fun c => absurd c (by decide))
  refine r_iconst (1) X0 cx J33m48_17 rfl ?_
  refine r_istoreN (fun zz => #[.val (.int (131071 : Int32)), .val (.int zz)]) X0 cx J33m48_18 (fun _ => rfl) (fun i2 e_i2 => ?_)
  subst e_i2
  refine r_iloadN X0 cx J33m48_19 rfl ?_
  refine r_ldcW X0 cx J33m48_20 (hw.get 42 rfl) ?_
  refine r_icmple X0 cx J33m48_23 (fun c => absurd c (by decide)) (fun _ => ?_)
  refine r_iinc (16 : Int32) (fun zz => #[.val (.int (131071 : Int32)), .val (.int zz)]) X0 cx J33m48_26 rfl rfl (fun _ => rfl) (fun i3 e_i3 => ?_)
  obtain rfl : i3 = (17 : Int32) := e_i3
  refine r_iloadN X0 cx J33m48_29 rfl ?_
  refine r_bipush (16) X0 cx J33m48_30 rfl ?_
  refine r_iushr X0 cx J33m48_32 ?_
  refine r_top (v' := 1) (by decide) ?_
  refine r_istoreN (fun zz => #[.val (.int zz), .val (.int (17 : Int32))]) X0 cx J33m48_33 (fun _ => rfl) (fun i4 e_i4 => ?_)
  subst e_i4
  refine r_iloadN X0 cx J33m48_34 rfl ?_
  refine r_sipush (256) X0 cx J33m48_35 rfl ?_
  refine r_icmple X0 cx J33m48_38 (fun _ => ?_) (fun c => absurd c (by decide))
  refine r_iloadN X0 cx J33m48_49 rfl ?_
  refine r_bipush (16) X0 cx J33m48_50 rfl ?_
  refine r_icmple X0 cx J33m48_52 (fun _ => ?_) (fun c => absurd c (by decide))
  refine r_iloadN X0 cx J33m48_62 rfl ?_
  refine r_iconst (4) X0 cx J33m48_63 rfl ?_
  refine r_icmple X0 cx J33m48_64 (fun _ => ?_) (fun c => absurd c (by decide))
  refine r_iloadN X0 cx J33m48_74 rfl ?_
  refine r_iloadN X0 cx J33m48_75 rfl ?_
  refine r_iconst (1) X0 cx J33m48_76 rfl ?_
  refine r_iushr X0 cx J33m48_77 ?_
  refine r_top (v' := 0) (by decide) ?_
  refine r_iadd X0 cx J33m48_78 ?_
  refine r_top (v' := 17) (by decide) ?_
  refine r_ireturn X0 cx J33m48_79 (by decide) (by decide) ?_
  exact ⟨rfl, rfl⟩
theorem ef_J33m48_18 (m : MethodId)  : entryFrame m #[(.int (262144 : Int32))] 2 = mkF m 0 #[.val (.int (262144 : Int32)), .unset] [] := by first | (simp [entryFrame, mkF, argsToLocals, Value.category]; done) | rfl
set_option maxRecDepth 65536 in
set_option maxHeartbeats 40000000 in
theorem con_J33m48_18 (l : Launch) (Z : State) (a0 : Array Value) (hw : Tb tables_1 a0 Z)  (h0 : Heap) (n0 : Nat) (Z0 : n0 ≤ h0.size)  :
    Con l Z (⟨"java/lang/Integer", "numberOfTrailingZeros", "(I)I"⟩ : MethodName) jdk_33_method_48_code 2 (some (.int)) ({ frames := 0, cells := 0, slots := 0, locals := 0 } : Room) #[(.int (262144 : Int32))] h0 n0 (fun v h => h0 = h ∧ v = some (.int 18)) := by
  refine Con.of (plainFor_of_name (by decide +kernel)) Z0 ?_
  intro K hl hZ hn cx T0 X0
  subst hl hZ hn
  refine Run.cast (ef_J33m48_18 K.m ) ?_
  refine r_iloadN X0 cx J33m48_0 rfl ?_
  refine r_iconst (-1) X0 cx J33m48_1 rfl ?_
  refine r_ixor X0 cx J33m48_2 ?_
  refine r_top (v' := -262145) (by decide) ?_
  refine r_iloadN X0 cx J33m48_3 rfl ?_
  refine r_iconst (1) X0 cx J33m48_4 rfl ?_
  refine r_isub X0 cx J33m48_5 ?_
  refine r_top (v' := 262143) (by decide) ?_
  refine r_iand X0 cx J33m48_6 ?_
  refine r_top (v' := 262143) (by decide) ?_
  refine r_istoreN (fun zz => #[.val (.int zz), .unset]) X0 cx J33m48_7 (fun _ => rfl) (fun i1 e_i1 => ?_)
  subst e_i1
  refine r_iloadN X0 cx J33m48_8 rfl ?_
  refine r_ifgt X0 cx J33m48_9 (fun _ => ?_) (fun c => absurd c (by decide))
  refine r_iconst (1) X0 cx J33m48_17 rfl ?_
  refine r_istoreN (fun zz => #[.val (.int (262143 : Int32)), .val (.int zz)]) X0 cx J33m48_18 (fun _ => rfl) (fun i2 e_i2 => ?_)
  subst e_i2
  refine r_iloadN X0 cx J33m48_19 rfl ?_
  refine r_ldcW X0 cx J33m48_20 (hw.get 42 rfl) ?_
  refine r_icmple X0 cx J33m48_23 (fun c => absurd c (by decide)) (fun _ => ?_)
  refine r_iinc (16 : Int32) (fun zz => #[.val (.int (262143 : Int32)), .val (.int zz)]) X0 cx J33m48_26 rfl rfl (fun _ => rfl) (fun i3 e_i3 => ?_)
  obtain rfl : i3 = (17 : Int32) := e_i3
  refine r_iloadN X0 cx J33m48_29 rfl ?_
  refine r_bipush (16) X0 cx J33m48_30 rfl ?_
  refine r_iushr X0 cx J33m48_32 ?_
  refine r_top (v' := 3) (by decide) ?_
  refine r_istoreN (fun zz => #[.val (.int zz), .val (.int (17 : Int32))]) X0 cx J33m48_33 (fun _ => rfl) (fun i4 e_i4 => ?_)
  subst e_i4
  refine r_iloadN X0 cx J33m48_34 rfl ?_
  refine r_sipush (256) X0 cx J33m48_35 rfl ?_
  refine r_icmple X0 cx J33m48_38 (fun _ => ?_) (fun c => absurd c (by decide))
  refine r_iloadN X0 cx J33m48_49 rfl ?_
  refine r_bipush (16) X0 cx J33m48_50 rfl ?_
  refine r_icmple X0 cx J33m48_52 (fun _ => ?_) (fun c => absurd c (by decide))
  refine r_iloadN X0 cx J33m48_62 rfl ?_
  refine r_iconst (4) X0 cx J33m48_63 rfl ?_
  refine r_icmple X0 cx J33m48_64 (fun _ => ?_) (fun c => absurd c (by decide))
  refine r_iloadN X0 cx J33m48_74 rfl ?_
  refine r_iloadN X0 cx J33m48_75 rfl ?_
  refine r_iconst (1) X0 cx J33m48_76 rfl ?_
  refine r_iushr X0 cx J33m48_77 ?_
  refine r_top (v' := 1) (by decide) ?_
  refine r_iadd X0 cx J33m48_78 ?_
  refine r_top (v' := 18) (by decide) ?_
  refine r_ireturn X0 cx J33m48_79 (by decide) (by decide) ?_
  exact ⟨rfl, rfl⟩
theorem ef_J33m48_19 (m : MethodId)  : entryFrame m #[(.int (524288 : Int32))] 2 = mkF m 0 #[.val (.int (524288 : Int32)), .unset] [] := by first | (simp [entryFrame, mkF, argsToLocals, Value.category]; done) | rfl
set_option maxRecDepth 65536 in
set_option maxHeartbeats 40000000 in
theorem con_J33m48_19 (l : Launch) (Z : State) (a0 : Array Value) (hw : Tb tables_1 a0 Z)  (h0 : Heap) (n0 : Nat) (Z0 : n0 ≤ h0.size)  :
    Con l Z (⟨"java/lang/Integer", "numberOfTrailingZeros", "(I)I"⟩ : MethodName) jdk_33_method_48_code 2 (some (.int)) ({ frames := 0, cells := 0, slots := 0, locals := 0 } : Room) #[(.int (524288 : Int32))] h0 n0 (fun v h => h0 = h ∧ v = some (.int 19)) := by
  refine Con.of (plainFor_of_name (by decide +kernel)) Z0 ?_
  intro K hl hZ hn cx T0 X0
  subst hl hZ hn
  refine Run.cast (ef_J33m48_19 K.m ) ?_
  refine r_iloadN X0 cx J33m48_0 rfl ?_
  refine r_iconst (-1) X0 cx J33m48_1 rfl ?_
  refine r_ixor X0 cx J33m48_2 ?_
  refine r_top (v' := -524289) (by decide) ?_
  refine r_iloadN X0 cx J33m48_3 rfl ?_
  refine r_iconst (1) X0 cx J33m48_4 rfl ?_
  refine r_isub X0 cx J33m48_5 ?_
  refine r_top (v' := 524287) (by decide) ?_
  refine r_iand X0 cx J33m48_6 ?_
  refine r_top (v' := 524287) (by decide) ?_
  refine r_istoreN (fun zz => #[.val (.int zz), .unset]) X0 cx J33m48_7 (fun _ => rfl) (fun i1 e_i1 => ?_)
  subst e_i1
  refine r_iloadN X0 cx J33m48_8 rfl ?_
  refine r_ifgt X0 cx J33m48_9 (fun _ => ?_) (fun c => absurd c (by decide))
  refine r_iconst (1) X0 cx J33m48_17 rfl ?_
  refine r_istoreN (fun zz => #[.val (.int (524287 : Int32)), .val (.int zz)]) X0 cx J33m48_18 (fun _ => rfl) (fun i2 e_i2 => ?_)
  subst e_i2
  refine r_iloadN X0 cx J33m48_19 rfl ?_
  refine r_ldcW X0 cx J33m48_20 (hw.get 42 rfl) ?_
  refine r_icmple X0 cx J33m48_23 (fun c => absurd c (by decide)) (fun _ => ?_)
  refine r_iinc (16 : Int32) (fun zz => #[.val (.int (524287 : Int32)), .val (.int zz)]) X0 cx J33m48_26 rfl rfl (fun _ => rfl) (fun i3 e_i3 => ?_)
  obtain rfl : i3 = (17 : Int32) := e_i3
  refine r_iloadN X0 cx J33m48_29 rfl ?_
  refine r_bipush (16) X0 cx J33m48_30 rfl ?_
  refine r_iushr X0 cx J33m48_32 ?_
  refine r_top (v' := 7) (by decide) ?_
  refine r_istoreN (fun zz => #[.val (.int zz), .val (.int (17 : Int32))]) X0 cx J33m48_33 (fun _ => rfl) (fun i4 e_i4 => ?_)
  subst e_i4
  refine r_iloadN X0 cx J33m48_34 rfl ?_
  refine r_sipush (256) X0 cx J33m48_35 rfl ?_
  refine r_icmple X0 cx J33m48_38 (fun _ => ?_) (fun c => absurd c (by decide))
  refine r_iloadN X0 cx J33m48_49 rfl ?_
  refine r_bipush (16) X0 cx J33m48_50 rfl ?_
  refine r_icmple X0 cx J33m48_52 (fun _ => ?_) (fun c => absurd c (by decide))
  refine r_iloadN X0 cx J33m48_62 rfl ?_
  refine r_iconst (4) X0 cx J33m48_63 rfl ?_
  refine r_icmple X0 cx J33m48_64 (fun c => absurd c (by decide)) (fun _ => ?_)
  refine r_iinc (2 : Int32) (fun zz => #[.val (.int (7 : Int32)), .val (.int zz)]) X0 cx J33m48_67 rfl rfl (fun _ => rfl) (fun i5 e_i5 => ?_)
  obtain rfl : i5 = (19 : Int32) := e_i5
  refine r_iloadN X0 cx J33m48_70 rfl ?_
  refine r_iconst (2) X0 cx J33m48_71 rfl ?_
  refine r_iushr X0 cx J33m48_72 ?_
  refine r_top (v' := 1) (by decide) ?_
  refine r_istoreN (fun zz => #[.val (.int zz), .val (.int (19 : Int32))]) X0 cx J33m48_73 (fun _ => rfl) (fun i6 e_i6 => ?_)
  subst e_i6
  refine r_iloadN X0 cx J33m48_74 rfl ?_
  refine r_iloadN X0 cx J33m48_75 rfl ?_
  refine r_iconst (1) X0 cx J33m48_76 rfl ?_
  refine r_iushr X0 cx J33m48_77 ?_
  refine r_top (v' := 0) (by decide) ?_
  refine r_iadd X0 cx J33m48_78 ?_
  refine r_top (v' := 19) (by decide) ?_
  refine r_ireturn X0 cx J33m48_79 (by decide) (by decide) ?_
  exact ⟨rfl, rfl⟩
theorem ef_J33m48_20 (m : MethodId)  : entryFrame m #[(.int (1048576 : Int32))] 2 = mkF m 0 #[.val (.int (1048576 : Int32)), .unset] [] := by first | (simp [entryFrame, mkF, argsToLocals, Value.category]; done) | rfl
set_option maxRecDepth 65536 in
set_option maxHeartbeats 40000000 in
theorem con_J33m48_20 (l : Launch) (Z : State) (a0 : Array Value) (hw : Tb tables_1 a0 Z)  (h0 : Heap) (n0 : Nat) (Z0 : n0 ≤ h0.size)  :
    Con l Z (⟨"java/lang/Integer", "numberOfTrailingZeros", "(I)I"⟩ : MethodName) jdk_33_method_48_code 2 (some (.int)) ({ frames := 0, cells := 0, slots := 0, locals := 0 } : Room) #[(.int (1048576 : Int32))] h0 n0 (fun v h => h0 = h ∧ v = some (.int 20)) := by
  refine Con.of (plainFor_of_name (by decide +kernel)) Z0 ?_
  intro K hl hZ hn cx T0 X0
  subst hl hZ hn
  refine Run.cast (ef_J33m48_20 K.m ) ?_
  refine r_iloadN X0 cx J33m48_0 rfl ?_
  refine r_iconst (-1) X0 cx J33m48_1 rfl ?_
  refine r_ixor X0 cx J33m48_2 ?_
  refine r_top (v' := -1048577) (by decide) ?_
  refine r_iloadN X0 cx J33m48_3 rfl ?_
  refine r_iconst (1) X0 cx J33m48_4 rfl ?_
  refine r_isub X0 cx J33m48_5 ?_
  refine r_top (v' := 1048575) (by decide) ?_
  refine r_iand X0 cx J33m48_6 ?_
  refine r_top (v' := 1048575) (by decide) ?_
  refine r_istoreN (fun zz => #[.val (.int zz), .unset]) X0 cx J33m48_7 (fun _ => rfl) (fun i1 e_i1 => ?_)
  subst e_i1
  refine r_iloadN X0 cx J33m48_8 rfl ?_
  refine r_ifgt X0 cx J33m48_9 (fun _ => ?_) (fun c => absurd c (by decide))
  refine r_iconst (1) X0 cx J33m48_17 rfl ?_
  refine r_istoreN (fun zz => #[.val (.int (1048575 : Int32)), .val (.int zz)]) X0 cx J33m48_18 (fun _ => rfl) (fun i2 e_i2 => ?_)
  subst e_i2
  refine r_iloadN X0 cx J33m48_19 rfl ?_
  refine r_ldcW X0 cx J33m48_20 (hw.get 42 rfl) ?_
  refine r_icmple X0 cx J33m48_23 (fun c => absurd c (by decide)) (fun _ => ?_)
  refine r_iinc (16 : Int32) (fun zz => #[.val (.int (1048575 : Int32)), .val (.int zz)]) X0 cx J33m48_26 rfl rfl (fun _ => rfl) (fun i3 e_i3 => ?_)
  obtain rfl : i3 = (17 : Int32) := e_i3
  refine r_iloadN X0 cx J33m48_29 rfl ?_
  refine r_bipush (16) X0 cx J33m48_30 rfl ?_
  refine r_iushr X0 cx J33m48_32 ?_
  refine r_top (v' := 15) (by decide) ?_
  refine r_istoreN (fun zz => #[.val (.int zz), .val (.int (17 : Int32))]) X0 cx J33m48_33 (fun _ => rfl) (fun i4 e_i4 => ?_)
  subst e_i4
  refine r_iloadN X0 cx J33m48_34 rfl ?_
  refine r_sipush (256) X0 cx J33m48_35 rfl ?_
  refine r_icmple X0 cx J33m48_38 (fun _ => ?_) (fun c => absurd c (by decide))
  refine r_iloadN X0 cx J33m48_49 rfl ?_
  refine r_bipush (16) X0 cx J33m48_50 rfl ?_
  refine r_icmple X0 cx J33m48_52 (fun _ => ?_) (fun c => absurd c (by decide))
  refine r_iloadN X0 cx J33m48_62 rfl ?_
  refine r_iconst (4) X0 cx J33m48_63 rfl ?_
  refine r_icmple X0 cx J33m48_64 (fun c => absurd c (by decide)) (fun _ => ?_)
  refine r_iinc (2 : Int32) (fun zz => #[.val (.int (15 : Int32)), .val (.int zz)]) X0 cx J33m48_67 rfl rfl (fun _ => rfl) (fun i5 e_i5 => ?_)
  obtain rfl : i5 = (19 : Int32) := e_i5
  refine r_iloadN X0 cx J33m48_70 rfl ?_
  refine r_iconst (2) X0 cx J33m48_71 rfl ?_
  refine r_iushr X0 cx J33m48_72 ?_
  refine r_top (v' := 3) (by decide) ?_
  refine r_istoreN (fun zz => #[.val (.int zz), .val (.int (19 : Int32))]) X0 cx J33m48_73 (fun _ => rfl) (fun i6 e_i6 => ?_)
  subst e_i6
  refine r_iloadN X0 cx J33m48_74 rfl ?_
  refine r_iloadN X0 cx J33m48_75 rfl ?_
  refine r_iconst (1) X0 cx J33m48_76 rfl ?_
  refine r_iushr X0 cx J33m48_77 ?_
  refine r_top (v' := 1) (by decide) ?_
  refine r_iadd X0 cx J33m48_78 ?_
  refine r_top (v' := 20) (by decide) ?_
  refine r_ireturn X0 cx J33m48_79 (by decide) (by decide) ?_
  exact ⟨rfl, rfl⟩
theorem ef_J33m48_21 (m : MethodId)  : entryFrame m #[(.int (2097152 : Int32))] 2 = mkF m 0 #[.val (.int (2097152 : Int32)), .unset] [] := by first | (simp [entryFrame, mkF, argsToLocals, Value.category]; done) | rfl
set_option maxRecDepth 65536 in
set_option maxHeartbeats 40000000 in
theorem con_J33m48_21 (l : Launch) (Z : State) (a0 : Array Value) (hw : Tb tables_1 a0 Z)  (h0 : Heap) (n0 : Nat) (Z0 : n0 ≤ h0.size)  :
    Con l Z (⟨"java/lang/Integer", "numberOfTrailingZeros", "(I)I"⟩ : MethodName) jdk_33_method_48_code 2 (some (.int)) ({ frames := 0, cells := 0, slots := 0, locals := 0 } : Room) #[(.int (2097152 : Int32))] h0 n0 (fun v h => h0 = h ∧ v = some (.int 21)) := by
  refine Con.of (plainFor_of_name (by decide +kernel)) Z0 ?_
  intro K hl hZ hn cx T0 X0
  subst hl hZ hn
  refine Run.cast (ef_J33m48_21 K.m ) ?_
  refine r_iloadN X0 cx J33m48_0 rfl ?_
  refine r_iconst (-1) X0 cx J33m48_1 rfl ?_
  refine r_ixor X0 cx J33m48_2 ?_
  refine r_top (v' := -2097153) (by decide) ?_
  refine r_iloadN X0 cx J33m48_3 rfl ?_
  refine r_iconst (1) X0 cx J33m48_4 rfl ?_
  refine r_isub X0 cx J33m48_5 ?_
  refine r_top (v' := 2097151) (by decide) ?_
  refine r_iand X0 cx J33m48_6 ?_
  refine r_top (v' := 2097151) (by decide) ?_
  refine r_istoreN (fun zz => #[.val (.int zz), .unset]) X0 cx J33m48_7 (fun _ => rfl) (fun i1 e_i1 => ?_)
  subst e_i1
  refine r_iloadN X0 cx J33m48_8 rfl ?_
  refine r_ifgt X0 cx J33m48_9 (fun _ => ?_) (fun c => absurd c (by decide))
  refine r_iconst (1) X0 cx J33m48_17 rfl ?_
  refine r_istoreN (fun zz => #[.val (.int (2097151 : Int32)), .val (.int zz)]) X0 cx J33m48_18 (fun _ => rfl) (fun i2 e_i2 => ?_)
  subst e_i2
  refine r_iloadN X0 cx J33m48_19 rfl ?_
  refine r_ldcW X0 cx J33m48_20 (hw.get 42 rfl) ?_
  refine r_icmple X0 cx J33m48_23 (fun c => absurd c (by decide)) (fun _ => ?_)
  refine r_iinc (16 : Int32) (fun zz => #[.val (.int (2097151 : Int32)), .val (.int zz)]) X0 cx J33m48_26 rfl rfl (fun _ => rfl) (fun i3 e_i3 => ?_)
  obtain rfl : i3 = (17 : Int32) := e_i3
  refine r_iloadN X0 cx J33m48_29 rfl ?_
  refine r_bipush (16) X0 cx J33m48_30 rfl ?_
  refine r_iushr X0 cx J33m48_32 ?_
  refine r_top (v' := 31) (by decide) ?_
  refine r_istoreN (fun zz => #[.val (.int zz), .val (.int (17 : Int32))]) X0 cx J33m48_33 (fun _ => rfl) (fun i4 e_i4 => ?_)
  subst e_i4
  refine r_iloadN X0 cx J33m48_34 rfl ?_
  refine r_sipush (256) X0 cx J33m48_35 rfl ?_
  refine r_icmple X0 cx J33m48_38 (fun _ => ?_) (fun c => absurd c (by decide))
  refine r_iloadN X0 cx J33m48_49 rfl ?_
  refine r_bipush (16) X0 cx J33m48_50 rfl ?_
  refine r_icmple X0 cx J33m48_52 (fun c => absurd c (by decide)) (fun _ => ?_)
  refine r_iinc (4 : Int32) (fun zz => #[.val (.int (31 : Int32)), .val (.int zz)]) X0 cx J33m48_55 rfl rfl (fun _ => rfl) (fun i5 e_i5 => ?_)
  obtain rfl : i5 = (21 : Int32) := e_i5
  refine r_iloadN X0 cx J33m48_58 rfl ?_
  refine r_iconst (4) X0 cx J33m48_59 rfl ?_
  refine r_iushr X0 cx J33m48_60 ?_
  refine r_top (v' := 1) (by decide) ?_
  refine r_istoreN (fun zz => #[.val (.int zz), .val (.int (21 : Int32))]) X0 cx J33m48_61 (fun _ => rfl) (fun i6 e_i6 => ?_)
  subst e_i6
  refine r_iloadN X0 cx J33m48_62 rfl ?_
  refine r_iconst (4) X0 cx J33m48_63 rfl ?_
  refine r_icmple X0 cx J33m48_64 (fun _ => ?_) (fun c => absurd c (by decide))
  refine r_iloadN X0 cx J33m48_74 rfl ?_
  refine r_iloadN X0 cx J33m48_75 rfl ?_
  refine r_iconst (1) X0 cx J33m48_76 rfl ?_
  refine r_iushr X0 cx J33m48_77 ?_
  refine r_top (v' := 0) (by decide) ?_
  refine r_iadd X0 cx J33m48_78 ?_
  refine r_top (v' := 21) (by decide) ?_
  refine r_ireturn X0 cx J33m48_79 (by decide) (by decide) ?_
  exact ⟨rfl, rfl⟩
theorem con_ntz (l : Launch) (Z : State) (a0 : Array Value) (hw : Tb tables_1 a0 Z) (h0 : Heap) (n0 : Nat) (Z0 : n0 ≤ h0.size) (b : Nat) (hb : b < 22) (sg : Int32) (esg : sg = Int32.ofNat (2 ^ b)) :
    Con l Z (⟨"java/lang/Integer", "numberOfTrailingZeros", "(I)I"⟩ : MethodName) jdk_33_method_48_code 2 (some (.int)) ({ frames := 0, cells := 0, slots := 0, locals := 0 } : Room) #[(.int sg)] h0 n0 (fun v h => h0 = h ∧ v = some (.int (Int32.ofNat b))) := by
  subst esg
  match b, hb with
  | 0, _ => exact con_J33m48_0 l Z a0 hw h0 n0 Z0
  | 1, _ => exact con_J33m48_1 l Z a0 hw h0 n0 Z0
  | 2, _ => exact con_J33m48_2 l Z a0 hw h0 n0 Z0
  | 3, _ => exact con_J33m48_3 l Z a0 hw h0 n0 Z0
  | 4, _ => exact con_J33m48_4 l Z a0 hw h0 n0 Z0
  | 5, _ => exact con_J33m48_5 l Z a0 hw h0 n0 Z0
  | 6, _ => exact con_J33m48_6 l Z a0 hw h0 n0 Z0
  | 7, _ => exact con_J33m48_7 l Z a0 hw h0 n0 Z0
  | 8, _ => exact con_J33m48_8 l Z a0 hw h0 n0 Z0
  | 9, _ => exact con_J33m48_9 l Z a0 hw h0 n0 Z0
  | 10, _ => exact con_J33m48_10 l Z a0 hw h0 n0 Z0
  | 11, _ => exact con_J33m48_11 l Z a0 hw h0 n0 Z0
  | 12, _ => exact con_J33m48_12 l Z a0 hw h0 n0 Z0
  | 13, _ => exact con_J33m48_13 l Z a0 hw h0 n0 Z0
  | 14, _ => exact con_J33m48_14 l Z a0 hw h0 n0 Z0
  | 15, _ => exact con_J33m48_15 l Z a0 hw h0 n0 Z0
  | 16, _ => exact con_J33m48_16 l Z a0 hw h0 n0 Z0
  | 17, _ => exact con_J33m48_17 l Z a0 hw h0 n0 Z0
  | 18, _ => exact con_J33m48_18 l Z a0 hw h0 n0 Z0
  | 19, _ => exact con_J33m48_19 l Z a0 hw h0 n0 Z0
  | 20, _ => exact con_J33m48_20 l Z a0 hw h0 n0 Z0
  | 21, _ => exact con_J33m48_21 l Z a0 hw h0 n0 Z0
  | n + 22, h => exact absurd h (by omega)
theorem P73m1_0 : Dc prog_73_method_1_code 0 (.aload_n 0) 1 1 := ⟨(by decide +kernel), rfl⟩
theorem P73m1_1 : Dc prog_73_method_1_code 1 (.invokespecial 1) 3 4 := ⟨(by decide +kernel), rfl⟩
theorem P73m1_4 : Dc prog_73_method_1_code 4 (.aload_n 0) 1 5 := ⟨(by decide +kernel), rfl⟩
theorem P73m1_5 : Dc prog_73_method_1_code 5 (.iload_n 1) 1 6 := ⟨(by decide +kernel), rfl⟩
theorem P73m1_6 : Dc prog_73_method_1_code 6 (.iconst 2) 1 7 := ⟨(by decide +kernel), rfl⟩
theorem P73m1_7 : Dc prog_73_method_1_code 7 (.invokestatic 9) 3 10 := ⟨(by decide +kernel), rfl⟩
theorem P73m1_10 : Dc prog_73_method_1_code 10 (.putfield 15) 3 13 := ⟨(by decide +kernel), rfl⟩
theorem P73m1_13 : Dc prog_73_method_1_code 13 (.aload_n 0) 1 14 := ⟨(by decide +kernel), rfl⟩
theorem P73m1_14 : Dc prog_73_method_1_code 14 (.iload_n 1) 1 15 := ⟨(by decide +kernel), rfl⟩
theorem P73m1_15 : Dc prog_73_method_1_code 15 (.iconst 2) 1 16 := ⟨(by decide +kernel), rfl⟩
theorem P73m1_16 : Db prog_73_method_1_code 16 (.if_icmp .lt 7) (7) 19 23 := ⟨(by decide +kernel), rfl, by decide, by decide⟩
theorem P73m1_19 : Dc prog_73_method_1_code 19 (.iconst 1) 1 20 := ⟨(by decide +kernel), rfl⟩
theorem P73m1_20 : Db prog_73_method_1_code 20 (.goto 4) (4) 23 24 := ⟨(by decide +kernel), rfl, by decide, by decide⟩
theorem P73m1_23 : Dc prog_73_method_1_code 23 (.iconst 0) 1 24 := ⟨(by decide +kernel), rfl⟩
theorem P73m1_24 : Dc prog_73_method_1_code 24 (.putfield 19) 3 27 := ⟨(by decide +kernel), rfl⟩
theorem P73m1_27 : Dc prog_73_method_1_code 27 (.aload_n 0) 1 28 := ⟨(by decide +kernel), rfl⟩
theorem P73m1_28 : Dc prog_73_method_1_code 28 (.iload_n 2) 1 29 := ⟨(by decide +kernel), rfl⟩
theorem P73m1_29 : Dc prog_73_method_1_code 29 (.putfield 23) 3 32 := ⟨(by decide +kernel), rfl⟩
theorem P73m1_32 : Dc prog_73_method_1_code 32 (.aload_n 0) 1 33 := ⟨(by decide +kernel), rfl⟩
theorem P73m1_33 : Dc prog_73_method_1_code 33 (.iload_n 3) 1 34 := ⟨(by decide +kernel), rfl⟩
theorem P73m1_34 : Dc prog_73_method_1_code 34 (.putfield 26) 3 37 := ⟨(by decide +kernel), rfl⟩
theorem P73m1_37 : Dc prog_73_method_1_code 37 (.aload_n 0) 1 38 := ⟨(by decide +kernel), rfl⟩
theorem P73m1_38 : Dc prog_73_method_1_code 38 (.lload 4) 2 40 := ⟨(by decide +kernel), rfl⟩
theorem P73m1_40 : Dc prog_73_method_1_code 40 (.putfield 29) 3 43 := ⟨(by decide +kernel), rfl⟩
theorem P73m1_43 : Dc prog_73_method_1_code 43 (.aload_n 0) 1 44 := ⟨(by decide +kernel), rfl⟩
theorem P73m1_44 : Dc prog_73_method_1_code 44 (.iload 6) 2 46 := ⟨(by decide +kernel), rfl⟩
theorem P73m1_46 : Dc prog_73_method_1_code 46 (.putfield 33) 3 49 := ⟨(by decide +kernel), rfl⟩
theorem P73m1_49 : Dc prog_73_method_1_code 49 (.aload_n 0) 1 50 := ⟨(by decide +kernel), rfl⟩
theorem P73m1_50 : Dc prog_73_method_1_code 50 (.iload 6) 2 52 := ⟨(by decide +kernel), rfl⟩
theorem P73m1_52 : Dc prog_73_method_1_code 52 (.invokestatic 36) 3 55 := ⟨(by decide +kernel), rfl⟩
theorem P73m1_55 : Dc prog_73_method_1_code 55 (.putfield 42) 3 58 := ⟨(by decide +kernel), rfl⟩
theorem P73m1_58 : Dc prog_73_method_1_code 58 (.aload_n 0) 1 59 := ⟨(by decide +kernel), rfl⟩
theorem P73m1_59 : Dc prog_73_method_1_code 59 (.iload 7) 2 61 := ⟨(by decide +kernel), rfl⟩
theorem P73m1_61 : Dc prog_73_method_1_code 61 (.putfield 45) 3 64 := ⟨(by decide +kernel), rfl⟩
theorem P73m1_64 : Dc prog_73_method_1_code 64 (.aload_n 0) 1 65 := ⟨(by decide +kernel), rfl⟩
theorem P73m1_65 : Dc prog_73_method_1_code 65 (.iload 7) 2 67 := ⟨(by decide +kernel), rfl⟩
theorem P73m1_67 : Dc prog_73_method_1_code 67 (.i2l) 1 68 := ⟨(by decide +kernel), rfl⟩
theorem P73m1_68 : Dc prog_73_method_1_code 68 (.iload 6) 2 70 := ⟨(by decide +kernel), rfl⟩
theorem P73m1_70 : Dc prog_73_method_1_code 70 (.i2l) 1 71 := ⟨(by decide +kernel), rfl⟩
theorem P73m1_71 : Dc prog_73_method_1_code 71 (.lmul) 1 72 := ⟨(by decide +kernel), rfl⟩
theorem P73m1_72 : Dc prog_73_method_1_code 72 (.putfield 48) 3 75 := ⟨(by decide +kernel), rfl⟩
theorem P73m1_75 : Dc prog_73_method_1_code 75 (.return_) 1 76 := ⟨(by decide +kernel), rfl⟩
theorem ef_P73m1 (m : MethodId) (o : Addr) (sg : Int32) (ct : Int32) : entryFrame m #[(.ref o), (.int (2 : Int32)), (.int (4 : Int32)), (.int (8 : Int32)), (.long (0 : Int64)), (.int sg), (.int ct)] 8 = mkF m 0 #[.val (.ref o), .val (.int (2 : Int32)), .val (.int (4 : Int32)), .val (.int (8 : Int32)), .val (.long (0 : Int64)), .second, .val (.int sg), .val (.int ct)] [] := by first | (simp [entryFrame, mkF, argsToLocals, Value.category]; done) | rfl
set_option maxRecDepth 65536 in
set_option maxHeartbeats 40000000 in
theorem con_P73m1 (l : Launch) (Z : State) (a0 : Array Value) (hw : Tb tables_1 a0 Z) (o : Addr) (sg : Int32) (ct : Int32) (h0 : Heap) (n0 : Nat) (Z0 : n0 ≤ h0.size) (b : Nat) (hb : b < 22) (esg : sg = Int32.ofNat (2 ^ b)) (E_o : Exa Z h0 o "com/example/epsilon_filter/epsilonfilter/filters/SlotRule") (F_formatVersion : Fld Z h0 o "com/example/epsilon_filter/epsilonfilter/filters/SlotRule" "formatVersion" "I" (.int 0)) (F_offsetsRemixed : Fld Z h0 o "com/example/epsilon_filter/epsilonfilter/filters/SlotRule" "offsetsRemixed" "Z" (.int 0)) (F_arity : Fld Z h0 o "com/example/epsilon_filter/epsilonfilter/filters/SlotRule" "arity" "I" (.int 0)) (F_fingerprintBits : Fld Z h0 o "com/example/epsilon_filter/epsilonfilter/filters/SlotRule" "fingerprintBits" "I" (.int 0)) (F_seed : Fld Z h0 o "com/example/epsilon_filter/epsilonfilter/filters/SlotRule" "seed" "J" (.long 0)) (F_segmentLength : Fld Z h0 o "com/example/epsilon_filter/epsilonfilter/filters/SlotRule" "segmentLength" "I" (.int 0)) (F_segmentLengthBits : Fld Z h0 o "com/example/epsilon_filter/epsilonfilter/filters/SlotRule" "segmentLengthBits" "I" (.int 0)) (F_segmentCount : Fld Z h0 o "com/example/epsilon_filter/epsilonfilter/filters/SlotRule" "segmentCount" "I" (.int 0)) (F_firstSlotRange : Fld Z h0 o "com/example/epsilon_filter/epsilonfilter/filters/SlotRule" "firstSlotRange" "J" (.long 0)) (g_o : n0 ≤ o) :
    Con l Z (⟨"com/example/epsilon_filter/epsilonfilter/filters/SlotRule", "<init>", "(IIIJII)V"⟩ : MethodName) prog_73_method_1_code 8 (none) ({ frames := 1, cells := 0, slots := 0, locals := 16 } : Room) #[(.ref o), (.int (2 : Int32)), (.int (4 : Int32)), (.int (8 : Int32)), (.long (0 : Int64)), (.int sg), (.int ct)] h0 n0 (fun v h => h0.size ≤ h.size ∧ v = none ∧ Exa Z h o "com/example/epsilon_filter/epsilonfilter/filters/SlotRule" ∧ Fld Z h o "com/example/epsilon_filter/epsilonfilter/filters/SlotRule" "segmentLength" "I" (.int sg) ∧ Fld Z h o "com/example/epsilon_filter/epsilonfilter/filters/SlotRule" "segmentLengthBits" "I" (.int (Int32.ofNat b))) := by
  refine Con.of (plainFor_of_name (by decide +kernel)) Z0 ?_
  intro K hl hZ hn cx T0 X0
  subst hl hZ hn
  refine Run.cast (ef_P73m1 K.m o sg ct) ?_
  have Kp : Keep h0 h0 [o] := Keep.refl _ _
  refine r_aloadN X0 cx P73m1_0 rfl ?_
  refine r_initO X0 cx P73m1_1 (hw.get 8 rfl) (hw.get 9 rfl) (hw.get 10 rfl) rfl (by decide) (leb rfl) (fun T1 X1 => ?_)
  refine r_aloadN X1 cx P73m1_4 rfl ?_
  refine r_iloadN X1 cx P73m1_5 rfl ?_
  refine r_iconst (2) X1 cx P73m1_6 rfl ?_
  refine r_static [(.int (2 : Int32)), (.int (2 : Int32))] [(.ref o)] X1 cx P73m1_7 (hw.get 11 rfl) (hw.get 12 rfl) (hw.get 13 rfl) (hw.get 14 rfl) (by decide) (con_J29m69 K.l K.Z a0 hw 2 2 h0 K.n0 X1.ge) (lenOf pd_0 rfl) rfl rfl (by decide) (leb rfl) (by decide) (by decide) (fun T2 h2 v2 X2 q2 => ?_) (fun _ _ q => Nat.le_of_eq (congrArg Array.size q.1))
  obtain ⟨rfl, rfl⟩ := q2
  refine r_putfield X2 cx P73m1_10 (hw.get 15 rfl) F_formatVersion E_o (Or.inr ⟨(hw.get 16 rfl), rfl, rfl⟩) (hw.get 3 rfl) (ty := .int) (by decide) rfl rfl g_o (fun T3 h3 X3 W3 N3 => ?_)
  replace Kp := Kp.wr W3 (Or.inl (by simp))
  replace F_offsetsRemixed := F_offsetsRemixed.other W3 (Or.inr (slot_ne (Or.inr (hw.get 18 rfl)) (Or.inr (hw.get 16 rfl)) (by decide) (t := .boolean) (t' := .int) (by decide) (by decide)))
  replace F_arity := F_arity.other W3 (Or.inr (slot_ne (Or.inr (hw.get 20 rfl)) (Or.inr (hw.get 16 rfl)) (by decide) (t := .int) (t' := .int) (by decide) (by decide)))
  replace F_fingerprintBits := F_fingerprintBits.other W3 (Or.inr (slot_ne (Or.inr (hw.get 22 rfl)) (Or.inr (hw.get 16 rfl)) (by decide) (t := .int) (t' := .int) (by decide) (by decide)))
  replace F_seed := F_seed.other W3 (Or.inr (slot_ne (Or.inr (hw.get 24 rfl)) (Or.inr (hw.get 16 rfl)) (by decide) (t := .long) (t' := .int) (by decide) (by decide)))
  replace F_segmentLength := F_segmentLength.other W3 (Or.inr (slot_ne (Or.inr (hw.get 26 rfl)) (Or.inr (hw.get 16 rfl)) (by decide) (t := .int) (t' := .int) (by decide) (by decide)))
  replace F_segmentLengthBits := F_segmentLengthBits.other W3 (Or.inr (slot_ne (Or.inr (hw.get 32 rfl)) (Or.inr (hw.get 16 rfl)) (by decide) (t := .int) (t' := .int) (by decide) (by decide)))
  replace F_segmentCount := F_segmentCount.other W3 (Or.inr (slot_ne (Or.inr (hw.get 34 rfl)) (Or.inr (hw.get 16 rfl)) (by decide) (t := .int) (t' := .int) (by decide) (by decide)))
  replace F_firstSlotRange := F_firstSlotRange.other W3 (Or.inr (slot_ne (Or.inr (hw.get 36 rfl)) (Or.inr (hw.get 16 rfl)) (by decide) (t := .long) (t' := .int) (by decide) (by decide)))
  replace E_o := E_o.wr W3
  have F_formatVersion := N3
  refine r_aloadN X3 cx P73m1_13 rfl ?_
  refine r_iloadN X3 cx P73m1_14 rfl ?_
  refine r_iconst (2) X3 cx P73m1_15 rfl ?_
  refine r_icmplt X3 cx P73m1_16 (fun c => absurd c (by decide)) (fun _ => ?_)
  refine r_iconst (1) X3 cx P73m1_19 rfl ?_
  refine r_goto X3 cx P73m1_20 ?_
  refine r_putfield X3 cx P73m1_24 (hw.get 17 rfl) F_offsetsRemixed E_o (Or.inr ⟨(hw.get 18 rfl), rfl, rfl⟩) (hw.get 3 rfl) (ty := .boolean) (by decide) rfl rfl g_o (fun T4 h4 X4 W4 N4 => ?_)
  replace Kp := Kp.wr W4 (Or.inl (by simp))
  replace F_arity := F_arity.other W4 (Or.inr (slot_ne (Or.inr (hw.get 20 rfl)) (Or.inr (hw.get 18 rfl)) (by decide) (t := .int) (t' := .boolean) (by decide) (by decide)))
  replace F_fingerprintBits := F_fingerprintBits.other W4 (Or.inr (slot_ne (Or.inr (hw.get 22 rfl)) (Or.inr (hw.get 18 rfl)) (by decide) (t := .int) (t' := .boolean) (by decide) (by decide)))
  replace F_seed := F_seed.other W4 (Or.inr (slot_ne (Or.inr (hw.get 24 rfl)) (Or.inr (hw.get 18 rfl)) (by decide) (t := .long) (t' := .boolean) (by decide) (by decide)))
  replace F_segmentLength := F_segmentLength.other W4 (Or.inr (slot_ne (Or.inr (hw.get 26 rfl)) (Or.inr (hw.get 18 rfl)) (by decide) (t := .int) (t' := .boolean) (by decide) (by decide)))
  replace F_segmentLengthBits := F_segmentLengthBits.other W4 (Or.inr (slot_ne (Or.inr (hw.get 32 rfl)) (Or.inr (hw.get 18 rfl)) (by decide) (t := .int) (t' := .boolean) (by decide) (by decide)))
  replace F_segmentCount := F_segmentCount.other W4 (Or.inr (slot_ne (Or.inr (hw.get 34 rfl)) (Or.inr (hw.get 18 rfl)) (by decide) (t := .int) (t' := .boolean) (by decide) (by decide)))
  replace F_firstSlotRange := F_firstSlotRange.other W4 (Or.inr (slot_ne (Or.inr (hw.get 36 rfl)) (Or.inr (hw.get 18 rfl)) (by decide) (t := .long) (t' := .boolean) (by decide) (by decide)))
  replace E_o := E_o.wr W4
  have F_offsetsRemixed := N4
  refine r_aloadN X4 cx P73m1_27 rfl ?_
  refine r_iloadN X4 cx P73m1_28 rfl ?_
  refine r_putfield X4 cx P73m1_29 (hw.get 19 rfl) F_arity E_o (Or.inr ⟨(hw.get 20 rfl), rfl, rfl⟩) (hw.get 3 rfl) (ty := .int) (by decide) rfl rfl g_o (fun T5 h5 X5 W5 N5 => ?_)
  replace Kp := Kp.wr W5 (Or.inl (by simp))
  replace F_fingerprintBits := F_fingerprintBits.other W5 (Or.inr (slot_ne (Or.inr (hw.get 22 rfl)) (Or.inr (hw.get 20 rfl)) (by decide) (t := .int) (t' := .int) (by decide) (by decide)))
  replace F_seed := F_seed.other W5 (Or.inr (slot_ne (Or.inr (hw.get 24 rfl)) (Or.inr (hw.get 20 rfl)) (by decide) (t := .long) (t' := .int) (by decide) (by decide)))
  replace F_segmentLength := F_segmentLength.other W5 (Or.inr (slot_ne (Or.inr (hw.get 26 rfl)) (Or.inr (hw.get 20 rfl)) (by decide) (t := .int) (t' := .int) (by decide) (by decide)))
  replace F_segmentLengthBits := F_segmentLengthBits.other W5 (Or.inr (slot_ne (Or.inr (hw.get 32 rfl)) (Or.inr (hw.get 20 rfl)) (by decide) (t := .int) (t' := .int) (by decide) (by decide)))
  replace F_segmentCount := F_segmentCount.other W5 (Or.inr (slot_ne (Or.inr (hw.get 34 rfl)) (Or.inr (hw.get 20 rfl)) (by decide) (t := .int) (t' := .int) (by decide) (by decide)))
  replace F_firstSlotRange := F_firstSlotRange.other W5 (Or.inr (slot_ne (Or.inr (hw.get 36 rfl)) (Or.inr (hw.get 20 rfl)) (by decide) (t := .long) (t' := .int) (by decide) (by decide)))
  replace E_o := E_o.wr W5
  have F_arity := N5
  refine r_aloadN X5 cx P73m1_32 rfl ?_
  refine r_iloadN X5 cx P73m1_33 rfl ?_
  refine r_putfield X5 cx P73m1_34 (hw.get 21 rfl) F_fingerprintBits E_o (Or.inr ⟨(hw.get 22 rfl), rfl, rfl⟩) (hw.get 3 rfl) (ty := .int) (by decide) rfl rfl g_o (fun T6 h6 X6 W6 N6 => ?_)
  replace Kp := Kp.wr W6 (Or.inl (by simp))
  replace F_seed := F_seed.other W6 (Or.inr (slot_ne (Or.inr (hw.get 24 rfl)) (Or.inr (hw.get 22 rfl)) (by decide) (t := .long) (t' := .int) (by decide) (by decide)))
  replace F_segmentLength := F_segmentLength.other W6 (Or.inr (slot_ne (Or.inr (hw.get 26 rfl)) (Or.inr (hw.get 22 rfl)) (by decide) (t := .int) (t' := .int) (by decide) (by decide)))
  replace F_segmentLengthBits := F_segmentLengthBits.other W6 (Or.inr (slot_ne (Or.inr (hw.get 32 rfl)) (Or.inr (hw.get 22 rfl)) (by decide) (t := .int) (t' := .int) (by decide) (by decide)))
  replace F_segmentCount := F_segmentCount.other W6 (Or.inr (slot_ne (Or.inr (hw.get 34 rfl)) (Or.inr (hw.get 22 rfl)) (by decide) (t := .int) (t' := .int) (by decide) (by decide)))
  replace F_firstSlotRange := F_firstSlotRange.other W6 (Or.inr (slot_ne (Or.inr (hw.get 36 rfl)) (Or.inr (hw.get 22 rfl)) (by decide) (t := .long) (t' := .int) (by decide) (by decide)))
  replace E_o := E_o.wr W6
  have F_fingerprintBits := N6
  refine r_aloadN X6 cx P73m1_37 rfl ?_
  refine r_lload X6 cx P73m1_38 rfl ?_
  refine r_putfield X6 cx P73m1_40 (hw.get 23 rfl) F_seed E_o (Or.inr ⟨(hw.get 24 rfl), rfl, rfl⟩) (hw.get 3 rfl) (ty := .long) (by decide) rfl rfl g_o (fun T7 h7 X7 W7 N7 => ?_)
  replace Kp := Kp.wr W7 (Or.inl (by simp))
  replace F_segmentLength := F_segmentLength.other W7 (Or.inr (slot_ne (Or.inr (hw.get 26 rfl)) (Or.inr (hw.get 24 rfl)) (by decide) (t := .int) (t' := .long) (by decide) (by decide)))
  replace F_segmentLengthBits := F_segmentLengthBits.other W7 (Or.inr (slot_ne (Or.inr (hw.get 32 rfl)) (Or.inr (hw.get 24 rfl)) (by decide) (t := .int) (t' := .long) (by decide) (by decide)))
  replace F_segmentCount := F_segmentCount.other W7 (Or.inr (slot_ne (Or.inr (hw.get 34 rfl)) (Or.inr (hw.get 24 rfl)) (by decide) (t := .int) (t' := .long) (by decide) (by decide)))
  replace F_firstSlotRange := F_firstSlotRange.other W7 (Or.inr (slot_ne (Or.inr (hw.get 36 rfl)) (Or.inr (hw.get 24 rfl)) (by decide) (t := .long) (t' := .long) (by decide) (by decide)))
  replace E_o := E_o.wr W7
  have F_seed := N7
  refine r_aloadN X7 cx P73m1_43 rfl ?_
  refine r_iload X7 cx P73m1_44 rfl ?_
  refine r_putfield X7 cx P73m1_46 (hw.get 25 rfl) F_segmentLength E_o (Or.inr ⟨(hw.get 26 rfl), rfl, rfl⟩) (hw.get 3 rfl) (ty := .int) (by decide) rfl rfl g_o (fun T8 h8 X8 W8 N8 => ?_)
  replace Kp := Kp.wr W8 (Or.inl (by simp))
  replace F_segmentLengthBits := F_segmentLengthBits.other W8 (Or.inr (slot_ne (Or.inr (hw.get 32 rfl)) (Or.inr (hw.get 26 rfl)) (by decide) (t := .int) (t' := .int) (by decide) (by decide)))
  replace F_segmentCount := F_segmentCount.other W8 (Or.inr (slot_ne (Or.inr (hw.get 34 rfl)) (Or.inr (hw.get 26 rfl)) (by decide) (t := .int) (t' := .int) (by decide) (by decide)))
  replace F_firstSlotRange := F_firstSlotRange.other W8 (Or.inr (slot_ne (Or.inr (hw.get 36 rfl)) (Or.inr (hw.get 26 rfl)) (by decide) (t := .long) (t' := .int) (by decide) (by decide)))
  replace E_o := E_o.wr W8
  have F_segmentLength := N8
  refine r_aloadN X8 cx P73m1_49 rfl ?_
  refine r_iload X8 cx P73m1_50 rfl ?_
  refine r_static [(.int sg)] [(.ref o)] X8 cx P73m1_52 (hw.get 27 rfl) (hw.get 28 rfl) (hw.get 29 rfl) (hw.get 30 rfl) (by decide) (con_ntz K.l K.Z a0 hw h8 K.n0 X8.ge b hb sg esg) (lenOf pd_1 rfl) rfl rfl (by decide) (leb rfl) (by decide) (by decide) (fun T9 h9 v9 X9 q9 => ?_) (fun _ _ q => Nat.le_of_eq (congrArg Array.size q.1))
  obtain ⟨rfl, rfl⟩ := q9
  refine r_putfield X9 cx P73m1_55 (hw.get 31 rfl) F_segmentLengthBits E_o (Or.inr ⟨(hw.get 32 rfl), rfl, rfl⟩) (hw.get 3 rfl) (ty := .int) (by decide) rfl rfl g_o (fun T10 h10 X10 W10 N10 => ?_)
  replace Kp := Kp.wr W10 (Or.inl (by simp))
  replace F_segmentLength := F_segmentLength.other W10 (Or.inr (slot_ne (Or.inr (hw.get 26 rfl)) (Or.inr (hw.get 32 rfl)) (by decide) (t := .int) (t' := .int) (by decide) (by decide)))
  replace F_segmentCount := F_segmentCount.other W10 (Or.inr (slot_ne (Or.inr (hw.get 34 rfl)) (Or.inr (hw.get 32 rfl)) (by decide) (t := .int) (t' := .int) (by decide) (by decide)))
  replace F_firstSlotRange := F_firstSlotRange.other W10 (Or.inr (slot_ne (Or.inr (hw.get 36 rfl)) (Or.inr (hw.get 32 rfl)) (by decide) (t := .long) (t' := .int) (by decide) (by decide)))
  replace E_o := E_o.wr W10
  have F_segmentLengthBits := N10
  refine r_aloadN X10 cx P73m1_58 rfl ?_
  refine r_iload X10 cx P73m1_59 rfl ?_
  refine r_putfield X10 cx P73m1_61 (hw.get 33 rfl) F_segmentCount E_o (Or.inr ⟨(hw.get 34 rfl), rfl, rfl⟩) (hw.get 3 rfl) (ty := .int) (by decide) rfl rfl g_o (fun T11 h11 X11 W11 N11 => ?_)
  replace Kp := Kp.wr W11 (Or.inl (by simp))
  replace F_segmentLength := F_segmentLength.other W11 (Or.inr (slot_ne (Or.inr (hw.get 26 rfl)) (Or.inr (hw.get 34 rfl)) (by decide) (t := .int) (t' := .int) (by decide) (by decide)))
  replace F_segmentLengthBits := F_segmentLengthBits.other W11 (Or.inr (slot_ne (Or.inr (hw.get 32 rfl)) (Or.inr (hw.get 34 rfl)) (by decide) (t := .int) (t' := .int) (by decide) (by decide)))
  replace F_firstSlotRange := F_firstSlotRange.other W11 (Or.inr (slot_ne (Or.inr (hw.get 36 rfl)) (Or.inr (hw.get 34 rfl)) (by decide) (t := .long) (t' := .int) (by decide) (by decide)))
  replace E_o := E_o.wr W11
  have F_segmentCount := N11
  refine r_aloadN X11 cx P73m1_64 rfl ?_
  refine r_iload X11 cx P73m1_65 rfl ?_
  refine r_i2l X11 cx P73m1_67 ?_
  refine r_iload X11 cx P73m1_68 rfl ?_
  refine r_i2l X11 cx P73m1_70 ?_
  refine r_lmul X11 cx P73m1_71 ?_
  refine r_putfield X11 cx P73m1_72 (hw.get 35 rfl) F_firstSlotRange E_o (Or.inr ⟨(hw.get 36 rfl), rfl, rfl⟩) (hw.get 3 rfl) (ty := .long) (by decide) rfl rfl g_o (fun T12 h12 X12 W12 N12 => ?_)
  replace Kp := Kp.wr W12 (Or.inl (by simp))
  replace F_segmentLength := F_segmentLength.other W12 (Or.inr (slot_ne (Or.inr (hw.get 26 rfl)) (Or.inr (hw.get 36 rfl)) (by decide) (t := .int) (t' := .long) (by decide) (by decide)))
  replace F_segmentLengthBits := F_segmentLengthBits.other W12 (Or.inr (slot_ne (Or.inr (hw.get 32 rfl)) (Or.inr (hw.get 36 rfl)) (by decide) (t := .int) (t' := .long) (by decide) (by decide)))
  replace E_o := E_o.wr W12
  have F_firstSlotRange := N12
  refine r_return X12 cx P73m1_75 (by decide) (by decide) ?_
  exact ⟨Kp.1, rfl, E_o, F_segmentLength, F_segmentLengthBits⟩
theorem P73m11_0 : Dc prog_73_method_11_code 0 (.iload_n 1) 1 1 := ⟨(by decide +kernel), rfl⟩
theorem P73m11_1 : Dc prog_73_method_11_code 1 (.istore 5) 2 3 := ⟨(by decide +kernel), rfl⟩
theorem P73m11_3 : Dc prog_73_method_11_code 3 (.iload 4) 2 5 := ⟨(by decide +kernel), rfl⟩
theorem P73m11_5 : Db prog_73_method_11_code 5 (.ifCond .le 38) (38) 8 43 := ⟨(by decide +kernel), rfl, by decide, by decide⟩
theorem P73m11_8 : Dc prog_73_method_11_code 8 (.lload_n 2) 1 9 := ⟨(by decide +kernel), rfl⟩
theorem P73m11_9 : Dc prog_73_method_11_code 9 (.aload_n 0) 1 10 := ⟨(by decide +kernel), rfl⟩
theorem P73m11_10 : Dc prog_73_method_11_code 10 (.getfield 42) 3 13 := ⟨(by decide +kernel), rfl⟩
theorem P73m11_13 : Dc prog_73_method_11_code 13 (.iload 4) 2 15 := ⟨(by decide +kernel), rfl⟩
theorem P73m11_15 : Dc prog_73_method_11_code 15 (.iconst 1) 1 16 := ⟨(by decide +kernel), rfl⟩
theorem P73m11_16 : Dc prog_73_method_11_code 16 (.isub) 1 17 := ⟨(by decide +kernel), rfl⟩
theorem P73m11_17 : Dc prog_73_method_11_code 17 (.imul) 1 18 := ⟨(by decide +kernel), rfl⟩
theorem P73m11_18 : Dc prog_73_method_11_code 18 (.lushr) 1 19 := ⟨(by decide +kernel), rfl⟩
theorem P73m11_19 : Dc prog_73_method_11_code 19 (.l2i) 1 20 := ⟨(by decide +kernel), rfl⟩
theorem P73m11_20 : Dc prog_73_method_11_code 20 (.aload_n 0) 1 21 := ⟨(by decide +kernel), rfl⟩
theorem P73m11_21 : Dc prog_73_method_11_code 21 (.getfield 33) 3 24 := ⟨(by decide +kernel), rfl⟩
theorem P73m11_24 : Dc prog_73_method_11_code 24 (.iconst 1) 1 25 := ⟨(by decide +kernel), rfl⟩
theorem P73m11_25 : Dc prog_73_method_11_code 25 (.isub) 1 26 := ⟨(by decide +kernel), rfl⟩
theorem P73m11_26 : Dc prog_73_method_11_code 26 (.iand) 1 27 := ⟨(by decide +kernel), rfl⟩
theorem P73m11_27 : Dc prog_73_method_11_code 27 (.istore 6) 2 29 := ⟨(by decide +kernel), rfl⟩
theorem P73m11_29 : Dc prog_73_method_11_code 29 (.iload_n 1) 1 30 := ⟨(by decide +kernel), rfl⟩
theorem P73m11_30 : Dc prog_73_method_11_code 30 (.aload_n 0) 1 31 := ⟨(by decide +kernel), rfl⟩
theorem P73m11_31 : Dc prog_73_method_11_code 31 (.getfield 33) 3 34 := ⟨(by decide +kernel), rfl⟩
theorem P73m11_34 : Dc prog_73_method_11_code 34 (.iload 4) 2 36 := ⟨(by decide +kernel), rfl⟩
theorem P73m11_36 : Dc prog_73_method_11_code 36 (.imul) 1 37 := ⟨(by decide +kernel), rfl⟩
theorem P73m11_37 : Dc prog_73_method_11_code 37 (.iadd) 1 38 := ⟨(by decide +kernel), rfl⟩
theorem P73m11_38 : Dc prog_73_method_11_code 38 (.iload 6) 2 40 := ⟨(by decide +kernel), rfl⟩
theorem P73m11_40 : Dc prog_73_method_11_code 40 (.ixor) 1 41 := ⟨(by decide +kernel), rfl⟩
theorem P73m11_41 : Dc prog_73_method_11_code 41 (.istore 5) 2 43 := ⟨(by decide +kernel), rfl⟩
theorem P73m11_43 : Dc prog_73_method_11_code 43 (.iload 5) 2 45 := ⟨(by decide +kernel), rfl⟩
theorem P73m11_45 : Dc prog_73_method_11_code 45 (.ireturn) 1 46 := ⟨(by decide +kernel), rfl⟩
theorem ef_P73m11 (m : MethodId) (o : Addr) (fi : Int32) (of : Int64) (j : Int32) : entryFrame m #[(.ref o), (.int fi), (.long of), (.int j)] 7 = mkF m 0 #[.val (.ref o), .val (.int fi), .val (.long of), .second, .val (.int j), .unset, .unset] [] := by first | (simp [entryFrame, mkF, argsToLocals, Value.category]; done) | rfl
set_option maxRecDepth 65536 in
set_option maxHeartbeats 40000000 in
theorem con_P73m11 (l : Launch) (Z : State) (a0 : Array Value) (hw : Tb tables_1 a0 Z) (o : Addr) (fi : Int32) (of : Int64) (j : Int32) (h0 : Heap) (n0 : Nat) (Z0 : n0 ≤ h0.size) (sg bi : Int32) (F_sl : Fld Z h0 o "com/example/epsilon_filter/epsilonfilter/filters/SlotRule" "segmentLength" "I" (.int sg)) (F_sb : Fld Z h0 o "com/example/epsilon_filter/epsilonfilter/filters/SlotRule" "segmentLengthBits" "I" (.int bi)) :
    Con l Z (⟨"com/example/epsilon_filter/epsilonfilter/filters/SlotRule", "slot", "(IJI)I"⟩ : MethodName) prog_73_method_11_code 7 (some (.int)) ({ frames := 0, cells := 0, slots := 0, locals := 0 } : Room) #[(.ref o), (.int fi), (.long of), (.int j)] h0 n0 (fun v h => h0 = h ∧ v = some (.int (own_slot fi of j sg bi))) := by
  refine Con.of (plainFor_of_name (by decide +kernel)) Z0 ?_
  intro K hl hZ hn cx T0 X0
  subst hl hZ hn
  refine Run.cast (ef_P73m11 K.m o fi of j) ?_
  refine r_iloadN X0 cx P73m11_0 rfl ?_
  refine r_istore (fun zz => #[.val (.ref o), .val (.int fi), .val (.long of), .second, .val (.int j), .val (.int zz), .unset]) X0 cx P73m11_1 (fun _ => rfl) (fun i1 e_i1 => ?_)
  refine r_iload X0 cx P73m11_3 rfl ?_
  refine r_ifle X0 cx P73m11_5 (fun c5 => ?_) (fun c5 => ?_)
  · refine r_iload X0 cx P73m11_43 rfl ?_
    refine r_ireturn X0 cx P73m11_45 (by decide) (by decide) ?_
    refine ⟨rfl, ?_⟩
    unfold own_slot
    rw [if_neg c5]
    subst_vars
    rfl
  · refine r_lloadN X0 cx P73m11_8 rfl ?_
    refine r_aloadN X0 cx P73m11_9 rfl ?_
    refine r_getfield X0 cx P73m11_10 (hw.get 31 rfl) F_sb (fun T2 X2 => ?_)
    refine r_iload X2 cx P73m11_13 rfl ?_
    refine r_iconst (1) X2 cx P73m11_15 rfl ?_
    refine r_isub X2 cx P73m11_16 ?_
    refine r_imul X2 cx P73m11_17 ?_
    refine r_lushr X2 cx P73m11_18 ?_
    refine r_l2i X2 cx P73m11_19 ?_
    refine r_aloadN X2 cx P73m11_20 rfl ?_
    refine r_getfield X2 cx P73m11_21 (hw.get 25 rfl) F_sl (fun T3 X3 => ?_)
    refine r_iconst (1) X3 cx P73m11_24 rfl ?_
    refine r_isub X3 cx P73m11_25 ?_
    refine r_iand X3 cx P73m11_26 ?_
    refine r_istore (fun zz => #[.val (.ref o), .val (.int fi), .val (.long of), .second, .val (.int j), .val (.int i1), .val (.int zz)]) X3 cx P73m11_27 (fun _ => rfl) (fun i4 e_i4 => ?_)
    refine r_iloadN X3 cx P73m11_29 rfl ?_
    refine r_aloadN X3 cx P73m11_30 rfl ?_
    refine r_getfield X3 cx P73m11_31 (hw.get 25 rfl) F_sl (fun T5 X5 => ?_)
    refine r_iload X5 cx P73m11_34 rfl ?_
    refine r_imul X5 cx P73m11_36 ?_
    refine r_iadd X5 cx P73m11_37 ?_
    refine r_iload X5 cx P73m11_38 rfl ?_
    refine r_ixor X5 cx P73m11_40 ?_
    refine r_istore (fun zz => #[.val (.ref o), .val (.int fi), .val (.long of), .second, .val (.int j), .val (.int zz), .val (.int i4)]) X5 cx P73m11_41 (fun _ => rfl) (fun i6 e_i6 => ?_)
    refine r_iload X5 cx P73m11_43 rfl ?_
    refine r_ireturn X5 cx P73m11_45 (by decide) (by decide) ?_
    refine ⟨rfl, ?_⟩
    unfold own_slot
    rw [if_pos c5]
    subst_vars
    rfl
theorem L_0 : Dc code 0 (.iload_n 0) 1 1 := ⟨at_0, rfl⟩
theorem L_1 : Dc code 1 (.ldc 7) 2 3 := ⟨at_1, rfl⟩
theorem L_3 : Dc code 3 (.iand) 1 4 := ⟨at_3, rfl⟩
theorem L_4 : Dc code 4 (.bipush 22) 2 6 := ⟨at_4, rfl⟩
theorem L_6 : Dc code 6 (.irem) 1 7 := ⟨at_6, rfl⟩
theorem L_7 : Dc code 7 (.istore 6) 2 9 := ⟨at_7, rfl⟩
theorem L_9 : Dc code 9 (.iconst 1) 1 10 := ⟨at_9, rfl⟩
theorem L_10 : Dc code 10 (.iload 6) 2 12 := ⟨at_10, rfl⟩
theorem L_12 : Dc code 12 (.ishl) 1 13 := ⟨at_12, rfl⟩
theorem L_13 : Dc code 13 (.istore 7) 2 15 := ⟨at_13, rfl⟩
theorem L_15 : Dc code 15 (.iload 7) 2 17 := ⟨at_15, rfl⟩
theorem L_17 : Dc code 17 (.iconst 1) 1 18 := ⟨at_17, rfl⟩
theorem L_18 : Dc code 18 (.isub) 1 19 := ⟨at_18, rfl⟩
theorem L_19 : Dc code 19 (.istore 8) 2 21 := ⟨at_19, rfl⟩
theorem L_21 : Dc code 21 (.iload_n 1) 1 22 := ⟨at_21, rfl⟩
theorem L_22 : Dc code 22 (.ldc 7) 2 24 := ⟨at_22, rfl⟩
theorem L_24 : Dc code 24 (.iand) 1 25 := ⟨at_24, rfl⟩
theorem L_25 : Dc code 25 (.ldc 7) 2 27 := ⟨at_25, rfl⟩
theorem L_27 : Dc code 27 (.iconst 4) 1 28 := ⟨at_27, rfl⟩
theorem L_28 : Dc code 28 (.iload 7) 2 30 := ⟨at_28, rfl⟩
theorem L_30 : Dc code 30 (.imul) 1 31 := ⟨at_30, rfl⟩
theorem L_31 : Dc code 31 (.isub) 1 32 := ⟨at_31, rfl⟩
theorem L_32 : Dc code 32 (.iconst 1) 1 33 := ⟨at_32, rfl⟩
theorem L_33 : Dc code 33 (.iadd) 1 34 := ⟨at_33, rfl⟩
theorem L_34 : Dc code 34 (.irem) 1 35 := ⟨at_34, rfl⟩
theorem L_35 : Dc code 35 (.istore 9) 2 37 := ⟨at_35, rfl⟩
theorem L_37 : Dc code 37 (.iload_n 2) 1 38 := ⟨at_37, rfl⟩
theorem L_38 : Dc code 38 (.iconst 3) 1 39 := ⟨at_38, rfl⟩
theorem L_39 : Dc code 39 (.iand) 1 40 := ⟨at_39, rfl⟩
theorem L_40 : Dc code 40 (.istore 10) 2 42 := ⟨at_40, rfl⟩
theorem L_42 : Dc code 42 (.iload 5) 2 44 := ⟨at_42, rfl⟩
theorem L_44 : Dc code 44 (.iload 8) 2 46 := ⟨at_44, rfl⟩
theorem L_46 : Dc code 46 (.iand) 1 47 := ⟨at_46, rfl⟩
theorem L_47 : Dc code 47 (.istore 11) 2 49 := ⟨at_47, rfl⟩
theorem L_49 : Dc code 49 (.iconst 0) 1 50 := ⟨at_49, rfl⟩
theorem L_50 : Dc code 50 (.istore 12) 2 52 := ⟨at_50, rfl⟩
theorem L_52 : Dc code 52 (.iload 10) 2 54 := ⟨at_52, rfl⟩
theorem L_54 : Dc code 54 (.iconst 2) 1 55 := ⟨at_54, rfl⟩
theorem L_55 : Db code 55 (.if_icmp .ne 7) (7) 58 62 := ⟨at_55, rfl, by decide, by decide⟩
theorem L_58 : Dc code 58 (.iload 6) 2 60 := ⟨at_58, rfl⟩
theorem L_60 : Dc code 60 (.istore 12) 2 62 := ⟨at_60, rfl⟩
theorem L_62 : Dc code 62 (.iload 10) 2 64 := ⟨at_62, rfl⟩
theorem L_64 : Dc code 64 (.iconst 3) 1 65 := ⟨at_64, rfl⟩
theorem L_65 : Db code 65 (.if_icmp .ne 9) (9) 68 74 := ⟨at_65, rfl, by decide, by decide⟩
theorem L_68 : Dc code 68 (.iconst 2) 1 69 := ⟨at_68, rfl⟩
theorem L_69 : Dc code 69 (.iload 6) 2 71 := ⟨at_69, rfl⟩
theorem L_71 : Dc code 71 (.imul) 1 72 := ⟨at_71, rfl⟩
theorem L_72 : Dc code 72 (.istore 12) 2 74 := ⟨at_72, rfl⟩
theorem L_74 : Dc code 74 (.lload_n 3) 1 75 := ⟨at_74, rfl⟩
theorem L_75 : Dc code 75 (.lstore 13) 2 77 := ⟨at_75, rfl⟩
theorem L_77 : Dc code 77 (.iload 10) 2 79 := ⟨at_77, rfl⟩
theorem L_79 : Db code 79 (.ifCond .le 24) (24) 82 103 := ⟨at_79, rfl, by decide, by decide⟩
theorem L_82 : Dc code 82 (.lload_n 3) 1 83 := ⟨at_82, rfl⟩
theorem L_83 : Dc code 83 (.iload 8) 2 85 := ⟨at_83, rfl⟩
theorem L_85 : Dc code 85 (.i2l) 1 86 := ⟨at_85, rfl⟩
theorem L_86 : Dc code 86 (.iload 12) 2 88 := ⟨at_86, rfl⟩
theorem L_88 : Dc code 88 (.lshl) 1 89 := ⟨at_88, rfl⟩
theorem L_89 : Dc code 89 (.ldc2_w 10) 3 92 := ⟨at_89, rfl⟩
theorem L_92 : Dc code 92 (.lxor) 1 93 := ⟨at_92, rfl⟩
theorem L_93 : Dc code 93 (.land) 1 94 := ⟨at_93, rfl⟩
theorem L_94 : Dc code 94 (.iload 11) 2 96 := ⟨at_94, rfl⟩
theorem L_96 : Dc code 96 (.i2l) 1 97 := ⟨at_96, rfl⟩
theorem L_97 : Dc code 97 (.iload 12) 2 99 := ⟨at_97, rfl⟩
theorem L_99 : Dc code 99 (.lshl) 1 100 := ⟨at_99, rfl⟩
theorem L_100 : Dc code 100 (.lor) 1 101 := ⟨at_100, rfl⟩
theorem L_101 : Dc code 101 (.lstore 13) 2 103 := ⟨at_101, rfl⟩
theorem L_103 : Dc code 103 (.new 12) 3 106 := ⟨at_103, rfl⟩
theorem L_106 : Dc code 106 (.dup) 1 107 := ⟨at_106, rfl⟩
theorem L_107 : Dc code 107 (.iconst 2) 1 108 := ⟨at_107, rfl⟩
theorem L_108 : Dc code 108 (.iconst 4) 1 109 := ⟨at_108, rfl⟩
theorem L_109 : Dc code 109 (.bipush 8) 2 111 := ⟨at_109, rfl⟩
theorem L_111 : Dc code 111 (.lconst 0) 1 112 := ⟨at_111, rfl⟩
theorem L_112 : Dc code 112 (.iload 7) 2 114 := ⟨at_112, rfl⟩
theorem L_114 : Dc code 114 (.iload 9) 2 116 := ⟨at_114, rfl⟩
theorem L_116 : Dc code 116 (.iload 7) 2 118 := ⟨at_116, rfl⟩
theorem L_118 : Dc code 118 (.idiv) 1 119 := ⟨at_118, rfl⟩
theorem L_119 : Dc code 119 (.iconst 1) 1 120 := ⟨at_119, rfl⟩
theorem L_120 : Dc code 120 (.iadd) 1 121 := ⟨at_120, rfl⟩
theorem L_121 : Dc code 121 (.invokespecial 14) 3 124 := ⟨at_121, rfl⟩
theorem L_124 : Dc code 124 (.astore 15) 2 126 := ⟨at_124, rfl⟩
theorem L_126 : Dc code 126 (.aload 15) 2 128 := ⟨at_126, rfl⟩
theorem L_128 : Dc code 128 (.iload 9) 2 130 := ⟨at_128, rfl⟩
theorem L_130 : Dc code 130 (.lload 13) 2 132 := ⟨at_130, rfl⟩
theorem L_132 : Dc code 132 (.iload 10) 2 134 := ⟨at_132, rfl⟩
theorem L_134 : Dc code 134 (.invokevirtual 17) 3 137 := ⟨at_134, rfl⟩
theorem L_137 : Dc code 137 (.istore 16) 2 139 := ⟨at_137, rfl⟩
theorem L_139 : Dc code 139 (.iload 9) 2 141 := ⟨at_139, rfl⟩
theorem L_141 : Dc code 141 (.istore 17) 2 143 := ⟨at_141, rfl⟩
theorem L_143 : Dc code 143 (.iload 10) 2 145 := ⟨at_143, rfl⟩
theorem L_145 : Db code 145 (.ifCond .le 33) (33) 148 178 := ⟨at_145, rfl, by decide, by decide⟩
theorem L_148 : Dc code 148 (.iload 9) 2 150 := ⟨at_148, rfl⟩
theorem L_150 : Dc code 150 (.iload 6) 2 152 := ⟨at_150, rfl⟩
theorem L_152 : Dc code 152 (.iushr) 1 153 := ⟨at_152, rfl⟩
theorem L_153 : Dc code 153 (.iload 10) 2 155 := ⟨at_153, rfl⟩
theorem L_155 : Dc code 155 (.iadd) 1 156 := ⟨at_155, rfl⟩
theorem L_156 : Dc code 156 (.istore 18) 2 158 := ⟨at_156, rfl⟩
theorem L_158 : Dc code 158 (.iload 9) 2 160 := ⟨at_158, rfl⟩
theorem L_160 : Dc code 160 (.iload 8) 2 162 := ⟨at_160, rfl⟩
theorem L_162 : Dc code 162 (.iand) 1 163 := ⟨at_162, rfl⟩
theorem L_163 : Dc code 163 (.iload 11) 2 165 := ⟨at_163, rfl⟩
theorem L_165 : Dc code 165 (.ixor) 1 166 := ⟨at_165, rfl⟩
theorem L_166 : Dc code 166 (.istore 19) 2 168 := ⟨at_166, rfl⟩
theorem L_168 : Dc code 168 (.iload 18) 2 170 := ⟨at_168, rfl⟩
theorem L_170 : Dc code 170 (.iload 6) 2 172 := ⟨at_170, rfl⟩
theorem L_172 : Dc code 172 (.ishl) 1 173 := ⟨at_172, rfl⟩
theorem L_173 : Dc code 173 (.iload 19) 2 175 := ⟨at_173, rfl⟩
theorem L_175 : Dc code 175 (.ior) 1 176 := ⟨at_175, rfl⟩
theorem L_176 : Dc code 176 (.istore 17) 2 178 := ⟨at_176, rfl⟩
theorem L_178 : Dc code 178 (.iload 16) 2 180 := ⟨at_178, rfl⟩
theorem L_180 : Dc code 180 (.iload 17) 2 182 := ⟨at_180, rfl⟩
theorem L_182 : Db code 182 (.if_icmp .ne 7) (7) 185 189 := ⟨at_182, rfl, by decide, by decide⟩
theorem L_185 : Dc code 185 (.iconst 1) 1 186 := ⟨at_185, rfl⟩
theorem L_186 : Db code 186 (.goto 4) (4) 189 190 := ⟨at_186, rfl, by decide, by decide⟩
theorem L_189 : Dc code 189 (.iconst 0) 1 190 := ⟨at_189, rfl⟩
theorem L_190 : Dc code 190 (.ireturn) 1 191 := ⟨at_190, rfl⟩
theorem ef_L (m : MethodId) (i0 : Int32) (i1 : Int32) (i2 : Int32) (i3 : Int64) (i4 : Int32) : entryFrame m #[(.int i0), (.int i1), (.int i2), (.long i3), (.int i4)] maxLocals = mkF m 0 #[.val (.int i0), .val (.int i1), .val (.int i2), .val (.long i3), .second, .val (.int i4), .unset, .unset, .unset, .unset, .unset, .unset, .unset, .unset, .unset, .unset, .unset, .unset, .unset, .unset] [] := by first | (simp [entryFrame, mkF, argsToLocals, Value.category, maxLocals]; done) | rfl
set_option maxRecDepth 65536 in
set_option maxHeartbeats 40000000 in
theorem con_L (l : Launch) (Z : State) (a0 : Array Value) (hw : Tb tables_1 a0 Z) (i0 : Int32) (i1 : Int32) (i2 : Int32) (i3 : Int64) (i4 : Int32) (h0 : Heap) (n0 : Nat) (Z0 : n0 ≤ h0.size)  :
    Con l Z x code maxLocals ret room_1 #[(.int i0), (.int i1), (.int i2), (.long i3), (.int i4)] h0 n0 (fun v _ => v = some (.int 1)) := by
  refine Con.of (plainFor_of_name (by decide +kernel)) Z0 ?_
  intro K hl hZ hn cx T0 X0
  subst hl hZ hn
  refine Run.cast (ef_L K.m i0 i1 i2 i3 i4) ?_
  refine r_iloadN X0 cx L_0 rfl ?_
  refine r_ldc X0 cx L_1 (hw.get 0 rfl) ?_
  refine r_iand X0 cx L_3 ?_
  refine r_bipush (22) X0 cx L_4 rfl ?_
  refine r_irem X0 cx L_6 (by decide) ?_
  refine r_istore (fun zz => #[.val (.int i0), .val (.int i1), .val (.int i2), .val (.long i3), .second, .val (.int i4), .val (.int zz), .unset, .unset, .unset, .unset, .unset, .unset, .unset, .unset, .unset, .unset, .unset, .unset, .unset]) X0 cx L_7 (fun _ => rfl) (fun b e_b => ?_)
  obtain ⟨nb, hb, q⟩ := own_ir (i0 &&& 2147483647) (n := 22) (own_and31 i0) (by decide) (by decide)
  have eb : b = Int32.ofNat nb := e_b.trans q
  clear q e_b
  subst eb
  obtain ⟨pw1, pw2, pw3, pw4, pw5⟩ := own_pw ⟨nb, hb⟩
  simp only at pw1 pw2 pw3 pw4 pw5
  have pw6 := Nat.two_pow_pos nb
  refine r_iconst (1) X0 cx L_9 rfl ?_
  refine r_iload X0 cx L_10 rfl ?_
  refine r_ishl X0 cx L_12 ?_
  refine r_istore (fun zz => #[.val (.int i0), .val (.int i1), .val (.int i2), .val (.long i3), .second, .val (.int i4), .val (.int (Int32.ofNat nb)), .val (.int zz), .unset, .unset, .unset, .unset, .unset, .unset, .unset, .unset, .unset, .unset, .unset, .unset]) X0 cx L_13 (fun _ => rfl) (fun sg e_sg => ?_)
  have esg := e_sg.trans pw1
  clear e_sg
  subst esg
  refine r_iload X0 cx L_15 rfl ?_
  refine r_iconst (1) X0 cx L_17 rfl ?_
  refine r_isub X0 cx L_18 ?_
  refine r_istore (fun zz => #[.val (.int i0), .val (.int i1), .val (.int i2), .val (.long i3), .second, .val (.int i4), .val (.int (Int32.ofNat nb)), .val (.int (Int32.ofNat (2 ^ nb))), .val (.int zz), .unset, .unset, .unset, .unset, .unset, .unset, .unset, .unset, .unset, .unset, .unset]) X0 cx L_19 (fun _ => rfl) (fun mk e_mk => ?_)
  have emk := e_mk.trans pw2
  clear e_mk
  subst emk
  refine r_iloadN X0 cx L_21 rfl ?_
  refine r_ldc X0 cx L_22 (hw.get 0 rfl) ?_
  refine r_iand X0 cx L_24 ?_
  refine r_ldc X0 cx L_25 (hw.get 0 rfl) ?_
  refine r_iconst (4) X0 cx L_27 rfl ?_
  refine r_iload X0 cx L_28 rfl ?_
  refine r_imul X0 cx L_30 ?_
  refine r_isub X0 cx L_31 ?_
  refine r_iconst (1) X0 cx L_32 rfl ?_
  refine r_iadd X0 cx L_33 ?_
  refine r_irem X0 cx L_34 (by
    rw [pw3]; intro q
    have := congrArg Int32.toInt q
    rw [Int32.toInt_ofNat_of_lt (by omega)] at this
    have h0 : (0 : Int32).toInt = 0 := rfl
    omega) ?_
  refine r_istore (fun zz => #[.val (.int i0), .val (.int i1), .val (.int i2), .val (.long i3), .second, .val (.int i4), .val (.int (Int32.ofNat nb)), .val (.int (Int32.ofNat (2 ^ nb))), .val (.int (Int32.ofNat (2 ^ nb - 1))), .val (.int zz), .unset, .unset, .unset, .unset, .unset, .unset, .unset, .unset, .unset, .unset]) X0 cx L_35 (fun _ => rfl) (fun fi e_fi => ?_)
  rw [pw3] at e_fi
  obtain ⟨nf, hf, q⟩ := own_ir (i1 &&& 2147483647) (n := 2147483648 - 4 * 2 ^ nb) (own_and31 i1) (by omega) (by omega)
  have efi := e_fi.trans q
  clear q e_fi
  subst efi
  refine r_iloadN X0 cx L_37 rfl ?_
  refine r_iconst (3) X0 cx L_38 rfl ?_
  refine r_iand X0 cx L_39 ?_
  refine r_istore (fun zz => #[.val (.int i0), .val (.int i1), .val (.int i2), .val (.long i3), .second, .val (.int i4), .val (.int (Int32.ofNat nb)), .val (.int (Int32.ofNat (2 ^ nb))), .val (.int (Int32.ofNat (2 ^ nb - 1))), .val (.int (Int32.ofNat nf)), .val (.int zz), .unset, .unset, .unset, .unset, .unset, .unset, .unset, .unset, .unset]) X0 cx L_40 (fun _ => rfl) (fun j e_j => ?_)
  refine r_iload X0 cx L_42 rfl ?_
  refine r_iload X0 cx L_44 rfl ?_
  refine r_iand X0 cx L_46 ?_
  refine r_istore (fun zz => #[.val (.int i0), .val (.int i1), .val (.int i2), .val (.long i3), .second, .val (.int i4), .val (.int (Int32.ofNat nb)), .val (.int (Int32.ofNat (2 ^ nb))), .val (.int (Int32.ofNat (2 ^ nb - 1))), .val (.int (Int32.ofNat nf)), .val (.int j), .val (.int zz), .unset, .unset, .unset, .unset, .unset, .unset, .unset, .unset]) X0 cx L_47 (fun _ => rfl) (fun g e_g => ?_)
  obtain ⟨ng, hg, q⟩ := own_mk i4 (2 ^ nb - 1) (by omega)
  have eg := e_g.trans q
  clear q e_g
  subst eg
  have hg2 : ng < 2 ^ nb := by have := Nat.two_pow_pos nb; omega
  rcases own_m3 i2 with m3 | m3 | m3 | m3
  · obtain rfl : j = (0 : Int32) := e_j.trans m3
    refine r_iconst (0) X0 cx L_49 rfl ?_
    refine r_istore (fun zz => #[.val (.int i0), .val (.int i1), .val (.int i2), .val (.long i3), .second, .val (.int i4), .val (.int (Int32.ofNat nb)), .val (.int (Int32.ofNat (2 ^ nb))), .val (.int (Int32.ofNat (2 ^ nb - 1))), .val (.int (Int32.ofNat nf)), .val (.int (0 : Int32)), .val (.int (Int32.ofNat ng)), .val (.int zz), .unset, .unset, .unset, .unset, .unset, .unset, .unset]) X0 cx L_50 (fun _ => rfl) (fun iz1 e_iz1 => ?_)
    subst e_iz1
    refine r_iload X0 cx L_52 rfl ?_
    refine r_iconst (2) X0 cx L_54 rfl ?_
    refine r_icmpne X0 cx L_55 (fun _ => ?_) (fun c => absurd c (by decide))
    refine r_iload X0 cx L_62 rfl ?_
    refine r_iconst (3) X0 cx L_64 rfl ?_
    refine r_icmpne X0 cx L_65 (fun _ => ?_) (fun c => absurd c (by decide))
    refine r_lloadN X0 cx L_74 rfl ?_
    refine r_lstore (fun zz => #[.val (.int i0), .val (.int i1), .val (.int i2), .val (.long i3), .second, .val (.int i4), .val (.int (Int32.ofNat nb)), .val (.int (Int32.ofNat (2 ^ nb))), .val (.int (Int32.ofNat (2 ^ nb - 1))), .val (.int (Int32.ofNat nf)), .val (.int (0 : Int32)), .val (.int (Int32.ofNat ng)), .val (.int (0 : Int32)), .val (.long zz), .second, .unset, .unset, .unset, .unset, .unset]) X0 cx L_75 (fun _ => rfl) (fun jz2 e_jz2 => ?_)
    replace e_jz2 := e_jz2.symm
    subst e_jz2
    refine r_iload X0 cx L_77 rfl ?_
    refine r_ifle X0 cx L_79 (fun _ => ?_) (fun c => absurd c (by decide))
    refine r_new X0 cx L_103 (hw.get 2 rfl) (hw.get 3 rfl) (hw.get 4 rfl) (by decide) (by decide) (fun Tz3 hz3 o eaz3 g_o Xz3 Exz3 E_o Dz3 => ?_)
    have F_formatVersion_o := Dz3 (Or.inr (hw.get 16 rfl)) (ty := .int) (by decide)
    have F_offsetsRemixed_o := Dz3 (Or.inr (hw.get 18 rfl)) (ty := .boolean) (by decide)
    have F_arity_o := Dz3 (Or.inr (hw.get 20 rfl)) (ty := .int) (by decide)
    have F_fingerprintBits_o := Dz3 (Or.inr (hw.get 22 rfl)) (ty := .int) (by decide)
    have F_seed_o := Dz3 (Or.inr (hw.get 24 rfl)) (ty := .long) (by decide)
    have F_segmentLength_o := Dz3 (Or.inr (hw.get 26 rfl)) (ty := .int) (by decide)
    have F_segmentLengthBits_o := Dz3 (Or.inr (hw.get 32 rfl)) (ty := .int) (by decide)
    have F_segmentCount_o := Dz3 (Or.inr (hw.get 34 rfl)) (ty := .int) (by decide)
    have F_firstSlotRange_o := Dz3 (Or.inr (hw.get 36 rfl)) (ty := .long) (by decide)
    refine r_dup Xz3 cx L_106 rfl ?_
    refine r_iconst (2) Xz3 cx L_107 rfl ?_
    refine r_iconst (4) Xz3 cx L_108 rfl ?_
    refine r_bipush (8) Xz3 cx L_109 rfl ?_
    refine r_lconst (0) Xz3 cx L_111 rfl ?_
    refine r_iload Xz3 cx L_112 rfl ?_
    refine r_iload Xz3 cx L_114 rfl ?_
    refine r_iload Xz3 cx L_116 rfl ?_
    refine r_idiv Xz3 cx L_118 pw4 ?_
    refine r_iconst (1) Xz3 cx L_119 rfl ?_
    refine r_iadd Xz3 cx L_120 ?_
    refine r_special [(.int (2 : Int32)), (.int (4 : Int32)), (.int (8 : Int32)), (.long (0 : Int64)), (.int (Int32.ofNat (2 ^ nb))), (.int (((Int32.ofNat nf) / (Int32.ofNat (2 ^ nb))) + (1 : Int32)))] [(.ref o)] Xz3 cx L_121 rfl (hw.get 5 rfl) (hw.get 6 rfl) (hw.get 4 rfl) (hw.get 7 rfl) (by decide) (con_P73m1 K.l K.Z a0 hw o (Int32.ofNat (2 ^ nb)) (((Int32.ofNat nf) / (Int32.ofNat (2 ^ nb))) + (1 : Int32)) hz3 K.n0 Xz3.ge nb hb rfl E_o F_formatVersion_o F_offsetsRemixed_o F_arity_o F_fingerprintBits_o F_seed_o F_segmentLength_o F_segmentLengthBits_o F_segmentCount_o F_firstSlotRange_o g_o) (lenOf pd_2 rfl) rfl rfl (by decide) (leb rfl) (by decide) (by decide) (fun Tz4 hz4 vz4 Xz4 qz4 => ?_) (fun _ _ q => q.1)
    obtain ⟨zz4, rfl, E_o, F_sl, F_sb⟩ := qz4
    refine r_astore #[.val (.int i0), .val (.int i1), .val (.int i2), .val (.long i3), .second, .val (.int i4), .val (.int (Int32.ofNat nb)), .val (.int (Int32.ofNat (2 ^ nb))), .val (.int (Int32.ofNat (2 ^ nb - 1))), .val (.int (Int32.ofNat nf)), .val (.int (0 : Int32)), .val (.int (Int32.ofNat ng)), .val (.int (0 : Int32)), .val (.long i3), .second, .val (.ref o), .unset, .unset, .unset, .unset] Xz4 cx L_124 rfl ?_
    refine r_aload Xz4 cx L_126 rfl ?_
    refine r_iload Xz4 cx L_128 rfl ?_
    refine r_lload Xz4 cx L_130 rfl ?_
    refine r_iload Xz4 cx L_132 rfl ?_
    refine r_virtual [(.int (Int32.ofNat nf)), (.long i3), (.int (0 : Int32))] [] Xz4 cx L_134 E_o (hw.get 37 rfl) (hw.get 38 rfl) (hw.get 40 rfl) (hw.get 39 rfl) (hw.get 4 rfl) (hw.get 41 rfl) (by decide) (con_P73m11 K.l K.Z a0 hw o (Int32.ofNat nf) i3 (0 : Int32) hz4 K.n0 Xz4.ge (Int32.ofNat (2 ^ nb)) (Int32.ofNat nb) F_sl F_sb) (lenOf pd_3 rfl) rfl rfl (by decide) (leb rfl) (by decide) (by decide) (fun Tz5 hz5 vz5 Xz5 qz5 => ?_) (fun _ _ q => Nat.le_of_eq (congrArg Array.size q.1))
    obtain ⟨rfl, rfl⟩ := qz5
    refine r_istore (fun zz => #[.val (.int i0), .val (.int i1), .val (.int i2), .val (.long i3), .second, .val (.int i4), .val (.int (Int32.ofNat nb)), .val (.int (Int32.ofNat (2 ^ nb))), .val (.int (Int32.ofNat (2 ^ nb - 1))), .val (.int (Int32.ofNat nf)), .val (.int (0 : Int32)), .val (.int (Int32.ofNat ng)), .val (.int (0 : Int32)), .val (.long i3), .second, .val (.ref o), .val (.int zz), .unset, .unset, .unset]) Xz5 cx L_137 (fun _ => rfl) (fun ac e_ac => ?_)
    refine r_iload Xz5 cx L_139 rfl ?_
    refine r_istore (fun zz => #[.val (.int i0), .val (.int i1), .val (.int i2), .val (.long i3), .second, .val (.int i4), .val (.int (Int32.ofNat nb)), .val (.int (Int32.ofNat (2 ^ nb))), .val (.int (Int32.ofNat (2 ^ nb - 1))), .val (.int (Int32.ofNat nf)), .val (.int (0 : Int32)), .val (.int (Int32.ofNat ng)), .val (.int (0 : Int32)), .val (.long i3), .second, .val (.ref o), .val (.int ac), .val (.int zz), .unset, .unset]) Xz5 cx L_141 (fun _ => rfl) (fun ex0 e_ex0 => ?_)
    refine r_iload Xz5 cx L_143 rfl ?_
    refine r_ifle Xz5 cx L_145 (fun _ => ?_) (fun c => absurd c (by decide))
    refine r_iload Xz5 cx L_178 rfl ?_
    refine r_iload Xz5 cx L_180 rfl ?_
    refine r_icmpne Xz5 cx L_182 (fun c182 => ?_) (fun c182 => ?_)
    · exact absurd (by rw [e_ac, e_ex0]; unfold own_slot; rw [if_neg (by decide)]) c182
    · refine r_iconst (1) Xz5 cx L_185 rfl ?_
      refine r_goto Xz5 cx L_186 ?_
      refine r_zreturn Xz5 cx L_190 (by decide) (by decide) ?_
      rfl
  · obtain rfl : j = (1 : Int32) := e_j.trans m3
    refine r_iconst (0) X0 cx L_49 rfl ?_
    refine r_istore (fun zz => #[.val (.int i0), .val (.int i1), .val (.int i2), .val (.long i3), .second, .val (.int i4), .val (.int (Int32.ofNat nb)), .val (.int (Int32.ofNat (2 ^ nb))), .val (.int (Int32.ofNat (2 ^ nb - 1))), .val (.int (Int32.ofNat nf)), .val (.int (1 : Int32)), .val (.int (Int32.ofNat ng)), .val (.int zz), .unset, .unset, .unset, .unset, .unset, .unset, .unset]) X0 cx L_50 (fun _ => rfl) (fun iz1 e_iz1 => ?_)
    subst e_iz1
    refine r_iload X0 cx L_52 rfl ?_
    refine r_iconst (2) X0 cx L_54 rfl ?_
    refine r_icmpne X0 cx L_55 (fun _ => ?_) (fun c => absurd c (by decide))
    refine r_iload X0 cx L_62 rfl ?_
    refine r_iconst (3) X0 cx L_64 rfl ?_
    refine r_icmpne X0 cx L_65 (fun _ => ?_) (fun c => absurd c (by decide))
    refine r_lloadN X0 cx L_74 rfl ?_
    refine r_lstore (fun zz => #[.val (.int i0), .val (.int i1), .val (.int i2), .val (.long i3), .second, .val (.int i4), .val (.int (Int32.ofNat nb)), .val (.int (Int32.ofNat (2 ^ nb))), .val (.int (Int32.ofNat (2 ^ nb - 1))), .val (.int (Int32.ofNat nf)), .val (.int (1 : Int32)), .val (.int (Int32.ofNat ng)), .val (.int (0 : Int32)), .val (.long zz), .second, .unset, .unset, .unset, .unset, .unset]) X0 cx L_75 (fun _ => rfl) (fun jz2 e_jz2 => ?_)
    replace e_jz2 := e_jz2.symm
    subst e_jz2
    refine r_iload X0 cx L_77 rfl ?_
    refine r_ifle X0 cx L_79 (fun c => absurd c (by decide)) (fun _ => ?_)
    refine r_lloadN X0 cx L_82 rfl ?_
    refine r_iload X0 cx L_83 rfl ?_
    refine r_i2l X0 cx L_85 ?_
    refine r_iload X0 cx L_86 rfl ?_
    refine r_lshl X0 cx L_88 ?_
    refine r_ldc2 X0 cx L_89 (hw.get 1 rfl) ?_
    refine r_lxor X0 cx L_92 ?_
    refine r_land X0 cx L_93 ?_
    refine r_iload X0 cx L_94 rfl ?_
    refine r_i2l X0 cx L_96 ?_
    refine r_iload X0 cx L_97 rfl ?_
    refine r_lshl X0 cx L_99 ?_
    refine r_lor X0 cx L_100 ?_
    refine r_lstore (fun zz => #[.val (.int i0), .val (.int i1), .val (.int i2), .val (.long i3), .second, .val (.int i4), .val (.int (Int32.ofNat nb)), .val (.int (Int32.ofNat (2 ^ nb))), .val (.int (Int32.ofNat (2 ^ nb - 1))), .val (.int (Int32.ofNat nf)), .val (.int (1 : Int32)), .val (.int (Int32.ofNat ng)), .val (.int (0 : Int32)), .val (.long zz), .second, .unset, .unset, .unset, .unset, .unset]) X0 cx L_101 (fun _ => rfl) (fun off e_off => ?_)
    refine r_new X0 cx L_103 (hw.get 2 rfl) (hw.get 3 rfl) (hw.get 4 rfl) (by decide) (by decide) (fun Tz3 hz3 o eaz3 g_o Xz3 Exz3 E_o Dz3 => ?_)
    have F_formatVersion_o := Dz3 (Or.inr (hw.get 16 rfl)) (ty := .int) (by decide)
    have F_offsetsRemixed_o := Dz3 (Or.inr (hw.get 18 rfl)) (ty := .boolean) (by decide)
    have F_arity_o := Dz3 (Or.inr (hw.get 20 rfl)) (ty := .int) (by decide)
    have F_fingerprintBits_o := Dz3 (Or.inr (hw.get 22 rfl)) (ty := .int) (by decide)
    have F_seed_o := Dz3 (Or.inr (hw.get 24 rfl)) (ty := .long) (by decide)
    have F_segmentLength_o := Dz3 (Or.inr (hw.get 26 rfl)) (ty := .int) (by decide)
    have F_segmentLengthBits_o := Dz3 (Or.inr (hw.get 32 rfl)) (ty := .int) (by decide)
    have F_segmentCount_o := Dz3 (Or.inr (hw.get 34 rfl)) (ty := .int) (by decide)
    have F_firstSlotRange_o := Dz3 (Or.inr (hw.get 36 rfl)) (ty := .long) (by decide)
    refine r_dup Xz3 cx L_106 rfl ?_
    refine r_iconst (2) Xz3 cx L_107 rfl ?_
    refine r_iconst (4) Xz3 cx L_108 rfl ?_
    refine r_bipush (8) Xz3 cx L_109 rfl ?_
    refine r_lconst (0) Xz3 cx L_111 rfl ?_
    refine r_iload Xz3 cx L_112 rfl ?_
    refine r_iload Xz3 cx L_114 rfl ?_
    refine r_iload Xz3 cx L_116 rfl ?_
    refine r_idiv Xz3 cx L_118 pw4 ?_
    refine r_iconst (1) Xz3 cx L_119 rfl ?_
    refine r_iadd Xz3 cx L_120 ?_
    refine r_special [(.int (2 : Int32)), (.int (4 : Int32)), (.int (8 : Int32)), (.long (0 : Int64)), (.int (Int32.ofNat (2 ^ nb))), (.int (((Int32.ofNat nf) / (Int32.ofNat (2 ^ nb))) + (1 : Int32)))] [(.ref o)] Xz3 cx L_121 rfl (hw.get 5 rfl) (hw.get 6 rfl) (hw.get 4 rfl) (hw.get 7 rfl) (by decide) (con_P73m1 K.l K.Z a0 hw o (Int32.ofNat (2 ^ nb)) (((Int32.ofNat nf) / (Int32.ofNat (2 ^ nb))) + (1 : Int32)) hz3 K.n0 Xz3.ge nb hb rfl E_o F_formatVersion_o F_offsetsRemixed_o F_arity_o F_fingerprintBits_o F_seed_o F_segmentLength_o F_segmentLengthBits_o F_segmentCount_o F_firstSlotRange_o g_o) (lenOf pd_2 rfl) rfl rfl (by decide) (leb rfl) (by decide) (by decide) (fun Tz4 hz4 vz4 Xz4 qz4 => ?_) (fun _ _ q => q.1)
    obtain ⟨zz4, rfl, E_o, F_sl, F_sb⟩ := qz4
    refine r_astore #[.val (.int i0), .val (.int i1), .val (.int i2), .val (.long i3), .second, .val (.int i4), .val (.int (Int32.ofNat nb)), .val (.int (Int32.ofNat (2 ^ nb))), .val (.int (Int32.ofNat (2 ^ nb - 1))), .val (.int (Int32.ofNat nf)), .val (.int (1 : Int32)), .val (.int (Int32.ofNat ng)), .val (.int (0 : Int32)), .val (.long off), .second, .val (.ref o), .unset, .unset, .unset, .unset] Xz4 cx L_124 rfl ?_
    refine r_aload Xz4 cx L_126 rfl ?_
    refine r_iload Xz4 cx L_128 rfl ?_
    refine r_lload Xz4 cx L_130 rfl ?_
    refine r_iload Xz4 cx L_132 rfl ?_
    refine r_virtual [(.int (Int32.ofNat nf)), (.long off), (.int (1 : Int32))] [] Xz4 cx L_134 E_o (hw.get 37 rfl) (hw.get 38 rfl) (hw.get 40 rfl) (hw.get 39 rfl) (hw.get 4 rfl) (hw.get 41 rfl) (by decide) (con_P73m11 K.l K.Z a0 hw o (Int32.ofNat nf) off (1 : Int32) hz4 K.n0 Xz4.ge (Int32.ofNat (2 ^ nb)) (Int32.ofNat nb) F_sl F_sb) (lenOf pd_3 rfl) rfl rfl (by decide) (leb rfl) (by decide) (by decide) (fun Tz5 hz5 vz5 Xz5 qz5 => ?_) (fun _ _ q => Nat.le_of_eq (congrArg Array.size q.1))
    obtain ⟨rfl, rfl⟩ := qz5
    refine r_istore (fun zz => #[.val (.int i0), .val (.int i1), .val (.int i2), .val (.long i3), .second, .val (.int i4), .val (.int (Int32.ofNat nb)), .val (.int (Int32.ofNat (2 ^ nb))), .val (.int (Int32.ofNat (2 ^ nb - 1))), .val (.int (Int32.ofNat nf)), .val (.int (1 : Int32)), .val (.int (Int32.ofNat ng)), .val (.int (0 : Int32)), .val (.long off), .second, .val (.ref o), .val (.int zz), .unset, .unset, .unset]) Xz5 cx L_137 (fun _ => rfl) (fun ac e_ac => ?_)
    refine r_iload Xz5 cx L_139 rfl ?_
    refine r_istore (fun zz => #[.val (.int i0), .val (.int i1), .val (.int i2), .val (.long i3), .second, .val (.int i4), .val (.int (Int32.ofNat nb)), .val (.int (Int32.ofNat (2 ^ nb))), .val (.int (Int32.ofNat (2 ^ nb - 1))), .val (.int (Int32.ofNat nf)), .val (.int (1 : Int32)), .val (.int (Int32.ofNat ng)), .val (.int (0 : Int32)), .val (.long off), .second, .val (.ref o), .val (.int ac), .val (.int zz), .unset, .unset]) Xz5 cx L_141 (fun _ => rfl) (fun ex0 e_ex0 => ?_)
    refine r_iload Xz5 cx L_143 rfl ?_
    refine r_ifle Xz5 cx L_145 (fun c => absurd c (by decide)) (fun _ => ?_)
    refine r_iload Xz5 cx L_148 rfl ?_
    refine r_iload Xz5 cx L_150 rfl ?_
    refine r_iushr Xz5 cx L_152 ?_
    refine r_iload Xz5 cx L_153 rfl ?_
    refine r_iadd Xz5 cx L_155 ?_
    refine r_istore (fun zz => #[.val (.int i0), .val (.int i1), .val (.int i2), .val (.long i3), .second, .val (.int i4), .val (.int (Int32.ofNat nb)), .val (.int (Int32.ofNat (2 ^ nb))), .val (.int (Int32.ofNat (2 ^ nb - 1))), .val (.int (Int32.ofNat nf)), .val (.int (1 : Int32)), .val (.int (Int32.ofNat ng)), .val (.int (0 : Int32)), .val (.long off), .second, .val (.ref o), .val (.int ac), .val (.int ex0), .val (.int zz), .unset]) Xz5 cx L_156 (fun _ => rfl) (fun sgm e_sgm => ?_)
    refine r_iload Xz5 cx L_158 rfl ?_
    refine r_iload Xz5 cx L_160 rfl ?_
    refine r_iand Xz5 cx L_162 ?_
    refine r_iload Xz5 cx L_163 rfl ?_
    refine r_ixor Xz5 cx L_165 ?_
    refine r_istore (fun zz => #[.val (.int i0), .val (.int i1), .val (.int i2), .val (.long i3), .second, .val (.int i4), .val (.int (Int32.ofNat nb)), .val (.int (Int32.ofNat (2 ^ nb))), .val (.int (Int32.ofNat (2 ^ nb - 1))), .val (.int (Int32.ofNat nf)), .val (.int (1 : Int32)), .val (.int (Int32.ofNat ng)), .val (.int (0 : Int32)), .val (.long off), .second, .val (.ref o), .val (.int ac), .val (.int ex0), .val (.int sgm), .val (.int zz)]) Xz5 cx L_166 (fun _ => rfl) (fun pos e_pos => ?_)
    refine r_iload Xz5 cx L_168 rfl ?_
    refine r_iload Xz5 cx L_170 rfl ?_
    refine r_ishl Xz5 cx L_172 ?_
    refine r_iload Xz5 cx L_173 rfl ?_
    refine r_ior Xz5 cx L_175 ?_
    refine r_istore (fun zz => #[.val (.int i0), .val (.int i1), .val (.int i2), .val (.long i3), .second, .val (.int i4), .val (.int (Int32.ofNat nb)), .val (.int (Int32.ofNat (2 ^ nb))), .val (.int (Int32.ofNat (2 ^ nb - 1))), .val (.int (Int32.ofNat nf)), .val (.int (1 : Int32)), .val (.int (Int32.ofNat ng)), .val (.int (0 : Int32)), .val (.long off), .second, .val (.ref o), .val (.int ac), .val (.int zz), .val (.int sgm), .val (.int pos)]) Xz5 cx L_176 (fun _ => rfl) (fun ex e_ex => ?_)
    refine r_iload Xz5 cx L_178 rfl ?_
    refine r_iload Xz5 cx L_180 rfl ?_
    refine r_icmpne Xz5 cx L_182 (fun c182 => ?_) (fun c182 => ?_)
    · exfalso
      apply c182
      have q1 : Int32.ofNat nb * ((1 : Int32) - 1) = Int32.ofNat 0 := by rw [show (1 : Int32) - 1 = 0 from rfl, Int32.mul_zero]; rfl
      rw [e_ac, e_ex, e_pos, e_sgm]
      unfold own_slot
      rw [if_pos (by decide), q1, e_off]
      have q2 := own_off i3 (b := nb) (s := 0) (g := ng) hb (by omega) hg2
      first | rw [q2] | (rw [show (0 : Int32) = Int32.ofNat 0 from rfl, q2])
      rw [← pw2]
      exact own_comb (j := 1) hb (by omega) (by decide) hg2
    · refine r_iconst (1) Xz5 cx L_185 rfl ?_
      refine r_goto Xz5 cx L_186 ?_
      refine r_zreturn Xz5 cx L_190 (by decide) (by decide) ?_
      rfl
  · obtain rfl : j = (2 : Int32) := e_j.trans m3
    refine r_iconst (0) X0 cx L_49 rfl ?_
    refine r_istore (fun zz => #[.val (.int i0), .val (.int i1), .val (.int i2), .val (.long i3), .second, .val (.int i4), .val (.int (Int32.ofNat nb)), .val (.int (Int32.ofNat (2 ^ nb))), .val (.int (Int32.ofNat (2 ^ nb - 1))), .val (.int (Int32.ofNat nf)), .val (.int (2 : Int32)), .val (.int (Int32.ofNat ng)), .val (.int zz), .unset, .unset, .unset, .unset, .unset, .unset, .unset]) X0 cx L_50 (fun _ => rfl) (fun iz1 e_iz1 => ?_)
    subst e_iz1
    refine r_iload X0 cx L_52 rfl ?_
    refine r_iconst (2) X0 cx L_54 rfl ?_
    refine r_icmpne X0 cx L_55 (fun c => absurd c (by decide)) (fun _ => ?_)
    refine r_iload X0 cx L_58 rfl ?_
    refine r_istore (fun zz => #[.val (.int i0), .val (.int i1), .val (.int i2), .val (.long i3), .second, .val (.int i4), .val (.int (Int32.ofNat nb)), .val (.int (Int32.ofNat (2 ^ nb))), .val (.int (Int32.ofNat (2 ^ nb - 1))), .val (.int (Int32.ofNat nf)), .val (.int (2 : Int32)), .val (.int (Int32.ofNat ng)), .val (.int zz), .unset, .unset, .unset, .unset, .unset, .unset, .unset]) X0 cx L_60 (fun _ => rfl) (fun shb e_shb => ?_)
    refine r_iload X0 cx L_62 rfl ?_
    refine r_iconst (3) X0 cx L_64 rfl ?_
    refine r_icmpne X0 cx L_65 (fun _ => ?_) (fun c => absurd c (by decide))
    refine r_lloadN X0 cx L_74 rfl ?_
    refine r_lstore (fun zz => #[.val (.int i0), .val (.int i1), .val (.int i2), .val (.long i3), .second, .val (.int i4), .val (.int (Int32.ofNat nb)), .val (.int (Int32.ofNat (2 ^ nb))), .val (.int (Int32.ofNat (2 ^ nb - 1))), .val (.int (Int32.ofNat nf)), .val (.int (2 : Int32)), .val (.int (Int32.ofNat ng)), .val (.int shb), .val (.long zz), .second, .unset, .unset, .unset, .unset, .unset]) X0 cx L_75 (fun _ => rfl) (fun jz2 e_jz2 => ?_)
    replace e_jz2 := e_jz2.symm
    subst e_jz2
    refine r_iload X0 cx L_77 rfl ?_
    refine r_ifle X0 cx L_79 (fun c => absurd c (by decide)) (fun _ => ?_)
    refine r_lloadN X0 cx L_82 rfl ?_
    refine r_iload X0 cx L_83 rfl ?_
    refine r_i2l X0 cx L_85 ?_
    refine r_iload X0 cx L_86 rfl ?_
    refine r_lshl X0 cx L_88 ?_
    refine r_ldc2 X0 cx L_89 (hw.get 1 rfl) ?_
    refine r_lxor X0 cx L_92 ?_
    refine r_land X0 cx L_93 ?_
    refine r_iload X0 cx L_94 rfl ?_
    refine r_i2l X0 cx L_96 ?_
    refine r_iload X0 cx L_97 rfl ?_
    refine r_lshl X0 cx L_99 ?_
    refine r_lor X0 cx L_100 ?_
    refine r_lstore (fun zz => #[.val (.int i0), .val (.int i1), .val (.int i2), .val (.long i3), .second, .val (.int i4), .val (.int (Int32.ofNat nb)), .val (.int (Int32.ofNat (2 ^ nb))), .val (.int (Int32.ofNat (2 ^ nb - 1))), .val (.int (Int32.ofNat nf)), .val (.int (2 : Int32)), .val (.int (Int32.ofNat ng)), .val (.int shb), .val (.long zz), .second, .unset, .unset, .unset, .unset, .unset]) X0 cx L_101 (fun _ => rfl) (fun off e_off => ?_)
    refine r_new X0 cx L_103 (hw.get 2 rfl) (hw.get 3 rfl) (hw.get 4 rfl) (by decide) (by decide) (fun Tz3 hz3 o eaz3 g_o Xz3 Exz3 E_o Dz3 => ?_)
    have F_formatVersion_o := Dz3 (Or.inr (hw.get 16 rfl)) (ty := .int) (by decide)
    have F_offsetsRemixed_o := Dz3 (Or.inr (hw.get 18 rfl)) (ty := .boolean) (by decide)
    have F_arity_o := Dz3 (Or.inr (hw.get 20 rfl)) (ty := .int) (by decide)
    have F_fingerprintBits_o := Dz3 (Or.inr (hw.get 22 rfl)) (ty := .int) (by decide)
    have F_seed_o := Dz3 (Or.inr (hw.get 24 rfl)) (ty := .long) (by decide)
    have F_segmentLength_o := Dz3 (Or.inr (hw.get 26 rfl)) (ty := .int) (by decide)
    have F_segmentLengthBits_o := Dz3 (Or.inr (hw.get 32 rfl)) (ty := .int) (by decide)
    have F_segmentCount_o := Dz3 (Or.inr (hw.get 34 rfl)) (ty := .int) (by decide)
    have F_firstSlotRange_o := Dz3 (Or.inr (hw.get 36 rfl)) (ty := .long) (by decide)
    refine r_dup Xz3 cx L_106 rfl ?_
    refine r_iconst (2) Xz3 cx L_107 rfl ?_
    refine r_iconst (4) Xz3 cx L_108 rfl ?_
    refine r_bipush (8) Xz3 cx L_109 rfl ?_
    refine r_lconst (0) Xz3 cx L_111 rfl ?_
    refine r_iload Xz3 cx L_112 rfl ?_
    refine r_iload Xz3 cx L_114 rfl ?_
    refine r_iload Xz3 cx L_116 rfl ?_
    refine r_idiv Xz3 cx L_118 pw4 ?_
    refine r_iconst (1) Xz3 cx L_119 rfl ?_
    refine r_iadd Xz3 cx L_120 ?_
    refine r_special [(.int (2 : Int32)), (.int (4 : Int32)), (.int (8 : Int32)), (.long (0 : Int64)), (.int (Int32.ofNat (2 ^ nb))), (.int (((Int32.ofNat nf) / (Int32.ofNat (2 ^ nb))) + (1 : Int32)))] [(.ref o)] Xz3 cx L_121 rfl (hw.get 5 rfl) (hw.get 6 rfl) (hw.get 4 rfl) (hw.get 7 rfl) (by decide) (con_P73m1 K.l K.Z a0 hw o (Int32.ofNat (2 ^ nb)) (((Int32.ofNat nf) / (Int32.ofNat (2 ^ nb))) + (1 : Int32)) hz3 K.n0 Xz3.ge nb hb rfl E_o F_formatVersion_o F_offsetsRemixed_o F_arity_o F_fingerprintBits_o F_seed_o F_segmentLength_o F_segmentLengthBits_o F_segmentCount_o F_firstSlotRange_o g_o) (lenOf pd_2 rfl) rfl rfl (by decide) (leb rfl) (by decide) (by decide) (fun Tz4 hz4 vz4 Xz4 qz4 => ?_) (fun _ _ q => q.1)
    obtain ⟨zz4, rfl, E_o, F_sl, F_sb⟩ := qz4
    refine r_astore #[.val (.int i0), .val (.int i1), .val (.int i2), .val (.long i3), .second, .val (.int i4), .val (.int (Int32.ofNat nb)), .val (.int (Int32.ofNat (2 ^ nb))), .val (.int (Int32.ofNat (2 ^ nb - 1))), .val (.int (Int32.ofNat nf)), .val (.int (2 : Int32)), .val (.int (Int32.ofNat ng)), .val (.int shb), .val (.long off), .second, .val (.ref o), .unset, .unset, .unset, .unset] Xz4 cx L_124 rfl ?_
    refine r_aload Xz4 cx L_126 rfl ?_
    refine r_iload Xz4 cx L_128 rfl ?_
    refine r_lload Xz4 cx L_130 rfl ?_
    refine r_iload Xz4 cx L_132 rfl ?_
    refine r_virtual [(.int (Int32.ofNat nf)), (.long off), (.int (2 : Int32))] [] Xz4 cx L_134 E_o (hw.get 37 rfl) (hw.get 38 rfl) (hw.get 40 rfl) (hw.get 39 rfl) (hw.get 4 rfl) (hw.get 41 rfl) (by decide) (con_P73m11 K.l K.Z a0 hw o (Int32.ofNat nf) off (2 : Int32) hz4 K.n0 Xz4.ge (Int32.ofNat (2 ^ nb)) (Int32.ofNat nb) F_sl F_sb) (lenOf pd_3 rfl) rfl rfl (by decide) (leb rfl) (by decide) (by decide) (fun Tz5 hz5 vz5 Xz5 qz5 => ?_) (fun _ _ q => Nat.le_of_eq (congrArg Array.size q.1))
    obtain ⟨rfl, rfl⟩ := qz5
    refine r_istore (fun zz => #[.val (.int i0), .val (.int i1), .val (.int i2), .val (.long i3), .second, .val (.int i4), .val (.int (Int32.ofNat nb)), .val (.int (Int32.ofNat (2 ^ nb))), .val (.int (Int32.ofNat (2 ^ nb - 1))), .val (.int (Int32.ofNat nf)), .val (.int (2 : Int32)), .val (.int (Int32.ofNat ng)), .val (.int shb), .val (.long off), .second, .val (.ref o), .val (.int zz), .unset, .unset, .unset]) Xz5 cx L_137 (fun _ => rfl) (fun ac e_ac => ?_)
    refine r_iload Xz5 cx L_139 rfl ?_
    refine r_istore (fun zz => #[.val (.int i0), .val (.int i1), .val (.int i2), .val (.long i3), .second, .val (.int i4), .val (.int (Int32.ofNat nb)), .val (.int (Int32.ofNat (2 ^ nb))), .val (.int (Int32.ofNat (2 ^ nb - 1))), .val (.int (Int32.ofNat nf)), .val (.int (2 : Int32)), .val (.int (Int32.ofNat ng)), .val (.int shb), .val (.long off), .second, .val (.ref o), .val (.int ac), .val (.int zz), .unset, .unset]) Xz5 cx L_141 (fun _ => rfl) (fun ex0 e_ex0 => ?_)
    refine r_iload Xz5 cx L_143 rfl ?_
    refine r_ifle Xz5 cx L_145 (fun c => absurd c (by decide)) (fun _ => ?_)
    refine r_iload Xz5 cx L_148 rfl ?_
    refine r_iload Xz5 cx L_150 rfl ?_
    refine r_iushr Xz5 cx L_152 ?_
    refine r_iload Xz5 cx L_153 rfl ?_
    refine r_iadd Xz5 cx L_155 ?_
    refine r_istore (fun zz => #[.val (.int i0), .val (.int i1), .val (.int i2), .val (.long i3), .second, .val (.int i4), .val (.int (Int32.ofNat nb)), .val (.int (Int32.ofNat (2 ^ nb))), .val (.int (Int32.ofNat (2 ^ nb - 1))), .val (.int (Int32.ofNat nf)), .val (.int (2 : Int32)), .val (.int (Int32.ofNat ng)), .val (.int shb), .val (.long off), .second, .val (.ref o), .val (.int ac), .val (.int ex0), .val (.int zz), .unset]) Xz5 cx L_156 (fun _ => rfl) (fun sgm e_sgm => ?_)
    refine r_iload Xz5 cx L_158 rfl ?_
    refine r_iload Xz5 cx L_160 rfl ?_
    refine r_iand Xz5 cx L_162 ?_
    refine r_iload Xz5 cx L_163 rfl ?_
    refine r_ixor Xz5 cx L_165 ?_
    refine r_istore (fun zz => #[.val (.int i0), .val (.int i1), .val (.int i2), .val (.long i3), .second, .val (.int i4), .val (.int (Int32.ofNat nb)), .val (.int (Int32.ofNat (2 ^ nb))), .val (.int (Int32.ofNat (2 ^ nb - 1))), .val (.int (Int32.ofNat nf)), .val (.int (2 : Int32)), .val (.int (Int32.ofNat ng)), .val (.int shb), .val (.long off), .second, .val (.ref o), .val (.int ac), .val (.int ex0), .val (.int sgm), .val (.int zz)]) Xz5 cx L_166 (fun _ => rfl) (fun pos e_pos => ?_)
    refine r_iload Xz5 cx L_168 rfl ?_
    refine r_iload Xz5 cx L_170 rfl ?_
    refine r_ishl Xz5 cx L_172 ?_
    refine r_iload Xz5 cx L_173 rfl ?_
    refine r_ior Xz5 cx L_175 ?_
    refine r_istore (fun zz => #[.val (.int i0), .val (.int i1), .val (.int i2), .val (.long i3), .second, .val (.int i4), .val (.int (Int32.ofNat nb)), .val (.int (Int32.ofNat (2 ^ nb))), .val (.int (Int32.ofNat (2 ^ nb - 1))), .val (.int (Int32.ofNat nf)), .val (.int (2 : Int32)), .val (.int (Int32.ofNat ng)), .val (.int shb), .val (.long off), .second, .val (.ref o), .val (.int ac), .val (.int zz), .val (.int sgm), .val (.int pos)]) Xz5 cx L_176 (fun _ => rfl) (fun ex e_ex => ?_)
    refine r_iload Xz5 cx L_178 rfl ?_
    refine r_iload Xz5 cx L_180 rfl ?_
    refine r_icmpne Xz5 cx L_182 (fun c182 => ?_) (fun c182 => ?_)
    · exfalso
      apply c182
      have q1 : Int32.ofNat nb * ((2 : Int32) - 1) = Int32.ofNat nb := by rw [show (2 : Int32) - 1 = 1 from rfl, Int32.mul_one]
      subst e_shb
      rw [e_ac, e_ex, e_pos, e_sgm]
      unfold own_slot
      rw [if_pos (by decide), q1, e_off]
      have q2 := own_off i3 (b := nb) (s := nb) (g := ng) hb (by omega) hg2
      first | rw [q2] | (rw [show (0 : Int32) = Int32.ofNat 0 from rfl, q2])
      rw [← pw2]
      exact own_comb (j := 2) hb (by omega) (by decide) hg2
    · refine r_iconst (1) Xz5 cx L_185 rfl ?_
      refine r_goto Xz5 cx L_186 ?_
      refine r_zreturn Xz5 cx L_190 (by decide) (by decide) ?_
      rfl
  · obtain rfl : j = (3 : Int32) := e_j.trans m3
    refine r_iconst (0) X0 cx L_49 rfl ?_
    refine r_istore (fun zz => #[.val (.int i0), .val (.int i1), .val (.int i2), .val (.long i3), .second, .val (.int i4), .val (.int (Int32.ofNat nb)), .val (.int (Int32.ofNat (2 ^ nb))), .val (.int (Int32.ofNat (2 ^ nb - 1))), .val (.int (Int32.ofNat nf)), .val (.int (3 : Int32)), .val (.int (Int32.ofNat ng)), .val (.int zz), .unset, .unset, .unset, .unset, .unset, .unset, .unset]) X0 cx L_50 (fun _ => rfl) (fun iz1 e_iz1 => ?_)
    subst e_iz1
    refine r_iload X0 cx L_52 rfl ?_
    refine r_iconst (2) X0 cx L_54 rfl ?_
    refine r_icmpne X0 cx L_55 (fun _ => ?_) (fun c => absurd c (by decide))
    refine r_iload X0 cx L_62 rfl ?_
    refine r_iconst (3) X0 cx L_64 rfl ?_
    refine r_icmpne X0 cx L_65 (fun c => absurd c (by decide)) (fun _ => ?_)
    refine r_iconst (2) X0 cx L_68 rfl ?_
    refine r_iload X0 cx L_69 rfl ?_
    refine r_imul X0 cx L_71 ?_
    refine r_istore (fun zz => #[.val (.int i0), .val (.int i1), .val (.int i2), .val (.long i3), .second, .val (.int i4), .val (.int (Int32.ofNat nb)), .val (.int (Int32.ofNat (2 ^ nb))), .val (.int (Int32.ofNat (2 ^ nb - 1))), .val (.int (Int32.ofNat nf)), .val (.int (3 : Int32)), .val (.int (Int32.ofNat ng)), .val (.int zz), .unset, .unset, .unset, .unset, .unset, .unset, .unset]) X0 cx L_72 (fun _ => rfl) (fun sh2 e_sh2 => ?_)
    refine r_lloadN X0 cx L_74 rfl ?_
    refine r_lstore (fun zz => #[.val (.int i0), .val (.int i1), .val (.int i2), .val (.long i3), .second, .val (.int i4), .val (.int (Int32.ofNat nb)), .val (.int (Int32.ofNat (2 ^ nb))), .val (.int (Int32.ofNat (2 ^ nb - 1))), .val (.int (Int32.ofNat nf)), .val (.int (3 : Int32)), .val (.int (Int32.ofNat ng)), .val (.int sh2), .val (.long zz), .second, .unset, .unset, .unset, .unset, .unset]) X0 cx L_75 (fun _ => rfl) (fun jz2 e_jz2 => ?_)
    replace e_jz2 := e_jz2.symm
    subst e_jz2
    refine r_iload X0 cx L_77 rfl ?_
    refine r_ifle X0 cx L_79 (fun c => absurd c (by decide)) (fun _ => ?_)
    refine r_lloadN X0 cx L_82 rfl ?_
    refine r_iload X0 cx L_83 rfl ?_
    refine r_i2l X0 cx L_85 ?_
    refine r_iload X0 cx L_86 rfl ?_
    refine r_lshl X0 cx L_88 ?_
    refine r_ldc2 X0 cx L_89 (hw.get 1 rfl) ?_
    refine r_lxor X0 cx L_92 ?_
    refine r_land X0 cx L_93 ?_
    refine r_iload X0 cx L_94 rfl ?_
    refine r_i2l X0 cx L_96 ?_
    refine r_iload X0 cx L_97 rfl ?_
    refine r_lshl X0 cx L_99 ?_
    refine r_lor X0 cx L_100 ?_
    refine r_lstore (fun zz => #[.val (.int i0), .val (.int i1), .val (.int i2), .val (.long i3), .second, .val (.int i4), .val (.int (Int32.ofNat nb)), .val (.int (Int32.ofNat (2 ^ nb))), .val (.int (Int32.ofNat (2 ^ nb - 1))), .val (.int (Int32.ofNat nf)), .val (.int (3 : Int32)), .val (.int (Int32.ofNat ng)), .val (.int sh2), .val (.long zz), .second, .unset, .unset, .unset, .unset, .unset]) X0 cx L_101 (fun _ => rfl) (fun off e_off => ?_)
    refine r_new X0 cx L_103 (hw.get 2 rfl) (hw.get 3 rfl) (hw.get 4 rfl) (by decide) (by decide) (fun Tz3 hz3 o eaz3 g_o Xz3 Exz3 E_o Dz3 => ?_)
    have F_formatVersion_o := Dz3 (Or.inr (hw.get 16 rfl)) (ty := .int) (by decide)
    have F_offsetsRemixed_o := Dz3 (Or.inr (hw.get 18 rfl)) (ty := .boolean) (by decide)
    have F_arity_o := Dz3 (Or.inr (hw.get 20 rfl)) (ty := .int) (by decide)
    have F_fingerprintBits_o := Dz3 (Or.inr (hw.get 22 rfl)) (ty := .int) (by decide)
    have F_seed_o := Dz3 (Or.inr (hw.get 24 rfl)) (ty := .long) (by decide)
    have F_segmentLength_o := Dz3 (Or.inr (hw.get 26 rfl)) (ty := .int) (by decide)
    have F_segmentLengthBits_o := Dz3 (Or.inr (hw.get 32 rfl)) (ty := .int) (by decide)
    have F_segmentCount_o := Dz3 (Or.inr (hw.get 34 rfl)) (ty := .int) (by decide)
    have F_firstSlotRange_o := Dz3 (Or.inr (hw.get 36 rfl)) (ty := .long) (by decide)
    refine r_dup Xz3 cx L_106 rfl ?_
    refine r_iconst (2) Xz3 cx L_107 rfl ?_
    refine r_iconst (4) Xz3 cx L_108 rfl ?_
    refine r_bipush (8) Xz3 cx L_109 rfl ?_
    refine r_lconst (0) Xz3 cx L_111 rfl ?_
    refine r_iload Xz3 cx L_112 rfl ?_
    refine r_iload Xz3 cx L_114 rfl ?_
    refine r_iload Xz3 cx L_116 rfl ?_
    refine r_idiv Xz3 cx L_118 pw4 ?_
    refine r_iconst (1) Xz3 cx L_119 rfl ?_
    refine r_iadd Xz3 cx L_120 ?_
    refine r_special [(.int (2 : Int32)), (.int (4 : Int32)), (.int (8 : Int32)), (.long (0 : Int64)), (.int (Int32.ofNat (2 ^ nb))), (.int (((Int32.ofNat nf) / (Int32.ofNat (2 ^ nb))) + (1 : Int32)))] [(.ref o)] Xz3 cx L_121 rfl (hw.get 5 rfl) (hw.get 6 rfl) (hw.get 4 rfl) (hw.get 7 rfl) (by decide) (con_P73m1 K.l K.Z a0 hw o (Int32.ofNat (2 ^ nb)) (((Int32.ofNat nf) / (Int32.ofNat (2 ^ nb))) + (1 : Int32)) hz3 K.n0 Xz3.ge nb hb rfl E_o F_formatVersion_o F_offsetsRemixed_o F_arity_o F_fingerprintBits_o F_seed_o F_segmentLength_o F_segmentLengthBits_o F_segmentCount_o F_firstSlotRange_o g_o) (lenOf pd_2 rfl) rfl rfl (by decide) (leb rfl) (by decide) (by decide) (fun Tz4 hz4 vz4 Xz4 qz4 => ?_) (fun _ _ q => q.1)
    obtain ⟨zz4, rfl, E_o, F_sl, F_sb⟩ := qz4
    refine r_astore #[.val (.int i0), .val (.int i1), .val (.int i2), .val (.long i3), .second, .val (.int i4), .val (.int (Int32.ofNat nb)), .val (.int (Int32.ofNat (2 ^ nb))), .val (.int (Int32.ofNat (2 ^ nb - 1))), .val (.int (Int32.ofNat nf)), .val (.int (3 : Int32)), .val (.int (Int32.ofNat ng)), .val (.int sh2), .val (.long off), .second, .val (.ref o), .unset, .unset, .unset, .unset] Xz4 cx L_124 rfl ?_
    refine r_aload Xz4 cx L_126 rfl ?_
    refine r_iload Xz4 cx L_128 rfl ?_
    refine r_lload Xz4 cx L_130 rfl ?_
    refine r_iload Xz4 cx L_132 rfl ?_
    refine r_virtual [(.int (Int32.ofNat nf)), (.long off), (.int (3 : Int32))] [] Xz4 cx L_134 E_o (hw.get 37 rfl) (hw.get 38 rfl) (hw.get 40 rfl) (hw.get 39 rfl) (hw.get 4 rfl) (hw.get 41 rfl) (by decide) (con_P73m11 K.l K.Z a0 hw o (Int32.ofNat nf) off (3 : Int32) hz4 K.n0 Xz4.ge (Int32.ofNat (2 ^ nb)) (Int32.ofNat nb) F_sl F_sb) (lenOf pd_3 rfl) rfl rfl (by decide) (leb rfl) (by decide) (by decide) (fun Tz5 hz5 vz5 Xz5 qz5 => ?_) (fun _ _ q => Nat.le_of_eq (congrArg Array.size q.1))
    obtain ⟨rfl, rfl⟩ := qz5
    refine r_istore (fun zz => #[.val (.int i0), .val (.int i1), .val (.int i2), .val (.long i3), .second, .val (.int i4), .val (.int (Int32.ofNat nb)), .val (.int (Int32.ofNat (2 ^ nb))), .val (.int (Int32.ofNat (2 ^ nb - 1))), .val (.int (Int32.ofNat nf)), .val (.int (3 : Int32)), .val (.int (Int32.ofNat ng)), .val (.int sh2), .val (.long off), .second, .val (.ref o), .val (.int zz), .unset, .unset, .unset]) Xz5 cx L_137 (fun _ => rfl) (fun ac e_ac => ?_)
    refine r_iload Xz5 cx L_139 rfl ?_
    refine r_istore (fun zz => #[.val (.int i0), .val (.int i1), .val (.int i2), .val (.long i3), .second, .val (.int i4), .val (.int (Int32.ofNat nb)), .val (.int (Int32.ofNat (2 ^ nb))), .val (.int (Int32.ofNat (2 ^ nb - 1))), .val (.int (Int32.ofNat nf)), .val (.int (3 : Int32)), .val (.int (Int32.ofNat ng)), .val (.int sh2), .val (.long off), .second, .val (.ref o), .val (.int ac), .val (.int zz), .unset, .unset]) Xz5 cx L_141 (fun _ => rfl) (fun ex0 e_ex0 => ?_)
    refine r_iload Xz5 cx L_143 rfl ?_
    refine r_ifle Xz5 cx L_145 (fun c => absurd c (by decide)) (fun _ => ?_)
    refine r_iload Xz5 cx L_148 rfl ?_
    refine r_iload Xz5 cx L_150 rfl ?_
    refine r_iushr Xz5 cx L_152 ?_
    refine r_iload Xz5 cx L_153 rfl ?_
    refine r_iadd Xz5 cx L_155 ?_
    refine r_istore (fun zz => #[.val (.int i0), .val (.int i1), .val (.int i2), .val (.long i3), .second, .val (.int i4), .val (.int (Int32.ofNat nb)), .val (.int (Int32.ofNat (2 ^ nb))), .val (.int (Int32.ofNat (2 ^ nb - 1))), .val (.int (Int32.ofNat nf)), .val (.int (3 : Int32)), .val (.int (Int32.ofNat ng)), .val (.int sh2), .val (.long off), .second, .val (.ref o), .val (.int ac), .val (.int ex0), .val (.int zz), .unset]) Xz5 cx L_156 (fun _ => rfl) (fun sgm e_sgm => ?_)
    refine r_iload Xz5 cx L_158 rfl ?_
    refine r_iload Xz5 cx L_160 rfl ?_
    refine r_iand Xz5 cx L_162 ?_
    refine r_iload Xz5 cx L_163 rfl ?_
    refine r_ixor Xz5 cx L_165 ?_
    refine r_istore (fun zz => #[.val (.int i0), .val (.int i1), .val (.int i2), .val (.long i3), .second, .val (.int i4), .val (.int (Int32.ofNat nb)), .val (.int (Int32.ofNat (2 ^ nb))), .val (.int (Int32.ofNat (2 ^ nb - 1))), .val (.int (Int32.ofNat nf)), .val (.int (3 : Int32)), .val (.int (Int32.ofNat ng)), .val (.int sh2), .val (.long off), .second, .val (.ref o), .val (.int ac), .val (.int ex0), .val (.int sgm), .val (.int zz)]) Xz5 cx L_166 (fun _ => rfl) (fun pos e_pos => ?_)
    refine r_iload Xz5 cx L_168 rfl ?_
    refine r_iload Xz5 cx L_170 rfl ?_
    refine r_ishl Xz5 cx L_172 ?_
    refine r_iload Xz5 cx L_173 rfl ?_
    refine r_ior Xz5 cx L_175 ?_
    refine r_istore (fun zz => #[.val (.int i0), .val (.int i1), .val (.int i2), .val (.long i3), .second, .val (.int i4), .val (.int (Int32.ofNat nb)), .val (.int (Int32.ofNat (2 ^ nb))), .val (.int (Int32.ofNat (2 ^ nb - 1))), .val (.int (Int32.ofNat nf)), .val (.int (3 : Int32)), .val (.int (Int32.ofNat ng)), .val (.int sh2), .val (.long off), .second, .val (.ref o), .val (.int ac), .val (.int zz), .val (.int sgm), .val (.int pos)]) Xz5 cx L_176 (fun _ => rfl) (fun ex e_ex => ?_)
    refine r_iload Xz5 cx L_178 rfl ?_
    refine r_iload Xz5 cx L_180 rfl ?_
    refine r_icmpne Xz5 cx L_182 (fun c182 => ?_) (fun c182 => ?_)
    · exfalso
      apply c182
      have q1 : Int32.ofNat nb * ((3 : Int32) - 1) = Int32.ofNat (2 * nb) := by rw [show (3 : Int32) - 1 = Int32.ofNat 2 from rfl, ← Int32.ofNat_mul, Nat.mul_comm]
      have esh : sh2 = Int32.ofNat (2 * nb) := by rw [e_sh2, Int32.ofNat_mul]; rfl
      subst esh
      rw [e_ac, e_ex, e_pos, e_sgm]
      unfold own_slot
      rw [if_pos (by decide), q1, e_off]
      have q2 := own_off i3 (b := nb) (s := 2 * nb) (g := ng) hb (by omega) hg2
      first | rw [q2] | (rw [show (0 : Int32) = Int32.ofNat 0 from rfl, q2])
      rw [← pw2]
      exact own_comb (j := 3) hb (by omega) (by decide) hg2
    · refine r_iconst (1) Xz5 cx L_185 rfl ?_
      refine r_goto Xz5 cx L_186 ?_
      refine r_zreturn Xz5 cx L_190 (by decide) (by decide) ?_
      rfl
set_option maxRecDepth 65536 in
set_option maxHeartbeats 40000000 in
theorem comes_1 {Post : Tables → Env → Array Value → State → Outcome → State → Prop} (hpost : ∀ tb e args s v u, (limb_1_1.after args s (.returned v) u = true ∧ limb_1_2.after args s (.returned v) u = true ∧ True) → FrameEnd s (.returned v) u (Jvm.fieldLocs frame_1_writes args s ++ Jvm.arrayLocs frame_1_arrays args s ++ Jvm.staticLocs frame_1_statics s) 16 128 → Post tb e args s (.returned v) u) :
    ArmFor flags0 classFile x code maxLocals ret World_1 tables_1 room_1 Calls_1 rest_1 Pre_1 Post := by
  intro l hfl _ _ p e ha hc hk s m args below hf hA hF happ hP
  obtain ⟨hcalls, hrest, hpre⟩ := hP
  obtain ⟨-, -, -, hnamed, -, -, -, hat⟩ := (Spec.applies_iff hf).mp happ
  obtain ⟨hg, hn⟩ := and_e (Cond.before_iff.mp (show (Jvm.Cond.and given_1 narrow_1).before args s = true from hpre))
  obtain ⟨gc, r0⟩ := and_e hg
  obtain ⟨g0, r1⟩ := and_e r0
  obtain ⟨g1, r2⟩ := and_e r1
  obtain ⟨g2, r3⟩ := and_e r2
  obtain ⟨g3, r4⟩ := and_e r3
  obtain ⟨w0, w1, w2, w3, w4, rfl⟩ : ∃ w0 w1 w2 w3 w4 : Value, args = #[w0, w1, w2, w3, w4] := by
    have hs : args.size = 5 := by simpa [Cond.value, given_1] using gc
    obtain ⟨L⟩ := args
    match L, hs with
    | [w0, w1, w2, w3, w4], _ => exact ⟨w0, w1, w2, w3, w4, rfl⟩
  have hw : Tb tables_1 #[w0, w1, w2, w3, w4] s := fun d (hd : d ∈ tables_1) => atoms_spec (ws := Jvm.Cond.code x code maxLocals ret :: tables_1) hat d (List.mem_cons_of_mem _ hd)
  obtain ⟨i0, ei0⟩ := is_v g0
  obtain rfl : w0 = (.int i0) := Option.some.inj ei0
  obtain ⟨i1, ei1⟩ := is_v g1
  obtain rfl : w1 = (.int i1) := Option.some.inj ei1
  obtain ⟨i2, ei2⟩ := is_v g2
  obtain rfl : w2 = (.int i2) := Option.some.inj ei2
  obtain ⟨i3, ei3⟩ := isL_v g3
  obtain rfl : w3 = (.long i3) := Option.some.inj ei3
  obtain ⟨i4, ei4⟩ := is_v r4
  obtain rfl : w4 = (.int i4) := Option.some.inj ei4
  obtain ⟨n, o, h1, h2, h3, _, L, rfl, ⟨rfl, N⟩, hq⟩ := con_L l s _ hw i0 i1 i2 i3 i4 s.heap s.heap.size (Nat.le_refl _) tables_1 p e ha hc hk s m _ below hf ((Spec.applies_iff_loose hf).mp happ).1 ⟨rfl, State.Warmed39.refl s, rfl⟩ trivial
  refine ⟨n, _, h1, h2, h3, hpost _ _ _ _ _ _ ⟨Cond.after_iff.mpr rfl, Cond.after_iff.mpr (eq_i res_at (Term.int_eval (1)) rfl), trivial⟩ ⟨hq.1, hq.2.1, (hq.2.2.sift fun y hy => Or.inr (N y hy)).mono (by decide) (by decide)⟩⟩
theorem main_1_1 : Claimed_1_1 := comes_1 fun _ _ _ _ _ _ h hF => ⟨h.1, hF⟩
theorem main_1_2 : Claimed_1_2 := comes_1 fun _ _ _ _ _ _ h hF => ⟨h.2.1, hF⟩
end Jvm.Pilot.@@N@@
namespace Jvm.Pilot.@@N@@
open Jvm Jvm.ClassFile Sem Op Lib Jvm.Free Jvm.Stand Jvm.Pilot.@@N@@.Jvm.D
/-! MADE BY PROGRAM (witnessworld.py) out of the Statement's table words and the real class files: 15 classes; the members and pool entries that the words name. The judged class is class 1, her method 1. -/
namespace start1
open Jvm.ClassFile
def u (s : String) : CpInfo := .utf8 (stringToUtf16 s)
/-- a pool by its gaps: so many unusable entries, then the entry; so many at the end -/
def gap : Nat → List CpInfo → List CpInfo
  | 0, r => r
  | n + 1, r => .unusable :: gap n r
def poolList (es : List (Nat × CpInfo)) (last : Nat) : List CpInfo := es.foldr (fun e r => gap e.1 (e.2 :: r)) (gap last [])
def pool (es : List (Nat × CpInfo)) (last : Nat) : Array CpInfo := ⟨poolList es last⟩
def fileOf (pool : Array CpInfo) (this : Nat) (attrs : Array Attribute := #[]) (ms : Array MethodInfo := #[]) (fl : Nat := 33) (sup : Nat := 0) (ifs : Array Nat := #[]) (fds : Array FieldInfo := #[]) : ClassFile where
  minorVersion := 0
  majorVersion := 65
  constantPool := pool
  accessFlags := fl
  thisClass := this
  superClass := sup
  interfaces := ifs
  fields := fds
  methods := ms
  attributes := attrs
def plain (name : String) (sup : Option ClassId) : Class where
  name := name
  kind := .ordinary
  loader := none
  accessFlags := 33
  super := sup
  interfaces := #[]
  cf := none
  fields := #[]
  methods := #[]
  instanceTypes := #[]
  staticTypes := #[]
  resolved := #[]
  callSites := []
  init := .initialized
  statics := none
  mirror := none

def pool0 : Array CpInfo := pool [(5, u "<init>"), (0, u "()V"), (1, .class_ 10), (1, u "java/lang/Object")] 113

def k0c0 : Code := { maxStack := 0, maxLocals := 1, code := object_method_1_code, exceptionTable := #[], attributes := #[] }
def k0m0 : Method := { name := "<init>", desc := "()V", sig := { parameters := [], returnType := none }, accessFlags := 1, code := some k0c0 }
/-- java/lang/Object -/
def k0 : Class := { plain "java/lang/Object" none with
  accessFlags := 33
  interfaces := #[]
  cf := some (fileOf pool0 8 #[] #[{ accessFlags := 1, nameIndex := 5, descriptorIndex := 6, attributes := #[] }] 33 0 #[] #[])
  fields := #[]
  methods := #[k0m0]
  instanceTypes := #[]
  staticTypes := #[]
  resolved := Array.replicate 124 none
  statics := none }

def pool1 : Array CpInfo := pool [(2, .class_ 4), (1, u "java/lang/Object"), (0, u "<init>"), (0, u "()V"), (0, .integer 2147483647), (2, .long 18446744073709551615), (1, .class_ 13), (0, u "com/example/epsilon_filter/epsilonfilter/filters/SlotRule"), (0, .methodref 12 15), (0, .nameAndType 5 16), (0, u "(IIIJII)V"), (0, .methodref 12 18), (0, .nameAndType 19 20), (0, u "slot"), (0, u "(IJI)I"), (0, .class_ 22), (0, u "com/example/epsilon_filter/epsilonfilter/filters/SlotRuleSlotPinLaw"), (2, u "law"), (0, u "(IIIJI)Z")] 3

def k1m0 : Method := { name := "<init>", desc := "()V", sig := { parameters := [], returnType := none }, accessFlags := 1, code := none }
def k1c1 : Code := { maxStack := 10, maxLocals := 20, code := code, exceptionTable := #[], attributes := #[] }
def k1m1 : Method := { name := "law", desc := "(IIIJI)Z", sig := { parameters := [.int, .int, .int, .long, .int], returnType := some .boolean }, accessFlags := 9, code := some k1c1 }
/-- com/example/epsilon_filter/epsilonfilter/filters/SlotRuleSlotPinLaw -/
def k1 : Class := { plain "com/example/epsilon_filter/epsilonfilter/filters/SlotRuleSlotPinLaw" (some 0) with
  accessFlags := 49
  interfaces := #[]
  cf := some (fileOf pool1 21 #[] #[{ accessFlags := 1, nameIndex := 5, descriptorIndex := 6, attributes := #[] }, { accessFlags := 9, nameIndex := 25, descriptorIndex := 26, attributes := #[] }] 49 2 #[] #[])
  fields := #[]
  methods := #[k1m0, k1m1]
  instanceTypes := #[]
  staticTypes := #[]
  resolved := Array.replicate 30 none
  statics := none }

def pool2 : Array CpInfo := pool [(1, .methodref 2 3), (0, .class_ 4), (0, .nameAndType 5 6), (0, u "java/lang/Object"), (0, u "<init>"), (0, u "()V"), (0, .class_ 8), (0, u "com/example/epsilon_filter/epsilonfilter/filters/SlotRule"), (0, .methodref 10 11), (0, .class_ 12), (0, .nameAndType 13 14), (0, u "java/lang/Math"), (0, u "min"), (0, u "(II)I"), (0, .fieldref 7 16), (0, .nameAndType 17 18), (0, u "formatVersion"), (0, u "I"), (0, .fieldref 7 20), (0, .nameAndType 21 22), (0, u "offsetsRemixed"), (0, u "Z"), (0, .fieldref 7 24), (0, .nameAndType 25 18), (0, u "arity"), (0, .fieldref 7 27), (0, .nameAndType 28 18), (0, u "fingerprintBits"), (0, .fieldref 7 30), (0, .nameAndType 31 32), (0, u "seed"), (0, u "J"), (0, .fieldref 7 34), (0, .nameAndType 35 18), (0, u "segmentLength"), (0, .methodref 37 38), (0, .class_ 39), (0, .nameAndType 40 41), (0, u "java/lang/Integer"), (0, u "numberOfTrailingZeros"), (0, u "(I)I"), (0, .fieldref 7 43), (0, .nameAndType 44 18), (0, u "segmentLengthBits"), (0, .fieldref 7 46), (0, .nameAndType 47 18), (0, u "segmentCount"), (0, .fieldref 7 49), (0, .nameAndType 50 32), (0, u "firstSlotRange"), (16, u "LATEST_VERSION"), (2, u "FINGERPRINT_MULTIPLIER"), (0, u "(IIIJII)V"), (15, u "slot"), (0, u "(IJI)I")] 3

def k2c0 : Code := { maxStack := 5, maxLocals := 8, code := prog_73_method_1_code, exceptionTable := #[], attributes := #[] }
def k2m0 : Method := { name := "<init>", desc := "(IIIJII)V", sig := { parameters := [.int, .int, .int, .long, .int, .int], returnType := none }, accessFlags := 0, code := some k2c0 }
def k2c1 : Code := { maxStack := 5, maxLocals := 7, code := prog_73_method_11_code, exceptionTable := #[], attributes := #[] }
def k2m1 : Method := { name := "slot", desc := "(IJI)I", sig := { parameters := [.int, .long, .int], returnType := some .int }, accessFlags := 0, code := some k2c1 }
/-- com/example/epsilon_filter/epsilonfilter/filters/SlotRule -/
def k2 : Class := { plain "com/example/epsilon_filter/epsilonfilter/filters/SlotRule" (some 0) with
  accessFlags := 48
  interfaces := #[]
  cf := some (fileOf pool2 7 #[] #[{ accessFlags := 0, nameIndex := 5, descriptorIndex := 71, attributes := #[] }, { accessFlags := 0, nameIndex := 87, descriptorIndex := 88, attributes := #[] }] 48 2 #[] #[{ accessFlags := 24, nameIndex := 67, descriptorIndex := 18, attributes := #[] }, { accessFlags := 26, nameIndex := 70, descriptorIndex := 32, attributes := #[] }, { accessFlags := 18, nameIndex := 17, descriptorIndex := 18, attributes := #[] }, { accessFlags := 18, nameIndex := 21, descriptorIndex := 22, attributes := #[] }, { accessFlags := 18, nameIndex := 25, descriptorIndex := 18, attributes := #[] }, { accessFlags := 18, nameIndex := 28, descriptorIndex := 18, attributes := #[] }, { accessFlags := 18, nameIndex := 31, descriptorIndex := 32, attributes := #[] }, { accessFlags := 18, nameIndex := 35, descriptorIndex := 18, attributes := #[] }, { accessFlags := 18, nameIndex := 44, descriptorIndex := 18, attributes := #[] }, { accessFlags := 18, nameIndex := 47, descriptorIndex := 18, attributes := #[] }, { accessFlags := 18, nameIndex := 50, descriptorIndex := 32, attributes := #[] }])
  fields := #[{ name := "LATEST_VERSION", type := .int, accessFlags := 24, slot := 0, constantValue := 0 }, { name := "FINGERPRINT_MULTIPLIER", type := .long, accessFlags := 26, slot := 1, constantValue := 0 }, { name := "formatVersion", type := .int, accessFlags := 18, slot := 0, constantValue := 0 }, { name := "offsetsRemixed", type := .boolean, accessFlags := 18, slot := 1, constantValue := 0 }, { name := "arity", type := .int, accessFlags := 18, slot := 2, constantValue := 0 }, { name := "fingerprintBits", type := .int, accessFlags := 18, slot := 3, constantValue := 0 }, { name := "seed", type := .long, accessFlags := 18, slot := 4, constantValue := 0 }, { name := "segmentLength", type := .int, accessFlags := 18, slot := 5, constantValue := 0 }, { name := "segmentLengthBits", type := .int, accessFlags := 18, slot := 6, constantValue := 0 }, { name := "segmentCount", type := .int, accessFlags := 18, slot := 7, constantValue := 0 }, { name := "firstSlotRange", type := .long, accessFlags := 18, slot := 8, constantValue := 0 }]
  methods := #[k2m0, k2m1]
  instanceTypes := #[.int, .boolean, .int, .int, .long, .int, .int, .int, .long]
  staticTypes := #[.int, .long]
  resolved := Array.replicate 92 none
  statics := none }

def pool3 : Array CpInfo := pool [(1, .class_ 2), (0, u "java/lang/Math"), (1, .class_ 6), (1, u "java/lang/Object"), (0, u "<init>"), (0, u "()V"), (89, .class_ 100), (1, u "java/lang/Math$RandomNumberGeneratorHolder"), (71, u "negativeZeroFloatBits"), (0, u "J"), (2, u "negativeZeroDoubleBits"), (24, u "min"), (43, u "$assertionsDisabled"), (0, u "Z"), (88, u "(II)I"), (2, u "twoToTheDoubleScaleDown"), (0, u "D"), (4, u "twoToTheDoubleScaleUp"), (9, u "E"), (3, u "PI"), (2, u "TAU"), (2, u "DEGREES_TO_RADIANS"), (0, u "RADIANS_TO_DEGREES")] 94

def k3m0 : Method := { name := "<init>", desc := "()V", sig := { parameters := [], returnType := none }, accessFlags := 2, code := none }
def k3c1 : Code := { maxStack := 2, maxLocals := 2, code := jdk_29_method_69_code, exceptionTable := #[], attributes := #[] }
def k3m1 : Method := { name := "min", desc := "(II)I", sig := { parameters := [.int, .int], returnType := some .int }, accessFlags := 9, code := some k3c1 }
/-- java/lang/Math -/
def k3 : Class := { plain "java/lang/Math" (some 0) with
  accessFlags := 49
  interfaces := #[]
  cf := some (fileOf pool3 1 #[.nestMembers #[98]] #[{ accessFlags := 2, nameIndex := 7, descriptorIndex := 8, attributes := #[] }, { accessFlags := 9, nameIndex := 201, descriptorIndex := 335, attributes := #[] }] 49 4 #[] #[{ accessFlags := 25, nameIndex := 354, descriptorIndex := 339, attributes := #[] }, { accessFlags := 25, nameIndex := 358, descriptorIndex := 339, attributes := #[] }, { accessFlags := 25, nameIndex := 361, descriptorIndex := 339, attributes := #[] }, { accessFlags := 26, nameIndex := 364, descriptorIndex := 339, attributes := #[] }, { accessFlags := 26, nameIndex := 365, descriptorIndex := 339, attributes := #[] }, { accessFlags := 26, nameIndex := 172, descriptorIndex := 173, attributes := #[] }, { accessFlags := 26, nameIndex := 176, descriptorIndex := 173, attributes := #[] }, { accessFlags := 8, nameIndex := 344, descriptorIndex := 339, attributes := #[] }, { accessFlags := 8, nameIndex := 338, descriptorIndex := 339, attributes := #[] }, { accessFlags := 4120, nameIndex := 245, descriptorIndex := 246, attributes := #[] }])
  fields := #[{ name := "E", type := .double, accessFlags := 25, slot := 0, constantValue := 0 }, { name := "PI", type := .double, accessFlags := 25, slot := 1, constantValue := 0 }, { name := "TAU", type := .double, accessFlags := 25, slot := 2, constantValue := 0 }, { name := "DEGREES_TO_RADIANS", type := .double, accessFlags := 26, slot := 3, constantValue := 0 }, { name := "RADIANS_TO_DEGREES", type := .double, accessFlags := 26, slot := 4, constantValue := 0 }, { name := "negativeZeroFloatBits", type := .long, accessFlags := 26, slot := 5, constantValue := 0 }, { name := "negativeZeroDoubleBits", type := .long, accessFlags := 26, slot := 6, constantValue := 0 }, { name := "twoToTheDoubleScaleUp", type := .double, accessFlags := 8, slot := 7, constantValue := 0 }, { name := "twoToTheDoubleScaleDown", type := .double, accessFlags := 8, slot := 8, constantValue := 0 }, { name := "$assertionsDisabled", type := .boolean, accessFlags := 4120, slot := 9, constantValue := 0 }]
  methods := #[k3m0, k3m1]
  instanceTypes := #[]
  staticTypes := #[.double, .double, .double, .double, .double, .long, .long, .double, .double, .boolean]
  resolved := Array.replicate 460 none
  statics := none }

def pool4 : Array CpInfo := pool [(1, .class_ 2), (0, u "java/io/Serializable"), (0, .class_ 4), (0, u "java/lang/Object")] 2

/-- java/io/Serializable -/
def k4 : Class := { plain "java/io/Serializable" (some 0) with
  accessFlags := 1537
  interfaces := #[]
  cf := some (fileOf pool4 1 #[] #[] 1537 3 #[] #[])
  fields := #[]
  methods := #[]
  instanceTypes := #[]
  staticTypes := #[]
  resolved := Array.replicate 7 none
  statics := none }

def pool5 : Array CpInfo := pool [(2, .class_ 4), (1, u "java/lang/Object"), (0, u "<init>"), (0, u "()V"), (1, .class_ 10), (1, u "java/lang/Number"), (2, .class_ 14), (0, u "java/io/Serializable"), (0, u "serialVersionUID"), (0, u "J")] 20

def k5m0 : Method := { name := "<init>", desc := "()V", sig := { parameters := [], returnType := none }, accessFlags := 1, code := none }
/-- java/lang/Number -/
def k5 : Class := { plain "java/lang/Number" (some 0) with
  accessFlags := 1057
  interfaces := #[4]
  cf := some (fileOf pool5 8 #[] #[{ accessFlags := 1, nameIndex := 5, descriptorIndex := 6, attributes := #[] }] 1057 2 #[13] #[{ accessFlags := 26, nameIndex := 15, descriptorIndex := 16, attributes := #[] }])
  fields := #[{ name := "serialVersionUID", type := .long, accessFlags := 26, slot := 0, constantValue := 0 }]
  methods := #[k5m0]
  instanceTypes := #[]
  staticTypes := #[.long]
  resolved := Array.replicate 37 none
  statics := none }

def pool6 : Array CpInfo := pool [(1, .class_ 2), (0, u "java/lang/Comparable"), (0, .class_ 4), (0, u "java/lang/Object")] 7

/-- java/lang/Comparable -/
def k6 : Class := { plain "java/lang/Comparable" (some 0) with
  accessFlags := 1537
  interfaces := #[]
  cf := some (fileOf pool6 1 #[] #[] 1537 3 #[] #[])
  fields := #[]
  methods := #[]
  instanceTypes := #[]
  staticTypes := #[]
  resolved := Array.replicate 12 none
  statics := none }

def pool7 : Array CpInfo := pool [(1, .class_ 2), (0, u "java/lang/constant/Constable"), (0, .class_ 4), (0, u "java/lang/Object")] 6

/-- java/lang/constant/Constable -/
def k7 : Class := { plain "java/lang/constant/Constable" (some 0) with
  accessFlags := 1537
  interfaces := #[]
  cf := some (fileOf pool7 1 #[] #[] 1537 3 #[] #[])
  fields := #[]
  methods := #[]
  instanceTypes := #[]
  staticTypes := #[]
  resolved := Array.replicate 11 none
  statics := none }

def pool8 : Array CpInfo := pool [(1, .class_ 2), (0, u "java/lang/constant/ConstantDesc"), (0, .class_ 4), (0, u "java/lang/Object")] 32

/-- java/lang/constant/ConstantDesc -/
def k8 : Class := { plain "java/lang/constant/ConstantDesc" (some 0) with
  accessFlags := 1537
  interfaces := #[]
  cf := some (fileOf pool8 1 #[] #[] 1537 3 #[] #[])
  fields := #[]
  methods := #[]
  instanceTypes := #[]
  staticTypes := #[]
  resolved := Array.replicate 37 none
  statics := none }

def pool9 : Array CpInfo := pool [(1, .class_ 2), (0, u "java/lang/Integer"), (16, u "digits"), (0, u "[C"), (33, u "(I)I"), (30, u "DigitOnes"), (0, u "[B"), (2, u "DigitTens"), (99, .class_ 190), (0, u "java/lang/Integer$IntegerCache"), (3, u "I"), (8, .class_ 204), (0, u "java/lang/Number"), (2, u "value"), (56, .integer 65536), (37, u "TYPE"), (0, u "Ljava/lang/Class;"), (0, .class_ 305), (0, u "java/lang/Comparable"), (0, .class_ 307), (0, u "java/lang/constant/Constable"), (0, .class_ 309), (0, u "java/lang/constant/ConstantDesc"), (0, u "MIN_VALUE"), (1, u "MAX_VALUE"), (3, u "SIZE"), (1, u "BYTES"), (1, u "serialVersionUID"), (0, u "J"), (84, u "numberOfTrailingZeros")] 46

def k9c0 : Code := { maxStack := 3, maxLocals := 2, code := jdk_33_method_48_code, exceptionTable := #[], attributes := #[] }
def k9m0 : Method := { name := "numberOfTrailingZeros", desc := "(I)I", sig := { parameters := [.int], returnType := some .int }, accessFlags := 9, code := some k9c0 }
/-- java/lang/Integer -/
def k9 : Class := { plain "java/lang/Integer" (some 5) with
  accessFlags := 49
  interfaces := #[6, 7, 8]
  cf := some (fileOf pool9 1 #[.nestMembers #[189]] #[{ accessFlags := 9, nameIndex := 406, descriptorIndex := 54, attributes := #[] }] 49 203 #[304, 306, 308] #[{ accessFlags := 25, nameIndex := 310, descriptorIndex := 194, attributes := #[] }, { accessFlags := 25, nameIndex := 312, descriptorIndex := 194, attributes := #[] }, { accessFlags := 25, nameIndex := 302, descriptorIndex := 303, attributes := #[] }, { accessFlags := 24, nameIndex := 19, descriptorIndex := 20, attributes := #[] }, { accessFlags := 24, nameIndex := 89, descriptorIndex := 86, attributes := #[] }, { accessFlags := 24, nameIndex := 85, descriptorIndex := 86, attributes := #[] }, { accessFlags := 18, nameIndex := 207, descriptorIndex := 194, attributes := #[] }, { accessFlags := 25, nameIndex := 316, descriptorIndex := 194, attributes := #[] }, { accessFlags := 25, nameIndex := 318, descriptorIndex := 194, attributes := #[] }, { accessFlags := 26, nameIndex := 320, descriptorIndex := 321, attributes := #[] }])
  fields := #[{ name := "MIN_VALUE", type := .int, accessFlags := 25, slot := 0, constantValue := 0 }, { name := "MAX_VALUE", type := .int, accessFlags := 25, slot := 1, constantValue := 0 }, { name := "TYPE", type := (.object "java/lang/Class"), accessFlags := 25, slot := 2, constantValue := 0 }, { name := "digits", type := (.array .char), accessFlags := 24, slot := 3, constantValue := 0 }, { name := "DigitTens", type := (.array .byte), accessFlags := 24, slot := 4, constantValue := 0 }, { name := "DigitOnes", type := (.array .byte), accessFlags := 24, slot := 5, constantValue := 0 }, { name := "value", type := .int, accessFlags := 18, slot := 0, constantValue := 0 }, { name := "SIZE", type := .int, accessFlags := 25, slot := 6, constantValue := 0 }, { name := "BYTES", type := .int, accessFlags := 25, slot := 7, constantValue := 0 }, { name := "serialVersionUID", type := .long, accessFlags := 26, slot := 8, constantValue := 0 }]
  methods := #[k9m0]
  instanceTypes := #[.int]
  staticTypes := #[.int, .int, (.object "java/lang/Class"), (.array .char), (.array .byte), (.array .byte), .int, .int, .long]
  resolved := Array.replicate 453 none
  statics := none }

def pool10 : Array CpInfo := pool [(1, u "java/lang/Cloneable"), (0, .class_ 1), (0, u "java/lang/Object"), (0, .class_ 3)] 3

/-- java/lang/Cloneable -/
def k10 : Class := { plain "java/lang/Cloneable" (some 0) with
  accessFlags := 1537
  interfaces := #[]
  cf := some (fileOf pool10 2 #[] #[] 1537 4 #[] #[])
  fields := #[]
  methods := #[]
  instanceTypes := #[]
  staticTypes := #[]
  resolved := Array.replicate 8 none
  statics := none }

/-- the primitive byte -/
def k11 : Class := { plain "byte" none with kind := .primitive 'B', accessFlags := 0x411 }
/-- [B -/
def k12 : Class := { plain "[B" (some 0) with kind := .array 11 .byte, interfaces := #[10, 4], accessFlags := 1041 }

/-- the primitive int -/
def k13 : Class := { plain "int" none with kind := .primitive 'I', accessFlags := 0x411 }
/-- [I -/
def k14 : Class := { plain "[I" (some 0) with kind := .array 13 .int, interfaces := #[10, 4], accessFlags := 1041 }

def heap : Heap := #[]
def classes : Array Class := #[k0, k1, k2, k3, k4, k5, k6, k7, k8, k9, k10, k11, k12, k13, k14]
def interned : List (Array UInt16 × Addr) := []
def slotsUsed : Nat := 0
def theMethod : MethodId := ⟨1, 1⟩
def args0 : Array Value := #[.int 5, .int 6, .int 7, .long 8, .int 9]
def aboutOver (below : List Frame) : State where
  vm := { classes := classes, interned := interned.toArray }
  heap := heap
  slotsUsed := slotsUsed
  threads := #[{ frames := .invoking theMethod args0 :: below }]
def below0 : List Frame := [.native { method := ⟨0, 0⟩, args := #[] }]
def about1 : State := aboutOver below0
def p0 : Program := .bare "" "" ""
def e0 : Env := launch0.env 0 0 0
theorem w_frames : about1.frames = Frame.invoking theMethod args0 :: below0 := rfl
set_option maxRecDepth 65536 in
theorem w_args : argsFit about1.vm theMethod args0 = true := by decide +kernel
set_option maxRecDepth 65536 in
theorem w_heap : heapFits about1 = true := by decide +kernel
set_option maxRecDepth 65536 in
theorem w_runnable : about1.curStatus? = some .runnable := by decide +kernel
set_option maxRecDepth 65536 in
theorem w_alone : about1.alone = true := by decide +kernel
set_option maxRecDepth 65536 in
theorem w_named : about1.methodNamed? x = some theMethod := by decide +kernel
set_option maxRecDepth 65536 in
theorem w_hears : about1.hears theMethod below0 = true := by decide +kernel
set_option maxRecDepth 65536 in
theorem w_ripe : about1.ripe theMethod args0 below0 = true := by decide +kernel
theorem w_running : about1.status = .running := rfl
set_option maxRecDepth 65536 in
theorem w_room : about1.hasRoom e0.platform room_1 = true :=
  launch0.hasRoom_least _ room_1 (by decide +kernel) (by decide +kernel) (by decide +kernel) (by decide +kernel) (by decide +kernel) (by decide +kernel)
theorem allAtoms_all (ts : List Jvm.Cond) (a : Array Jvm.Value) (st : Jvm.State) : (allAtoms ts).before a st = ts.all (fun c => c.before a st) := by
  induction ts with
  | nil => rfl
  | cons c t ih =>
    show (Jvm.Cond.and c (allAtoms t)).before a st = _
    rw [Jvm.Cond.before_and, ih, List.all_cons]
def words1 : List Jvm.Cond := Jvm.Cond.code x code maxLocals ret :: tables_1
/-- a 'code' word, met by the world's own term for the bytes: nothing is compared byte by byte -/
theorem code_word {y : MethodName} {bytes : ByteArray} {mx : Nat} {rt : Option FieldType} {a : Array Value} {s : State} {m : MethodId} {meth : Method} {c : Code} (h1 : s.methodNamed? y = some m) (h2 : s.vm.method? m = some meth) (h3 : meth.code = some c) (h4 : c.code = bytes)
    (h5 : (c.maxLocals == mx && c.exceptionTable.isEmpty && decide (c.maxStack ≤ mostOperands) && decide (meth.sig.returnType = rt) && !meth.locks && decide (parseMethodDescriptor y.desc = some meth.sig)) = true) : (Jvm.Cond.code y bytes mx rt).before a s = true := by
  simp only [Bool.and_eq_true, beq_iff_eq, Bool.not_eq_true', decide_eq_true_eq] at h5
  obtain ⟨⟨⟨⟨⟨g1, g2⟩, g3⟩, g4⟩, g5⟩, g6⟩ := h5
  simp [Cond.before, Cond.holds, Cond.value, h1, h2, h3, h4, g1, g2, g3, g4, g5, g6]
def isCode : Jvm.Cond → Bool
  | .code _ _ _ _ => true
  | _ => false
theorem all_split {L : List Jvm.Cond} {P : Jvm.Cond → Bool} (h1 : L.all (fun c => isCode c || P c) = true) (h2 : ∀ c ∈ L.filter isCode, P c = true) : L.all P = true := by
  refine List.all_eq_true.mpr fun c hc => ?_
  have h := List.all_eq_true.mp h1 c hc
  rcases Bool.eq_false_or_eq_true (isCode c) with hi | hi
  · exact h2 c (List.mem_filter.mpr ⟨hc, hi⟩)
  · simpa [hi] using h
set_option maxRecDepth 65536 in
theorem w_c0 : (Jvm.Cond.code x code maxLocals ret).before args0 about1 = true := code_word (m := ⟨1, 1⟩) (meth := k1m1) (c := k1c1) (by decide +kernel) rfl rfl rfl (by decide +kernel)
set_option maxRecDepth 65536 in
theorem w_c1 : (Jvm.Cond.code ({ cls := "com/example/epsilon_filter/epsilonfilter/filters/SlotRule", name := "<init>", desc := "(IIIJII)V" } : Jvm.MethodName) prog_73_method_1_code (8 : Nat) (Option.none : Option Jvm.ClassFile.FieldType)).before args0 about1 = true := code_word (m := ⟨2, 0⟩) (meth := k2m0) (c := k2c0) (by decide +kernel) rfl rfl rfl (by decide +kernel)
set_option maxRecDepth 65536 in
theorem w_c2 : (Jvm.Cond.code ({ cls := "java/lang/Object", name := "<init>", desc := "()V" } : Jvm.MethodName) object_method_1_code (1 : Nat) (Option.none : Option Jvm.ClassFile.FieldType)).before args0 about1 = true := code_word (m := ⟨0, 0⟩) (meth := k0m0) (c := k0c0) (by decide +kernel) rfl rfl rfl (by decide +kernel)
set_option maxRecDepth 65536 in
theorem w_c3 : (Jvm.Cond.code ({ cls := "java/lang/Math", name := "min", desc := "(II)I" } : Jvm.MethodName) jdk_29_method_69_code (2 : Nat) (Option.some Jvm.ClassFile.FieldType.int)).before args0 about1 = true := code_word (m := ⟨3, 1⟩) (meth := k3m1) (c := k3c1) (by decide +kernel) rfl rfl rfl (by decide +kernel)
set_option maxRecDepth 65536 in
theorem w_c4 : (Jvm.Cond.code ({ cls := "java/lang/Integer", name := "numberOfTrailingZeros", desc := "(I)I" } : Jvm.MethodName) jdk_33_method_48_code (2 : Nat) (Option.some Jvm.ClassFile.FieldType.int)).before args0 about1 = true := code_word (m := ⟨9, 0⟩) (meth := k9m0) (c := k9c0) (by decide +kernel) rfl rfl rfl (by decide +kernel)
set_option maxRecDepth 65536 in
theorem w_c5 : (Jvm.Cond.code ({ cls := "com/example/epsilon_filter/epsilonfilter/filters/SlotRule", name := "slot", desc := "(IJI)I" } : Jvm.MethodName) prog_73_method_11_code (7 : Nat) (Option.some Jvm.ClassFile.FieldType.int)).before args0 about1 = true := code_word (m := ⟨2, 1⟩) (meth := k2m1) (c := k2c1) (by decide +kernel) rfl rfl rfl (by decide +kernel)
def codes1 : List Jvm.Cond := [Jvm.Cond.code x code maxLocals ret, Jvm.Cond.code ({ cls := "com/example/epsilon_filter/epsilonfilter/filters/SlotRule", name := "<init>", desc := "(IIIJII)V" } : Jvm.MethodName) prog_73_method_1_code (8 : Nat) (Option.none : Option Jvm.ClassFile.FieldType), Jvm.Cond.code ({ cls := "java/lang/Object", name := "<init>", desc := "()V" } : Jvm.MethodName) object_method_1_code (1 : Nat) (Option.none : Option Jvm.ClassFile.FieldType), Jvm.Cond.code ({ cls := "java/lang/Math", name := "min", desc := "(II)I" } : Jvm.MethodName) jdk_29_method_69_code (2 : Nat) (Option.some Jvm.ClassFile.FieldType.int), Jvm.Cond.code ({ cls := "java/lang/Integer", name := "numberOfTrailingZeros", desc := "(I)I" } : Jvm.MethodName) jdk_33_method_48_code (2 : Nat) (Option.some Jvm.ClassFile.FieldType.int), Jvm.Cond.code ({ cls := "com/example/epsilon_filter/epsilonfilter/filters/SlotRule", name := "slot", desc := "(IJI)I" } : Jvm.MethodName) prog_73_method_11_code (7 : Nat) (Option.some Jvm.ClassFile.FieldType.int)]
set_option maxRecDepth 65536 in
theorem codes_eq : words1.filter isCode = codes1 := rfl
theorem w_codes : ∀ c ∈ words1.filter isCode, c.before args0 about1 = true := by
  rw [codes_eq]
  intro c hc
  simp only [codes1, List.mem_cons, List.not_mem_nil, or_false] at hc
  rcases hc with rfl | rfl | rfl | rfl | rfl | rfl
  · exact w_c0
  · exact w_c1
  · exact w_c2
  · exact w_c3
  · exact w_c4
  · exact w_c5
set_option maxRecDepth 65536 in
theorem w_t1 : (words1.take 24).all (fun c => isCode c || c.before args0 about1) = true := by decide +kernel
set_option maxRecDepth 65536 in
theorem w_t2 : (words1.drop 24).all (fun c => isCode c || c.before args0 about1) = true := by decide +kernel
theorem w_tables : (allAtoms (Jvm.Cond.code x code maxLocals ret :: tables_1)).before args0 about1 = true := by
  rw [allAtoms_all]
  show words1.all (fun c => c.before args0 about1) = true
  refine all_split ?_ w_codes
  rw [← List.take_append_drop 24 words1, List.all_append, w_t1, w_t2]
  rfl
set_option maxRecDepth 65536 in
theorem w_case : (Jvm.Cond.and given_1 narrow_1).before args0 about1 = true := by decide +kernel
theorem w_applies : (headSpec (Jvm.Cond.code x code maxLocals ret :: tables_1) room_1).applies x e0.platform about1 = true :=
  (Spec.applies_iff w_frames).mpr ⟨w_running, w_runnable, w_alone, w_named, w_hears, w_ripe, w_room, w_tables⟩
theorem atStart : AtStart classFile x code maxLocals ret World_1 tables_1 room_1 Calls_1 rest_1 Pre_1 launch0 p0 e0 about1 theMethod args0 below0 :=
  ⟨lists_1, trivial, launch0.admits_env _ _ _, launch0.least_env, fairChoices_fair.cas, fairChoices_fair.clock, w_frames, w_args, w_heap, w_applies, trivial, trivial, w_case⟩
end start1
theorem witness_1 : WitnessClaimed_1 := ⟨start1.p0, start1.e0, start1.about1, start1.theMethod, start1.args0, start1.below0, start1.atStart⟩
end Jvm.Pilot.@@N@@
